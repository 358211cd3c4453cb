/- Walks and plain laws joined (Hl). Conditions: stand in each law. -/
import Derived.Test.YtghajgdiaopioaaGreatDoorJxr
import Derived.Test.YtghajgdiaopioaaGreatDoorJxs
set_option linter.unusedVariables false
set_option linter.unusedSimpArgs false
section
/- Walks: fmtEFG on all digits and exponents. Conditions: stand in each contract. -/
namespace Go.Proofs.YtghajgdiaopioaaGreatDoor
open Go.RowKit Go.Proofs Tx
set_option maxRecDepth 20000 in
/-- ████ fmtEFG. ████ -/
theorem efg_any (w : World) (B : Nat) (A : Option Addr) (k c : Nat) (xs : Bs) (g : Nat) {ds : Bs} (h : Ds ds) {dp : Int} (h1 : -330 ≤ dp) (h2 : dp ≤ 330) (neg : Bool)
    (hR : byteK.R 5 w B (fun q => q ≠ g) (.slice A k c) xs) (hD : DigAt g ds w) (hB : B ≤ w.heap.size) (hx : xs.length ≤ 1000) :
    Calls Tryz.prog 151 #[.slice A k c, .bool neg, .slice (some ⟨g, 0, none⟩) 32 32, .int .i64 dp, .int .i64 ds.length, .int .i64 ds.length, .int .u8 103, .bool true] w fun e w' =>
      ∃ v, e = .returned v ∧ byteK.R 5 w' B (fun q => q ≠ g) v (xs ++ numT neg ds dp) ∧ Below B w w' := by
  obtain ⟨l1, l2⟩ := h.ln
  have fin : ∀ {T : Bs}, T = xs ++ numT neg ds dp → (Calls Tryz.prog 151 #[.slice A k c, .bool neg, .slice (some ⟨g, 0, none⟩) 32 32, .int .i64 dp, .int .i64 ds.length, .int .i64 ds.length, .int .u8 103, .bool true] w fun e w' =>
      ∃ v, e = .returned v ∧ byteK.R 5 w' B (fun q => q ≠ g) v T ∧ Below B w w') → Calls Tryz.prog 151 #[.slice A k c, .bool neg, .slice (some ⟨g, 0, none⟩) 32 32, .int .i64 dp, .int .i64 ds.length, .int .i64 ds.length, .int .u8 103, .bool true] w fun e w' =>
      ∃ v, e = .returned v ∧ byteK.R 5 w' B (fun q => q ≠ g) v (xs ++ numT neg ds dp) ∧ Below B w w' := by
    intro T hT hc
    rw [← hT]
    exact hc
  cases hE : isE dp with
  | true =>
    obtain ⟨d0, dr, rfl, hd0⟩ := h.hd
    have hlen : (((d0 :: dr).length : Nat) : Int) = ((dr.length + 1 : Nat) : Int) := by simp
    have hexp : ∀ x : Nat, (dp - 1).natAbs = x → expT dp = 101 :: (if dp - 1 < 0 then 45 else 43) :: e2T x := fun x hx => by unfold expT; rw [hE, if_pos rfl, hx]
    have hout : dp < -3 ∨ 6 < dp := by
      unfold isE at hE
      simpa using hE
    rcases hout with k1 | k1
    · obtain ⟨x, hxx⟩ : ∃ x : Nat, dp = 1 - (x : Int) := ⟨(1 - dp).toNat, by omega⟩
      have hex := hexp x (by omega)
      rw [if_pos (by omega)] at hex
      cases dr with
      | nil =>
        have hb : bodyT [d0] dp = [d0] := by unfold bodyT; rw [hE]; rfl
        refine fin (T := xs ++ sgT neg ++ [d0] ++ [101] ++ [45] ++ e2T x) (by unfold numT; rw [hb, hex]; simp) ?_
        rw [hxx]
        cases neg
        · have := efgE_001 w B A k c xs g d0 x (by omega) (by omega) hR hD hB hx
          simpa [sgT] using this
        · have := efgE_101 w B A k c xs g d0 x (by omega) (by omega) hR hD hB hx
          simpa [sgT] using this
      | cons d1 dq =>
        obtain ⟨dr, hdr⟩ : ∃ dr, dr = d1 :: dq := ⟨_, rfl⟩
        rw [← hdr] at h hD hlen l1 l2 fin ⊢
        have hm1 : 1 ≤ dr.length := by rw [hdr]; simp
        have hm2 : dr.length ≤ 16 := by simp only [List.length_cons] at l2; omega
        have hb : bodyT (d0 :: dr) dp = [d0] ++ 46 :: dr := by
          unfold bodyT
          rw [hE, if_pos rfl, if_pos (by simp only [List.length_cons]; omega)]
          rfl
        refine fin (T := xs ++ sgT neg ++ [d0] ++ [46] ++ dr ++ [101] ++ [45] ++ e2T x) (by unfold numT; rw [hb, hex]; simp) ?_
        rw [hxx, hlen]
        cases neg
        · have := efgE_011 w B A k c xs g d0 dr hm1 hm2 x (by omega) (by omega) hR hD hB hx
          simpa [sgT] using this
        · have := efgE_111 w B A k c xs g d0 dr hm1 hm2 x (by omega) (by omega) hR hD hB hx
          simpa [sgT] using this
    · obtain ⟨x, hxx⟩ : ∃ x : Nat, dp = 1 + (x : Int) := ⟨(dp - 1).toNat, by omega⟩
      have hex := hexp x (by omega)
      rw [if_neg (by omega)] at hex
      cases dr with
      | nil =>
        have hb : bodyT [d0] dp = [d0] := by unfold bodyT; rw [hE]; rfl
        refine fin (T := xs ++ sgT neg ++ [d0] ++ [101] ++ [43] ++ e2T x) (by unfold numT; rw [hb, hex]; simp) ?_
        rw [hxx]
        cases neg
        · have := efgE_000 w B A k c xs g d0 x (by omega) (by omega) hR hD hB hx
          simpa [sgT] using this
        · have := efgE_100 w B A k c xs g d0 x (by omega) (by omega) hR hD hB hx
          simpa [sgT] using this
      | cons d1 dq =>
        obtain ⟨dr, hdr⟩ : ∃ dr, dr = d1 :: dq := ⟨_, rfl⟩
        rw [← hdr] at h hD hlen l1 l2 fin ⊢
        have hm1 : 1 ≤ dr.length := by rw [hdr]; simp
        have hm2 : dr.length ≤ 16 := by simp only [List.length_cons] at l2; omega
        have hb : bodyT (d0 :: dr) dp = [d0] ++ 46 :: dr := by
          unfold bodyT
          rw [hE, if_pos rfl, if_pos (by simp only [List.length_cons]; omega)]
          rfl
        refine fin (T := xs ++ sgT neg ++ [d0] ++ [46] ++ dr ++ [101] ++ [43] ++ e2T x) (by unfold numT; rw [hb, hex]; simp) ?_
        rw [hxx, hlen]
        cases neg
        · have := efgE_010 w B A k c xs g d0 dr hm1 hm2 x (by omega) (by omega) hR hD hB hx
          simpa [sgT] using this
        · have := efgE_110 w B A k c xs g d0 dr hm1 hm2 x (by omega) (by omega) hR hD hB hx
          simpa [sgT] using this
  | false =>
    have hE' : -3 ≤ dp ∧ dp ≤ 6 := by
      unfold isE at hE
      simp only [Bool.or_eq_false_iff, decide_eq_false_iff_not] at hE
      omega
    have hex : expT dp = [] := by unfold expT; rw [hE]; rfl
    by_cases hp : 0 < dp
    · obtain ⟨p, hpp⟩ : ∃ p : Nat, dp = (p : Int) := ⟨dp.toNat, by omega⟩
      subst hpp
      by_cases hl : ds.length ≤ p
      · have hb : bodyT ds (p : Int) = ds ++ List.replicate (p - ds.length) 48 := by
          unfold bodyT
          rw [hE, if_neg (by decide), if_pos hp, Int.toNat_natCast, if_pos hl]
        refine fin (T := xs ++ sgT neg ++ ds ++ List.replicate (p - ds.length) 48) (by unfold numT; rw [hb, hex]; simp) ?_
        cases neg
        · have := efg_pos w B A k c xs g ds p hR hD l1 hl (by omega) hB hx
          simpa [sgT] using this
        · have := efg_neg w B A k c xs g ds p hR hD l1 hl (by omega) hB hx
          simpa [sgT] using this
      · have hb : bodyT ds (p : Int) = ds.take p ++ 46 :: ds.drop p := by
          unfold bodyT
          rw [hE, if_neg (by decide), if_pos hp, Int.toNat_natCast, if_neg hl]
        refine fin (T := xs ++ sgT neg ++ ds.take p ++ [46] ++ ds.drop p) (by unfold numT; rw [hb, hex]; simp) ?_
        cases neg
        · have := efgF_02 w B A k c xs g ds p (by omega) (by omega) (by omega) l2 hR hD hB hx
          simpa [sgT] using this
        · have := efgF_12 w B A k c xs g ds p (by omega) (by omega) (by omega) l2 hR hD hB hx
          simpa [sgT] using this
    · obtain ⟨z, hz⟩ : ∃ z : Nat, dp = -(z : Int) := ⟨(-dp).toNat, by omega⟩
      subst hz
      have hb : bodyT ds (-(z : Int)) = 48 :: 46 :: (List.replicate z 48 ++ ds) := by
        unfold bodyT
        rw [hE, if_neg (by decide), if_neg hp, Int.neg_neg, Int.toNat_natCast]
      refine fin (T := xs ++ sgT neg ++ [48] ++ [46] ++ List.replicate z 48 ++ ds) (by unfold numT; rw [hb, hex]; simp) ?_
      cases neg
      · have := efgF_03 w B A k c xs g ds z (by omega) l1 l2 hR hD hB hx
        simpa [sgT] using this
      · have := efgF_13 w B A k c xs g ds z (by omega) l1 l2 hR hD hB hx
        simpa [sgT] using this
end Go.Proofs.YtghajgdiaopioaaGreatDoor
end
