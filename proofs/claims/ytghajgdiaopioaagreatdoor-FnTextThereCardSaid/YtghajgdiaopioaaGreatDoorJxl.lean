/- Walks and plain laws joined (Gi, Gj, Gk, Gm). Conditions: stand in each law. -/
import Derived.Test.YtghajgdiaopioaaGreatDoorJs
import Derived.Test.YtghajgdiaopioaaGreatDoorJg
import Derived.Test.YtghajgdiaopioaaGreatDoorJb
set_option linter.unusedVariables false
set_option linter.unusedSimpArgs false
section
/- Plain laws: the digits of a number's text, read one by one. Conditions: stand in each law; no program is named here. -/
namespace Go.Proofs.YtghajgdiaopioaaGreatDoor
open Tx
/-- What readFloat holds: the mantissa, how many digits, where the point is, whether one was seen, whether a digit was. -/
structure RS where
  M : Nat
  nd : Nat
  dp : Int
  dot : Bool
  dig : Bool
def rs0 : RS := ⟨0, 0, 0, false, false⟩
def stp (s : RS) (c : UInt8) : RS :=
  if c = 46 then ⟨s.M, s.nd, s.nd, true, s.dig⟩
  else if c = 48 ∧ s.nd = 0 then ⟨s.M, s.nd, s.dp - 1, s.dot, true⟩
  else ⟨s.M * 10 + (c.toNat - 48), s.nd + 1, s.dp, s.dot, true⟩
def rsf (l : Bs) : RS := l.foldl stp rs0
theorem rsf_snoc (l : Bs) (c : UInt8) : rsf (l ++ [c]) = stp (rsf l) c := by simp [rsf]
theorem rsf_take (l : Bs) (k : Nat) (h : k < l.length) : rsf (l.take (k + 1)) = stp (rsf (l.take k)) l[k] := by
  rw [List.take_add_one, List.getElem?_eq_getElem h]
  exact rsf_snoc _ _
/-- A digit or a point. -/
def Dp (c : UInt8) : Prop := c = 46 ∨ (48 ≤ c.toNat ∧ c.toNat ≤ 57)
theorem rsf_lim : ∀ (l : Bs), (∀ c ∈ l, Dp c) → (rsf l).M < 10 ^ (rsf l).nd ∧ (rsf l).nd ≤ l.length ∧ -(l.length : Int) ≤ (rsf l).dp ∧ (rsf l).dp ≤ l.length := by
  intro l h
  induction hl : l.length generalizing l with
  | zero =>
    have : l = [] := List.length_eq_zero_iff.1 hl
    subst this
    simp [rsf, rs0]
  | succ n ih =>
    have hne : l ≠ [] := by intro e; rw [e] at hl; cases hl
    have hd : l = l.dropLast ++ [l.getLast hne] := (List.dropLast_concat_getLast hne).symm
    have hlen : l.dropLast.length = n := by simp [hl]
    obtain ⟨h1, h2, h3, h4⟩ := ih l.dropLast (fun c hc => h c (by rw [hd]; exact List.mem_append_left _ hc)) hlen
    have hc := h (l.getLast hne) (List.getLast_mem hne)
    rw [hd, rsf_snoc]
    obtain ⟨s, hs⟩ : ∃ s, s = rsf l.dropLast := ⟨_, rfl⟩
    rw [← hs] at h1 h2 h3 h4 ⊢
    unfold stp
    split
    · exact ⟨h1, by simp only []; omega, by simp only []; omega, by simp only []; omega⟩
    · split
      · exact ⟨h1, by simp only []; omega, by simp only []; omega, by simp only []; omega⟩
      · rename_i k1 k2
        rcases hc with hc | hc
        · exact absurd hc k1
        · refine ⟨?_, by simp only []; omega, by simp only []; omega, by simp only []; omega⟩
          simp only [Nat.pow_succ]
          omega
/-- The digits and the point of a number's text, as readFloat wants them. -/
structure Body (b : Bs) : Prop where
  dp : ∀ c ∈ b, Dp c
  len : b.length ≤ 400
  one : ∀ k (h : k < b.length), b[k] = 46 → (rsf (b.take k)).dot = false
  nd : ∀ k, k ≤ b.length → (rsf (b.take k)).nd ≤ 18
  dig : (rsf b).dig = true
  pos : (rsf b).M ≠ 0
end Go.Proofs.YtghajgdiaopioaaGreatDoor
end
section
/- What the walks of readFloat share. Conditions: stand in each contract. -/
namespace Go.Proofs.YtghajgdiaopioaaGreatDoor
open Go.RowKit Go.Proofs Tx
open Go.Proofs.YtghajgdiaopioaaGreatDoorW.PrintWords
theorem byte_at {L : Bs} {k : Nat} {c : UInt8} (h : L[k]? = some c) : ∀ hq, (ByteArray.mk L.toArray)[k]'hq = c := by
  intro hq
  obtain ⟨h1, h2⟩ := List.getElem?_eq_some_iff.1 h
  exact h2
theorem low46 : bits BinOp.or IntKind.u8 46 32 = 46 := by decide
theorem low101 : bits BinOp.or IntKind.u8 101 32 = 101 := by decide
theorem body_lim {b : Bs} (hb : Body b) {k : Nat} (hk : k ≤ b.length) {M nd : Nat} {dp : Int} {dot dig : Bool} (hs : (⟨M, nd, dp, dot, dig⟩ : RS) = rsf (b.take k)) :
    M < 1000000000000000000 ∧ nd ≤ 18 ∧ -400 ≤ dp ∧ dp ≤ 400 := by
  have h := rsf_lim (b.take k) (fun c hc => hb.dp c (List.mem_of_mem_take hc))
  have hn := hb.nd k hk
  rw [← hs] at h hn
  obtain ⟨h1, h2, h3, h4⟩ := h
  have hl := hb.len
  rw [List.length_take, Nat.min_eq_left hk] at h2 h3 h4
  have hn : nd ≤ 18 := hn
  have h5 : (10 : Nat) ^ nd ≤ 10 ^ 18 := Nat.pow_le_pow_right (by decide) hn
  have h1 : M < 10 ^ nd := h1
  have h3 : -(k : Int) ≤ dp := h3
  have h4 : dp ≤ (k : Int) := h4
  exact ⟨by omega, hn, by omega, by omega⟩
end Go.Proofs.YtghajgdiaopioaaGreatDoor
end
section
/- Plain laws: the texts of numbers, and what is read of them. Conditions: stand in each law; no program is named here. -/
namespace Go.Proofs.YtghajgdiaopioaaGreatDoor
open Tx
/-- An exponent's digits, two or three. -/
def e2T (n : Nat) : Bs := if n < 10 then [48, UInt8.ofNat (48 + n)] else if n < 100 then [UInt8.ofNat (48 + n / 10), UInt8.ofNat (48 + n % 10)] else [UInt8.ofNat (48 + n / 100), UInt8.ofNat (48 + n / 10 % 10), UInt8.ofNat (48 + n % 10)]
/-- Is it written with an exponent? -/
def isE (dp : Int) : Bool := decide (dp < -3) || decide (6 < dp)
def bodyT (ds : Bs) (dp : Int) : Bs :=
  if isE dp then ds.take 1 ++ (if 1 < ds.length then 46 :: ds.drop 1 else [])
  else if 0 < dp then (if ds.length ≤ dp.toNat then ds ++ List.replicate (dp.toNat - ds.length) 48 else ds.take dp.toNat ++ 46 :: ds.drop dp.toNat)
  else 48 :: 46 :: (List.replicate (-dp).toNat 48 ++ ds)
def sgT (neg : Bool) : Bs := if neg then [45] else []
def expT (dp : Int) : Bs := if isE dp then 101 :: (if dp - 1 < 0 then 45 else 43) :: e2T (dp - 1).natAbs else []
def numT (neg : Bool) (ds : Bs) (dp : Int) : Bs := sgT neg ++ bodyT ds dp ++ expT dp
/-- What is read: the whole number, the power of ten. -/
def rdM (ds : Bs) (dp : Int) : Nat := if isE dp = false ∧ (ds.length : Int) ≤ dp then dv ds * 10 ^ (dp - ds.length).toNat else dv ds
def rdQ (ds : Bs) (dp : Int) : Int := if isE dp = false ∧ (ds.length : Int) ≤ dp then 0 else dp - ds.length

/-- Digits, the first of them not nought. -/
structure Ds (ds : Bs) : Prop where
  dg : Dg ds
  ln : 1 ≤ ds.length ∧ ds.length ≤ 17
  hd : ∃ c l, ds = c :: l ∧ c ≠ 48

def dvM (M : Nat) (ds : Bs) : Nat := ds.foldl (fun a c => a * 10 + (c.toNat - 48)) M
theorem dvM_eq (ds : Bs) : ∀ M, dvM M ds = M * 10 ^ ds.length + dv ds := by
  induction ds with
  | nil => intro M; simp [dvM, dv]
  | cons c l ih =>
    intro M
    have h1 : dvM M (c :: l) = dvM (M * 10 + (c.toNat - 48)) l := rfl
    have h2 : dv (c :: l) = dvM (0 * 10 + (c.toNat - 48)) l := rfl
    rw [h1, h2, ih, ih, List.length_cons, Nat.pow_succ, Nat.zero_mul, Nat.zero_add, Nat.add_mul]
    have : M * 10 * 10 ^ l.length = M * (10 ^ l.length * 10) := by rw [Nat.mul_assoc, Nat.mul_comm 10]
    omega
theorem ne46 {c : UInt8} (h : 48 ≤ c.toNat ∧ c.toNat ≤ 57) : c ≠ 46 := by
  rintro rfl
  exact absurd h.1 (by decide)
/-- Digits behind a digit that counts. -/
theorem fold_dig : ∀ (ds : Bs) (s : RS), Dg ds → 1 ≤ s.nd → ds.foldl stp s = ⟨dvM s.M ds, s.nd + ds.length, s.dp, s.dot, if ds = [] then s.dig else true⟩ := by
  intro ds
  induction ds with
  | nil => intro s _ _; simp [dvM]
  | cons c l ih =>
    intro s hd hs
    have hc := hd c (by simp)
    have h1 : stp s c = ⟨s.M * 10 + (c.toNat - 48), s.nd + 1, s.dp, s.dot, true⟩ := by
      unfold stp
      rw [if_neg (ne46 hc), if_neg (by omega)]
    rw [List.foldl_cons, h1, ih _ (fun x hx => hd x (by simp [hx])) (by simp)]
    simp only [List.length_cons, reduceCtorEq, if_false, RS.mk.injEq, true_and, and_true]
    refine ⟨rfl, by omega, ?_⟩
    split <;> rfl
/-- Digits, the first not nought. -/
theorem fold_ds {ds : Bs} (h : Ds ds) (dp : Int) (dot dig : Bool) : ds.foldl stp ⟨0, 0, dp, dot, dig⟩ = ⟨dv ds, ds.length, dp, dot, true⟩ := by
  obtain ⟨c, l, rfl, hc⟩ := h.hd
  have hcd := h.dg c (by simp)
  have h1 : stp ⟨0, 0, dp, dot, dig⟩ c = ⟨0 * 10 + (c.toNat - 48), 0 + 1, dp, dot, true⟩ := by
    unfold stp
    rw [if_neg (ne46 hcd), if_neg (fun k => hc k.1)]
  rw [List.foldl_cons, h1, fold_dig l _ (fun x hx => h.dg x (by simp [hx])) (by simp)]
  simp only [List.length_cons, RS.mk.injEq, true_and, and_true]
  refine ⟨rfl, by omega, ?_⟩
  split <;> rfl
theorem fold_zero : ∀ (z : Nat) (dp : Int) (dot : Bool), (List.replicate z 48).foldl stp ⟨0, 0, dp, dot, true⟩ = ⟨0, 0, dp - z, dot, true⟩ := by
  intro z
  induction z with
  | zero => intro dp dot; simp
  | succ z ih =>
    intro dp dot
    rw [List.replicate_succ, List.foldl_cons]
    have h1 : stp ⟨0, 0, dp, dot, true⟩ 48 = ⟨0, 0, dp - 1, dot, true⟩ := by
      unfold stp
      rw [if_neg (by decide), if_pos ⟨rfl, rfl⟩]
    rw [h1, ih]
    simp only [RS.mk.injEq, true_and, and_true]
    omega
theorem dg_rep (z : Nat) : Dg (List.replicate z 48) := fun c hc => by
  rw [(List.mem_replicate.1 hc).2]; decide
theorem dvM_rep (z : Nat) : ∀ M, dvM M (List.replicate z 48) = M * 10 ^ z := by
  induction z with
  | zero => intro M; simp [dvM]
  | succ z ih =>
    intro M
    rw [List.replicate_succ]
    have h1 : dvM M (48 :: List.replicate z 48) = dvM (M * 10 + ((48 : UInt8).toNat - 48)) (List.replicate z 48) := rfl
    rw [h1, ih, Nat.pow_succ]
    have : (48 : UInt8).toNat - 48 = 0 := by decide
    rw [this, Nat.add_zero, Nat.mul_assoc, Nat.mul_comm 10]

/-- Where there is one point at most. -/
theorem dot_no : ∀ (l : Bs) (s : RS), (46 : UInt8) ∉ l → (l.foldl stp s).dot = s.dot := by
  intro l
  induction l with
  | nil => intro s _; rfl
  | cons c l ih =>
    intro s h
    rw [List.foldl_cons, ih _ (fun k => h (by simp [k]))]
    have hc : c ≠ 46 := fun e => h (by simp [e])
    unfold stp
    rw [if_neg hc]
    split <;> rfl
theorem one_dot {x y : Bs} (hx : (46 : UInt8) ∉ x) (hy : (46 : UInt8) ∉ y) (k : Nat) (h : k < (x ++ 46 :: y).length) (hk : (x ++ 46 :: y)[k] = 46) : (rsf ((x ++ 46 :: y).take k)).dot = false := by
  have hke : k = x.length := by
    rcases Nat.lt_trichotomy k x.length with h1 | h1 | h1
    · rw [List.getElem_append_left h1] at hk
      exact absurd (hk ▸ List.getElem_mem h1) hx
    · exact h1
    · exfalso
      rw [List.getElem_append_right (by omega)] at hk
      obtain ⟨j, hj⟩ : ∃ j, k - x.length = j + 1 := ⟨k - x.length - 1, by omega⟩
      have hjl : j < y.length := by simp at h; omega
      have : (46 :: y)[k - x.length]? = some 46 := by
        rw [List.getElem?_eq_getElem (by simp; omega)]
        exact congrArg some hk
      rw [hj, List.getElem?_cons_succ] at this
      exact hy (List.mem_of_getElem? this)
  subst hke
  rw [List.take_left]
  exact dot_no x rs0 hx
theorem no_dot {x : Bs} (hx : (46 : UInt8) ∉ x) (k : Nat) (h : k < x.length) (hk : x[k] = 46) : (rsf (x.take k)).dot = false := absurd (hk ▸ List.getElem_mem h) hx
theorem dg_no {ds : Bs} (h : Dg ds) : (46 : UInt8) ∉ ds := fun k => ne46 (h 46 k) rfl
theorem nd_stp (s : RS) (c : UInt8) : s.nd ≤ (stp s c).nd := by
  unfold stp
  split
  · exact Nat.le_refl _
  · split
    · exact Nat.le_refl _
    · exact Nat.le_succ _
theorem nd_fold : ∀ (m : Bs) (s : RS), s.nd ≤ (m.foldl stp s).nd := by
  intro m
  induction m with
  | nil => intro s; exact Nat.le_refl _
  | cons c l ih => intro s; exact Nat.le_trans (nd_stp s c) (ih _)
theorem nd_mono (l : Bs) (k : Nat) : (rsf (l.take k)).nd ≤ (rsf l).nd := by
  have h : l = l.take k ++ l.drop k := (List.take_append_drop k l).symm
  have h2 : rsf l = (l.drop k).foldl stp (rsf (l.take k)) := by
    unfold rsf
    rw [← List.foldl_append, ← h]
  rw [h2]
  exact nd_fold _ _
theorem dv_pos' {ds : Bs} (h : Ds ds) : dv ds ≠ 0 := by
  obtain ⟨c, l, rfl, hc⟩ := h.hd
  have hcd := h.dg c (by simp)
  have h1 : dv (c :: l) = dvM (0 * 10 + (c.toNat - 48)) l := rfl
  rw [h1, dvM_eq]
  have hne : c.toNat ≠ 48 := fun e => hc (by rw [← UInt8.toNat_inj]; exact e)
  have : 1 ≤ (0 * 10 + (c.toNat - 48)) * 10 ^ l.length := Nat.mul_pos (by omega) (Nat.pow_pos (by decide))
  omega

/-- What readFloat holds behind the body. -/
theorem body_run {ds : Bs} (h : Ds ds) {dp : Int} (h1 : -400 ≤ dp) (h2 : dp ≤ 400) :
    ∃ x : RS, rsf (bodyT ds dp) = x ∧ x.M = rdM ds dp ∧ x.nd ≤ 17 ∧ x.dig = true ∧
      (if x.dot then x.dp else (x.nd : Int)) + (if isE dp then dp - 1 else 0) - x.nd = rdQ ds dp := by
  obtain ⟨l1, l2⟩ := h.ln
  have hf := fun dp dot dig => fold_ds h dp dot dig
  cases hE : isE dp with
  | true =>
    unfold bodyT rdM rdQ
    rw [hE]
    simp only [if_true, reduceCtorEq, false_and, if_false]
    by_cases hl : 1 < ds.length
    · rw [if_pos hl]
      obtain ⟨c, l, rfl, hc⟩ := h.hd
      have hcd := h.dg c (by simp)
      have e1 : stp rs0 c = ⟨0 * 10 + (c.toNat - 48), 0 + 1, 0, false, true⟩ := by
        unfold stp
        rw [if_neg (ne46 hcd), if_neg (fun k => hc k.1)]
        rfl
      have e2 : rsf ((c :: l).take 1 ++ 46 :: (c :: l).drop 1) = l.foldl stp (stp (stp rs0 c) 46) := rfl
      have e3 : stp (stp rs0 c) 46 = ⟨0 * 10 + (c.toNat - 48), 0 + 1, ((0 + 1 : Nat) : Int), true, true⟩ := by
        rw [e1]; unfold stp; rw [if_pos rfl]
      rw [e2, e3, fold_dig l _ (fun x hx => h.dg x (by simp [hx])) (by simp)]
      refine ⟨_, rfl, rfl, ?_, ?_, ?_⟩
      · simp only [List.length_cons] at *; omega
      · simp only []; split <;> rfl
      · simp only [if_true, List.length_cons]; push_cast; omega
    · rw [if_neg hl]
      have hlen : ds.length = 1 := by omega
      have e1 : ds.take 1 ++ [] = ds := by rw [List.append_nil, List.take_of_length_le (by omega)]
      rw [e1]
      refine ⟨_, hf 0 false false, rfl, by simp only []; omega, rfl, ?_⟩
      simp only [Bool.false_eq_true, if_false]
      omega
  | false =>
    have hE' : -3 ≤ dp ∧ dp ≤ 6 := by
      unfold isE at hE
      simp only [Bool.or_eq_false_iff, decide_eq_false_iff_not] at hE
      omega
    unfold bodyT rdM rdQ
    rw [hE]
    simp only [Bool.false_eq_true, if_false, true_and]
    by_cases hp : 0 < dp
    · rw [if_pos hp]
      by_cases hl : ds.length ≤ dp.toNat
      · have hl' : (ds.length : Int) ≤ dp := by omega
        rw [if_pos hl, if_pos hl', if_pos hl']
        have e1 : rsf (ds ++ List.replicate (dp.toNat - ds.length) 48) = (List.replicate (dp.toNat - ds.length) 48).foldl stp (ds.foldl stp ⟨0, 0, 0, false, false⟩) := by
          unfold rsf rs0
          rw [List.foldl_append]
        rw [e1, hf, fold_dig _ _ (dg_rep _) (by simp only []; omega)]
        refine ⟨_, rfl, ?_, ?_, ?_, ?_⟩
        · simp only []
          rw [dvM_rep]
          congr 2
          omega
        · simp only [List.length_replicate]; omega
        · simp only []; split <;> rfl
        · simp only [Bool.false_eq_true, if_false, List.length_replicate]; omega
      · have hl' : ¬ (ds.length : Int) ≤ dp := by omega
        rw [if_neg hl, if_neg hl', if_neg hl']
        have hd1 : Ds (ds.take dp.toNat) := by
          refine ⟨fun c hc => h.dg c (List.mem_of_mem_take hc), ⟨by rw [List.length_take]; omega, by rw [List.length_take]; omega⟩, ?_⟩
          obtain ⟨c, l, rfl, hc⟩ := h.hd
          obtain ⟨j, hj⟩ : ∃ j, dp.toNat = j + 1 := ⟨dp.toNat - 1, by omega⟩
          exact ⟨c, l.take j, by rw [hj, List.take_succ_cons], hc⟩
        have e1 : rsf (ds.take dp.toNat ++ 46 :: ds.drop dp.toNat) = (ds.drop dp.toNat).foldl stp (stp ((ds.take dp.toNat).foldl stp ⟨0, 0, 0, false, false⟩) 46) := by
          unfold rsf rs0
          rw [List.foldl_append, List.foldl_cons]
        have e2 : stp ⟨dv (ds.take dp.toNat), (ds.take dp.toNat).length, 0, false, true⟩ 46 = ⟨dv (ds.take dp.toNat), (ds.take dp.toNat).length, ((ds.take dp.toNat).length : Nat), true, true⟩ := by
          unfold stp; rw [if_pos rfl]
        rw [e1, fold_ds hd1, e2, fold_dig _ _ (fun c hc => h.dg c (List.mem_of_mem_drop hc)) hd1.ln.1]
        refine ⟨_, rfl, ?_, ?_, ?_, ?_⟩
        · simp only []
          have : dv ds = dvM 0 (ds.take dp.toNat ++ ds.drop dp.toNat) := by rw [List.take_append_drop]; rfl
          rw [this]
          unfold dvM
          rw [List.foldl_append]
          rfl
        · simp only [List.length_take, List.length_drop]; omega
        · simp only []; split <;> rfl
        · simp only [if_true, List.length_take, List.length_drop]; omega
    · rw [if_neg hp]
      have hl' : ¬ (ds.length : Int) ≤ dp := by omega
      rw [if_neg hl', if_neg hl']
      have e1 : rsf (48 :: 46 :: (List.replicate (-dp).toNat 48 ++ ds)) = ds.foldl stp ((List.replicate (-dp).toNat 48).foldl stp (stp (stp rs0 48) 46)) := by
        unfold rsf
        rw [List.foldl_cons, List.foldl_cons, List.foldl_append]
      have e2 : stp (stp rs0 48) 46 = ⟨0, 0, 0, true, true⟩ := rfl
      rw [e1, e2, fold_zero, hf]
      refine ⟨_, rfl, rfl, by simp only []; omega, rfl, ?_⟩
      simp only [if_true]
      omega
theorem dp_of {c : UInt8} (h : 48 ≤ c.toNat ∧ c.toNat ≤ 57) : Dp c := .inr h
/-- The body is as readFloat wants it. -/
theorem body_ok {ds : Bs} (h : Ds ds) {dp : Int} (h1 : -400 ≤ dp) (h2 : dp ≤ 400) : Body (bodyT ds dp) ∧ (∃ c l, bodyT ds dp = c :: l ∧ (48 ≤ c.toNat ∧ c.toNat ≤ 57) ∧ (c ≠ 48 ∨ (c = 48 ∧ isE dp = false ∧ (∃ l', l = 46 :: l') ∧ 3 ≤ (bodyT ds dp).length))) ∧ (bodyT ds dp).length ≤ 400 := by
  obtain ⟨x, hx, x1, x2, x3, x4⟩ := body_run h h1 h2
  obtain ⟨l1, l2⟩ := h.ln
  have hM : rdM ds dp ≠ 0 := by
    have := dv_pos' h
    unfold rdM
    split
    · exact Nat.ne_of_gt (Nat.mul_pos (Nat.pos_of_ne_zero this) (Nat.pow_pos (by decide)))
    · exact this
  have nd18 : ∀ k, k ≤ (bodyT ds dp).length → (rsf ((bodyT ds dp).take k)).nd ≤ 18 := fun k _ => by
    have := nd_mono (bodyT ds dp) k
    rw [hx] at this
    omega
  have fin : (∀ c ∈ bodyT ds dp, Dp c) → (bodyT ds dp).length ≤ 400 → (∀ k (h : k < (bodyT ds dp).length), (bodyT ds dp)[k] = 46 → (rsf ((bodyT ds dp).take k)).dot = false) → Body (bodyT ds dp) := fun a b c => ⟨a, b, c, nd18, by rw [hx]; exact x3, by rw [hx, x1]; exact hM⟩
  obtain ⟨c, l, hcl, hc⟩ := h.hd
  have hcd := h.dg c (by rw [hcl]; simp)
  cases hE : isE dp with
  | true =>
    by_cases hl : 1 < ds.length
    · have hb : bodyT ds dp = [c] ++ 46 :: l := by
        unfold bodyT
        rw [hE, if_pos rfl, if_pos hl, hcl]
        rfl
      have hll : l.length ≤ 16 := by rw [hcl] at l2; simp at l2; omega
      have hdl : Dg l := fun x hx => h.dg x (by rw [hcl]; simp [hx])
      refine ⟨fin ?_ ?_ ?_, ⟨c, 46 :: l, hb, hcd, .inl hc⟩, by rw [hb]; simp; omega⟩
      · rw [hb]
        intro y hy
        simp only [List.singleton_append, List.mem_cons] at hy
        rcases hy with rfl | rfl | hy
        · exact dp_of hcd
        · exact .inl rfl
        · exact dp_of (hdl y hy)
      · rw [hb]; simp; omega
      · rw [hb]
        exact one_dot (dg_no (fun y hy => by simp at hy; rw [hy]; exact hcd)) (dg_no hdl)
    · have hb : bodyT ds dp = ds := by
        unfold bodyT
        rw [hE, if_pos rfl, if_neg hl, List.append_nil, List.take_of_length_le (by omega)]
      refine ⟨fin ?_ ?_ ?_, ⟨c, l, by rw [hb]; exact hcl, hcd, .inl hc⟩, by rw [hb]; omega⟩
      · rw [hb]; exact fun y hy => dp_of (h.dg y hy)
      · rw [hb]; omega
      · rw [hb]; exact no_dot (dg_no h.dg)
  | false =>
    have hE' : -3 ≤ dp ∧ dp ≤ 6 := by
      unfold isE at hE
      simp only [Bool.or_eq_false_iff, decide_eq_false_iff_not] at hE
      omega
    by_cases hp : 0 < dp
    · by_cases hl : ds.length ≤ dp.toNat
      · have hb : bodyT ds dp = ds ++ List.replicate (dp.toNat - ds.length) 48 := by
          unfold bodyT
          rw [hE, if_neg (by decide), if_pos hp, if_pos hl]
        have hdd : Dg (ds ++ List.replicate (dp.toNat - ds.length) 48) := fun y hy => by
          rcases List.mem_append.1 hy with k | k
          · exact h.dg y k
          · exact dg_rep _ y k
        refine ⟨fin ?_ ?_ ?_, ⟨c, l ++ List.replicate (dp.toNat - ds.length) 48, by rw [hb, hcl]; rfl, hcd, .inl hc⟩, by rw [hb]; simp; omega⟩
        · rw [hb]; exact fun y hy => dp_of (hdd y hy)
        · rw [hb]; simp; omega
        · rw [hb]; exact no_dot (dg_no hdd)
      · have hb : bodyT ds dp = ds.take dp.toNat ++ 46 :: ds.drop dp.toNat := by
          unfold bodyT
          rw [hE, if_neg (by decide), if_pos hp, if_neg hl]
        obtain ⟨j, hj⟩ : ∃ j, dp.toNat = j + 1 := ⟨dp.toNat - 1, by omega⟩
        have hd1 : Dg (ds.take dp.toNat) := fun y hy => h.dg y (List.mem_of_mem_take hy)
        have hd2 : Dg (ds.drop dp.toNat) := fun y hy => h.dg y (List.mem_of_mem_drop hy)
        refine ⟨fin ?_ ?_ ?_, ⟨c, l.take j ++ 46 :: ds.drop dp.toNat, by rw [hb, hj, hcl]; rfl, hcd, .inl hc⟩, by rw [hb]; simp; omega⟩
        · rw [hb]
          intro y hy
          rcases List.mem_append.1 hy with k | k
          · exact dp_of (hd1 y k)
          · rcases List.mem_cons.1 k with rfl | k
            · exact .inl rfl
            · exact dp_of (hd2 y k)
        · rw [hb]; simp; omega
        · rw [hb]; exact one_dot (dg_no hd1) (dg_no hd2)
    · have hb : bodyT ds dp = [48] ++ 46 :: (List.replicate (-dp).toNat 48 ++ ds) := by
        unfold bodyT
        rw [hE, if_neg (by decide), if_neg hp]
        rfl
      have hdd : Dg (List.replicate (-dp).toNat 48 ++ ds) := fun y hy => by
        rcases List.mem_append.1 hy with k | k
        · exact dg_rep _ y k
        · exact h.dg y k
      refine ⟨fin ?_ ?_ ?_, ⟨48, 46 :: (List.replicate (-dp).toNat 48 ++ ds), hb, by decide, .inr ⟨rfl, rfl, ⟨_, rfl⟩, by rw [hb]; simp; omega⟩⟩, by rw [hb]; simp; omega⟩
      · rw [hb]
        intro y hy
        simp only [List.singleton_append, List.mem_cons] at hy
        rcases hy with rfl | rfl | hy
        · exact .inr (by decide)
        · exact .inl rfl
        · exact dp_of (hdd y hy)
      · rw [hb]; simp; omega
      · rw [hb]
        exact one_dot (by decide) (dg_no hdd)
/-- An exponent's digits read back. -/
theorem e2_ok : ∀ n, n < 1000 → Dg (e2T n) ∧ dv (e2T n) = n ∧ 1 ≤ (e2T n).length ∧ (e2T n).length ≤ 4 := by
  have h : (List.range 1000).all (fun n => (e2T n).all (fun c => decide (48 ≤ c.toNat ∧ c.toNat ≤ 57)) && decide (dv (e2T n) = n) && decide (1 ≤ (e2T n).length) && decide ((e2T n).length ≤ 4)) = true := by decide +kernel
  intro n hn
  have := List.all_eq_true.1 h n (List.mem_range.2 hn)
  simp only [Bool.and_eq_true, decide_eq_true_eq, List.all_eq_true] at this
  exact ⟨this.1.1.1, this.1.1.2, this.1.2, this.2⟩
/-! Plain laws: a number's text tells what is read of it; its length, its signs. -/
def bkE (ex : Bs) : Int := match ex with
  | _ :: s :: eds => if s = 45 then -(dv eds : Int) else dv eds
  | _ => 0
def bkB (neg : Bool) (l : Bs) : Bool × Nat × Int :=
  let x := rsf (l.takeWhile (· != 101))
  (neg, x.M, (if x.dot then x.dp else (x.nd : Int)) + bkE (l.dropWhile (· != 101)) - x.nd)
/-- What is read of a text. -/
def bk (l : Bs) : Bool × Nat × Int := match l with
  | [] => (false, 0, 0)
  | c :: t => if c = 45 then bkB true t else bkB false (c :: t)

theorem tw_app {b ex : Bs} (hb : ∀ c ∈ b, c ≠ 101) (he : ex = [] ∨ ∃ t, ex = 101 :: t) : (b ++ ex).takeWhile (· != 101) = b ∧ (b ++ ex).dropWhile (· != 101) = ex := by
  have h1 : ∀ c ∈ b, (c != 101) = true := fun c hc => by simpa using hb c hc
  rw [List.takeWhile_append_of_pos h1, List.dropWhile_append_of_pos h1]
  rcases he with rfl | ⟨t, rfl⟩
  · simp
  · simp
theorem exp_is {dp : Int} (h1 : -330 ≤ dp) (h2 : dp ≤ 330) : bkE (expT dp) = (if isE dp then dp - 1 else 0) ∧ (expT dp = [] ∨ ∃ t, expT dp = 101 :: t) ∧ (expT dp).length ≤ 6 ∧ (isE dp = false → expT dp = []) := by
  unfold expT
  cases hE : isE dp with
  | false => simp [bkE]
  | true =>
    obtain ⟨d1, d2, d3, d4⟩ := e2_ok (dp - 1).natAbs (by omega)
    simp only [if_true]
    refine ⟨?_, .inr ⟨_, rfl⟩, ?_, by simp⟩
    · show (if (if dp - 1 < 0 then (45 : UInt8) else 43) = 45 then -(dv (e2T (dp - 1).natAbs) : Int) else dv (e2T (dp - 1).natAbs)) = dp - 1
      rw [d2]
      by_cases k : dp - 1 < 0
      · rw [if_pos k, if_pos rfl]; omega
      · rw [if_neg k, if_neg (by decide)]; omega
    · simp only [List.length_cons]; omega
theorem dp_not {c : UInt8} (h : Dp c) : c ≠ 101 ∧ c ≠ 45 := by
  constructor <;> (rintro rfl; revert h; unfold Dp; decide)
theorem bk_numT {ds : Bs} (h : Ds ds) {dp : Int} (h1 : -330 ≤ dp) (h2 : dp ≤ 330) (neg : Bool) : bk (numT neg ds dp) = (neg, rdM ds dp, rdQ ds dp) := by
  obtain ⟨hb, ⟨c, l, hcl, hcd, hzz⟩, hlen⟩ := body_ok h (dp := dp) (by omega) (by omega)
  obtain ⟨x, hx, x1, x2, x3, x4⟩ := body_run h (dp := dp) (by omega) (by omega)
  obtain ⟨e1, e2, -, -⟩ := exp_is h1 h2
  obtain ⟨t1, t2⟩ := tw_app (fun c hc => (dp_not (hb.dp c hc)).1) e2
  have hB : bkB neg (bodyT ds dp ++ expT dp) = (neg, rdM ds dp, rdQ ds dp) := by
    unfold bkB
    simp only []
    rw [t1, t2, hx, x1, e1, x4]
  cases neg
  · have hT : numT false ds dp = bodyT ds dp ++ expT dp := rfl
    rw [hT]
    have hc : c ≠ 45 := (dp_not (hb.dp c (by rw [hcl]; simp))).2
    rw [hcl, List.cons_append] at hB ⊢
    show (if c = 45 then bkB true (l ++ expT dp) else bkB false (c :: (l ++ expT dp))) = _
    rw [if_neg hc]
    exact hB
  · exact hB
theorem bk_zero : bk [48] = (false, 0, 0) ∧ bk [45, 48] = (true, 0, 0) := by decide
theorem rdM_pos {ds : Bs} (h : Ds ds) (dp : Int) : 1 ≤ rdM ds dp := by
  have := dv_pos' h
  unfold rdM
  split
  · exact Nat.mul_pos (by omega) (Nat.pow_pos (by decide))
  · omega

theorem body_len {ds : Bs} (h : Ds ds) (dp : Int) : (bodyT ds dp).length ≤ 22 ∧ (isE dp = true → (bodyT ds dp).length ≤ 18) := by
  obtain ⟨l1, l2⟩ := h.ln
  unfold bodyT
  cases hE : isE dp with
  | true =>
    simp only [if_true]
    by_cases k : 1 < ds.length
    · rw [if_pos k]; simp; omega
    · rw [if_neg k]; simp; omega
  | false =>
    have hd : -3 ≤ dp ∧ dp ≤ 6 := by
      unfold isE at hE
      simp only [Bool.or_eq_false_iff, decide_eq_false_iff_not] at hE
      omega
    simp only [Bool.false_eq_true, if_false, reduceCtorEq, false_implies, and_true]
    by_cases k : 0 < dp
    · rw [if_pos k]
      by_cases k2 : ds.length ≤ dp.toNat
      · rw [if_pos k2]; simp; omega
      · rw [if_neg k2]; simp; omega
    · rw [if_neg k]; simp; omega
theorem numT_short {ds : Bs} (h : Ds ds) {dp : Int} (h1 : -330 ≤ dp) (h2 : dp ≤ 330) (neg : Bool) : (numT neg ds dp).length ≤ 30 ∧ numT neg ds dp ≠ [] := by
  obtain ⟨b1, b2⟩ := body_len h dp
  obtain ⟨-, -, e1, e2⟩ := exp_is h1 h2
  obtain ⟨hb, ⟨c, l, hcl, hcd, hzz⟩, hlen⟩ := body_ok h (dp := dp) (by omega) (by omega)
  have hs : (sgT neg).length ≤ 1 := by cases neg <;> simp [sgT]
  unfold numT
  constructor
  · cases hE : isE dp with
    | true => have := b2 hE; simp only [List.length_append]; omega
    | false => rw [e2 hE]; simp only [List.length_append, List.length_nil]; omega
  · rw [hcl]; simp
theorem tok_of {c : UInt8} (h : Dp c ∨ c = 101 ∨ c = 45 ∨ c = 43) : Tx.Tok c := by
  have h2 : ∀ n : Nat, n < 256 → (n = 46 ∨ (48 ≤ n ∧ n ≤ 57) ∨ n = 101 ∨ n = 45 ∨ n = 43) → isCl (UInt8.ofNat n) = false ∧ UInt8.ofNat n ≠ 44 ∧ UInt8.ofNat n ≠ 40 ∧ UInt8.ofNat n ≠ 41 := by decide +kernel
  have := h2 c.toNat (UInt8.toNat_lt c) (by
    rcases h with (rfl | h) | rfl | rfl | rfl
    · exact .inl rfl
    · exact .inr (.inl h)
    · exact .inr (.inr (.inl rfl))
    · exact .inr (.inr (.inr (.inl rfl)))
    · exact .inr (.inr (.inr (.inr rfl))))
  rwa [UInt8.ofNat_toNat] at this
theorem numT_sg {ds : Bs} (h : Ds ds) {dp : Int} (h1 : -330 ≤ dp) (h2 : dp ≤ 330) (neg : Bool) : ∀ c ∈ numT neg ds dp, Dp c ∨ c = 101 ∨ c = 45 ∨ c = 43 := by
  obtain ⟨hb, -, -⟩ := body_ok h (dp := dp) (by omega) (by omega)
  intro c hc
  unfold numT at hc
  rw [List.mem_append, List.mem_append] at hc
  rcases hc with (hc | hc) | hc
  · cases neg
    · exact absurd hc (by simp [sgT])
    · exact .inr (.inr (.inl (by simpa [sgT] using hc)))
  · exact .inl (hb.dp c hc)
  · unfold expT at hc
    cases hE : isE dp with
    | false => rw [hE] at hc; simp at hc
    | true =>
      rw [hE] at hc
      simp only [if_true, List.mem_cons] at hc
      rcases hc with hc | hc | hc
      · exact .inr (.inl hc)
      · by_cases k : dp - 1 < 0
        · rw [if_pos k] at hc; exact .inr (.inr (.inl hc))
        · rw [if_neg k] at hc; exact .inr (.inr (.inr hc))
      · exact .inl (.inr ((e2_ok (dp - 1).natAbs (by omega)).1 c hc))
end Go.Proofs.YtghajgdiaopioaaGreatDoor
end
