/- Walks and plain laws joined (Hn, Ho). Conditions: stand in each law. -/
import Derived.Test.YtghajgdiaopioaaGreatDoorJxu
import Derived.Test.YtghajgdiaopioaaGreatDoorJu
import Derived.Test.YtghajgdiaopioaaGreatDoorJxm
import Derived.Test.YtghajgdiaopioaaGreatDoorJxk
import Derived.Test.YtghajgdiaopioaaGreatDoorJv
import Derived.Test.YtghajgdiaopioaaGreatDoorJxt
import Derived.Test.YtghajgdiaopioaaGreatDoorJs
set_option linter.unusedVariables false
set_option linter.unusedSimpArgs false
section
/- shortFloat on every finite float that is not 0: the walks and the plain law joined. Conditions: stand in each contract. -/
namespace Go.Proofs.YtghajgdiaopioaaGreatDoor
open Go.RowKit Go.Proofs Tx
open Go.Proofs.YtghajgdiaopioaaGreatDoorW.PrintWords
open Fl (Fin s0 sp st ssh sOut usc lp10 rowOk loM unr upA dnB)
theorem unr_bd2 {N D : Nat} (hD : 0 < D) (h1 : 2 * D ≤ N) (h2 : N < 400000000000000000 * D) : 2 ≤ unr N D ∧ unr N D < 4611686018427387904 := by
  have a1 : ¬ unr N D < 2 * 1 := fun h => by
    have := (Fl.unr_lt hD).1 h
    omega
  have a2 : unr N D ≤ 2 * 200000000000000000 := (Fl.unr_le hD).2 (by omega)
  omega
/-- The three values are small. -/
theorem usc_bd {m : Nat} {e : Int} (h : Fin m e) {hi lo : Nat} (hrow : rowOk (sp m e) hi lo) (c : Nat) (hc : loM m e ≤ c) (hc2 : c ≤ 4 * m + 2) :
    2 ≤ usc (c * 2 ^ (s0 m - 2)) hi lo (ssh m e) ∧ usc (c * 2 ^ (s0 m - 2)) hi lo (ssh m e) < 4611686018427387904 := by
  have k := h.taken
  have hl := Fl.lo_between h
  rw [Fl.usc_c h hrow c (by omega) hc2]
  obtain ⟨D, hD⟩ : ∃ D, D = dnB (sp m e) * 2 ^ st m e := ⟨_, rfl⟩
  have hD0 : 0 < D := by rw [hD]; exact Nat.mul_pos (Fl.dn_pos _) (Nat.two_pow_pos _)
  have hw := k.wid
  have hu := k.ub
  rw [← hD] at hw hu ⊢
  have b1 : loM m e * upA (sp m e) ≤ c * upA (sp m e) := Nat.mul_le_mul_right _ hc
  have b2 : c * upA (sp m e) ≤ (4 * m + 2) * upA (sp m e) := Nat.mul_le_mul_right _ hc2
  refine unr_bd2 hD0 ?_ (by omega)
  have hm0 := h.m0
  rcases hw with ⟨w1, w2⟩ | ⟨w1, w2, w3⟩
  · have b3 : 2 * upA (sp m e) ≤ loM m e * upA (sp m e) := Nat.mul_le_mul_right _ (by omega)
    omega
  · have b3 : 3 * upA (sp m e) ≤ loM m e * upA (sp m e) := Nat.mul_le_mul_right _ (by omega)
    omega

theorem sf_eq (m : Nat) (e : Int) (hi lo : Nat) (X A C : Nat) (hX : X = 4 * m * 2 ^ (s0 m - 2)) (hA : A = loM m e * 2 ^ (s0 m - 2)) (hC : C = (4 * m + 2) * 2 ^ (s0 m - 2)) :
    sfEnd X A C (m % 2) hi lo (ssh m e) (sp m e) = sOut m e hi lo := by
  rw [hX, hA, hC]
  rfl

/-- The digits of m are moved to the top. -/
def sM (m : Nat) : Nat := m * 2 ^ s0 m

theorem short1_any {m : Nat} {e : Int} (h : Fin m e) (w : World) (hp : P10 w) (x : Nat × Nat) (hx : Go.Pinned.pow10Rows[(sp m e + 348).toNat]? = some x) (hrow : rowOk (sp m e) x.1 x.2) :
    Calls Tryz.prog 158 #[.int .u64 (sM m : Nat), .int .i64 (e - (s0 m : Nat))] w fun r w' => r = .returned (.tuple #[.int .u64 ((sOut m e x.1 x.2).1 : Nat), .int .i64 (sOut m e x.1 x.2).2]) ∧ Below w.heap.size w w' := by
  have k := h.taken
  have p0 := k.p0
  have p1 := k.p1
  obtain ⟨c0, c1⟩ := hp.at_ _ _ hx
  have hl := Fl.lo_between h
  have hm0 := h.m0
  have hm1 := h.m1
  have he0 := h.e0
  have he1 := h.e1
  obtain ⟨z1, z2⟩ := h.s0_ge
  obtain ⟨t1, t2⟩ := h.top
  have g1 := usc_bd h hrow (4 * m) (by unfold loM; split <;> omega) (by omega)
  have g2 := usc_bd h hrow (loM m e) (by omega) hl.2
  have g3 := usc_bd h hrow (4 * m + 2) hl.2 (by omega)
  have hsh := k.sh
  have hs1 := k.sh1
  obtain ⟨n, hn⟩ : ∃ n, n = s0 m - 2 := ⟨_, rfl⟩
  have hs : s0 m = n + 2 := by omega
  have eM : sM m = 4 * m * 2 ^ (s0 m - 2) := by unfold sM; rw [← hn, hs, Nat.pow_add]; grind
  have e1 : 2 ^ (s0 m - 1) = 2 * 2 ^ n := by rw [hs, show n + 2 - 1 = n + 1 by omega, Nat.pow_succ]; omega
  have e2 : 2 ^ (s0 m - 2) = 2 ^ n := by rw [← hn]
  have eC : sM m + 2 ^ (s0 m - 1) = (4 * m + 2) * 2 ^ (s0 m - 2) := by rw [eM, e1, e2]; grind
  have hgt : loM m e = 4 * m - 2 → sM m - 2 ^ (s0 m - 1) = loM m e * 2 ^ (s0 m - 2) := fun hh => by rw [hh, eM, e1, e2, Nat.sub_mul]
  have hgs : loM m e = 4 * m - 1 → sM m - 2 ^ (s0 m - 2) = loM m e * 2 ^ (s0 m - 2) := fun hh => by rw [hh, eM, e2, Nat.sub_mul, Nat.one_mul]
  have hdiv : sM m / 2 ^ s0 m = m := by unfold sM; exact Nat.mul_div_cancel _ (Nat.two_pow_pos _)
  have hb0 : 9223372036854775808 ≤ sM m := t1
  have hb1 : sM m + 2 ^ s0 m ≤ 18446744073709551616 := by unfold sM; rw [Nat.add_mul, Nat.one_mul] at t2; exact t2
  have e3 : 2 ^ s0 m = 2 * 2 ^ (s0 m - 1) := by rw [hs, show n + 2 - 1 = n + 1 by omega, Nat.pow_succ, Nat.pow_succ 2 n]; omega
  have e4 : 0 < 2 ^ (s0 m - 1) := Nat.two_pow_pos _
  obtain ⟨r1, r2, r3, -, -⟩ := hrow
  by_cases hk : Fl.skew m e = true
  · obtain ⟨k1, k2⟩ : m = 4503599627370496 ∧ -1074 < e := by simpa [Fl.skew] using hk
    have hs0 : s0 m = 11 := by rw [k1]; decide +kernel
    have hlo : loM m e = 4 * m - 1 := by unfold loM; rw [if_pos ⟨k1, k2⟩]
    have eA := hgs hlo
    have hM : sM m = 9223372036854775808 := by unfold sM; rw [hs0, k1]
    have hP : sp m e = -(((e - (11 : Nat) + 11) * 631305 - 261663) / 2097152) := by unfold sp; rw [if_pos hk]; omega
    have hr := sf_eq m e x.1 x.2 _ _ _ eM eA eC
    rw [← hr]
    rw [← eM] at g1
    rw [← eA] at g2
    rw [← eC] at g3
    rw [hs0] at g2 g3 hsh ⊢
    simp only [show 2 ^ (11 - 1) = 1024 from rfl, show 2 ^ (11 - 2) = 512 from rfl] at g2 g3 ⊢
    have hod : m % 2 = 0 := by omega
    exact sfB_any (sM m) (e - (11 : Nat)) w hM (by omega) (m % 2) x.1 x.2 (ssh m e) _ (sp m e) _ hP rfl (by rw [hsh]; rfl) hs1 hod (by omega) (by omega) r3 r1 r2 hp.le c0 c1 _ _ _ rfl rfl rfl g2 g3 g1
  · have hlo : loM m e = 4 * m - 2 := by
      unfold loM
      rw [if_neg]
      intro hh
      exact hk (by simpa [Fl.skew] using hh)
    have eA := hgt hlo
    have hP : sp m e = -(e * 78913 / 262144) := by unfold sp; rw [if_neg hk]
    have hr := sf_eq m e x.1 x.2 _ _ _ eM eA eC
    rw [← hr]
    rw [← eM] at g1
    rw [← eA] at g2
    rw [← eC] at g3
    by_cases hm52 : 4503599627370496 ≤ m
    · have hs0 : s0 m = 11 := by
        have : 52 ≤ m.log2 := (Nat.le_log2 (by omega)).2 hm52
        unfold s0 at z1 ⊢
        omega
      rw [hs0] at g2 g3 hsh hdiv hb1 ⊢
      simp only [show 2 ^ (11 - 1) = 1024 from rfl] at g2 g3 ⊢
      by_cases hm2 : m = 4503599627370496
      · have hM : sM m = 9223372036854775808 := by unfold sM; rw [hs0, hm2]
        have he : e = -1074 := by
          apply Classical.byContradiction
          intro hh
          exact hk (by simp [Fl.skew, hm2]; omega)
        have hP' : sp m e = 324 := by rw [hP, he]; decide
        rw [hP'] at c0 c1 hsh ⊢
        rw [he] at hsh ⊢
        have hq : ((324 : Int) + 348).toNat = 672 := by decide
        rw [hq] at c0 c1
        rw [he] at g1 g2 g3
        exact sfA2_any (sM m) w hM (m % 2) x.1 x.2 (ssh m (-1074)) 672 (by rw [hsh]; decide) (by rw [he] at hs1; exact hs1) (by rw [show (2048 : Nat) = 2 ^ 11 from rfl, hdiv]) rfl r3 r1 r2 hp.le c0 c1 _ _ _ rfl rfl rfl g2 g3 g1
      · have hM : 9223372036854775808 < sM m := by unfold sM; rw [hs0]; omega
        exact sfA_any (sM m) (e - (11 : Nat)) w hM (by omega) (by omega) (m % 2) x.1 x.2 (ssh m e) _ (sp m e) _ (by rw [hP]; congr 3; omega) rfl (by rw [hsh]; rfl) hs1 (by rw [show (2048 : Nat) = 2 ^ 11 from rfl, hdiv]) (by omega) (by omega) r3 r1 r2 hp.le c0 c1 _ _ _ rfl rfl rfl g2 g3 g1
    · have he : e = -1074 := by
        apply Classical.byContradiction
        intro hh
        have := h.nm (by omega)
        omega
      have hz : 12 ≤ s0 m := by
        have : m.log2 < 52 := (Nat.log2_lt (by omega)).2 (by omega)
        unfold s0
        omega
      have hP' : sp m e = 324 := by rw [hP, he]; decide
      rw [hP'] at c0 c1 hsh ⊢
      have hq : ((324 : Int) + 348).toNat = 672 := by decide
      rw [hq] at c0 c1
      have hl1 : lp10 324 = 1076 := by decide
      rw [hl1] at hsh
      rw [he] at hsh ⊢
      rw [he] at g1 g2 g3 hs1
      by_cases hM : sM m = 9223372036854775808
      · exact sfC1_any (sM m) (s0 m) w hz z2 hM (by omega) (m % 2) x.1 x.2 (ssh m (-1074)) 672 hsh hs1 (by rw [hdiv]) rfl r3 r1 r2 hp.le c0 c1 _ _ _ rfl rfl rfl g2 g3 g1
      · exact sfC0_any (sM m) (s0 m) w hz z2 (by omega) (by omega) (m % 2) x.1 x.2 (ssh m (-1074)) 672 hsh hs1 (by rw [hdiv]) rfl r3 r1 r2 hp.le c0 c1 _ _ _ rfl rfl rfl g2 g3 g1

/-- The row of a power. -/
def rowF (p : Int) : Nat × Nat := (Go.Pinned.pow10Rows[(p + 348).toNat]?).getD (0, 0)
/-- What shortFloat answers. -/
def sU (m : Nat) (e : Int) : Nat × Int := sOut m e (rowF (sp m e)).1 (rowF (sp m e)).2
theorem rowF_ok {m : Nat} {e : Int} (h : Fin m e) : Go.Pinned.pow10Rows[(sp m e + 348).toNat]? = some (rowF (sp m e)) ∧ rowOk (sp m e) (rowF (sp m e)).1 (rowF (sp m e)).2 := by
  have p0 := h.taken.p0
  have p1 := h.taken.p1
  obtain ⟨x, hx, hrow⟩ := Fl.row_at (sp m e) (by omega) (by omega)
  have : rowF (sp m e) = x := by unfold rowF; rw [hx]; rfl
  rw [this]
  exact ⟨hx, hrow⟩
theorem sU_in {m : Nat} {e : Int} (h : Fin m e) : Fl.InR m e (sU m e).1 (sU m e).2 ∧ 1 ≤ (sU m e).1 ∧ (sU m e).1 < 100000000000000000 ∧ -324 ≤ (sU m e).2 ∧ (sU m e).2 ≤ 293 := Fl.sOut_in h (rowF_ok h).2
theorem short2_any {m : Nat} {e : Int} (h : Fin m e) (w : World) (hp : P10 w) :
    Calls Tryz.prog 158 #[.int .u64 (sM m : Nat), .int .i64 (e - (s0 m : Nat))] w fun r w' => r = .returned (.tuple #[.int .u64 ((sU m e).1 : Nat), .int .i64 (sU m e).2]) ∧ Below w.heap.size w w' :=
  short1_any h w hp _ (rowF_ok h).1 (rowF_ok h).2
end Go.Proofs.YtghajgdiaopioaaGreatDoor
end
section
/- setDigits and ftoa64 on every finite float that is not 0 (printed by gen-Ho.py). Conditions: stand in each contract. -/
namespace Go.Proofs.YtghajgdiaopioaaGreatDoor
section
open Go.RowKit Go.Proofs Tx Go.Lib Go.Sort
open Go.Proofs.YtghajgdiaopioaaGreatDoorW.PrintWords

set_option maxRecDepth 100000 in
set_option maxHeartbeats 2000000 in
theorem setd2_any (g m r : Nat) (w : World) (hm1 : 1 ≤ m) (hm : m % 10 ≠ 0) (hN : nDigits m + r ≤ 32) (h64 : m * 10 ^ r < 18446744073709551616) (p : Int) (hp : -400 ≤ p ∧ p ≤ 400)
    (hH : Holds encB w g 0 (Array.replicate (nDigits m + r) 0)) (hg : g < w.heap.size) :
    Calls Tryz.prog 153 #[.slice (some ⟨g, 0, none⟩) 32 32, .int .u64 (m * 10 ^ r : Nat), .int .i64 p, .int .i64 (nDigits m + r : Nat)] w fun e w' =>
      e = .returned (.tuple #[.int .i64 ((nDigits m + r : Nat) + p), .int .i64 (nDigits m)]) ∧ DigAt g (decDigits m) w' ∧ Below g w w' := by
  obtain ⟨N, hNe⟩ : ∃ N, N = nDigits m + r := ⟨_, rfl⟩
  obtain ⟨u, hu⟩ : ∃ u, u = m * 10 ^ r := ⟨_, rfl⟩
  have hnu : nDigits u = N := by rw [hu, nDig_pow m hm1, hNe]
  have hlt : u < 10 ^ N := by rw [← hnu]; exact lt_pow_nDigits u
  have hsz : (Array.replicate N (0 : UInt8)).size = N := by simp
  rw [← hNe] at hN hH ⊢
  rw [← hu] at h64 ⊢
  have hpos := nDigits_pos m
  obtain ⟨D, hD⟩ : ∃ D, D = nDigits m := ⟨_, rfl⟩
  rw [← hD] at hNe hpos ⊢
  have hfb := Tryz.internal_strconv_formatBase10 g 0 32 u (Array.replicate N 0) w hH (by rw [hsz]; exact hlt) h64 (by rw [hsz]; omega)
  rw [hsz] at hfb
  have HH := Lib.hid hH
  have HU := Lib.hid hu
  have HN := Lib.hid hNe
  have HD := Lib.hid hD
  have HNU := Lib.hid hnu
  have HSZ := Lib.hid hsz
  have hDN : D ≤ N := by omega
  clear hH hu hNe hD hlt hsz hnu
  have q1 : ((N : Int) ≤ 32) = True := by simp; omega
  go_enter Tryz.func153, Tryz.ntmps153
  go_wp2_with fail
  refine hfb.mono ?_
  rintro e w' ⟨rfl, n, v', dk, hw', hfm⟩
  have hdk : dk.size = N := hfm.size
  have hcell : ∀ t, t < N → w'.cell? ⟨g, t, none⟩ = some (encB (dg u (N - 1 - t))) := by
    intro t ht
    have h1 := (holds_putRow encB w g 0 _ dk HH.out (by rw [hdk, HSZ.out]) t (by omega)).1
    rw [Nat.zero_add] at h1
    rw [← hfm.done t (Nat.zero_le _) ht, ← h1, hw']
    rfl
  have hbel : Below g w w' := by
    rw [hw']
    refine ⟨rfl, rfl, rfl, ?_, fun k hk => ?_⟩
    · show w.heap.size ≤ (putRow encB w g 0 dk).heap.size
      simp [putRow, mapBlock]
    · show (putRow encB w g 0 dk).heap[k]? = w.heap[k]?
      have : g ≠ k := by omega
      simp [putRow, mapBlock, Array.getElem?_modify, this]
  have hszw : g < w'.heap.size := Nat.lt_of_lt_of_le hg hbel.size
  have HB := Lib.hid hbel
  have HC := Lib.hid hcell
  clear hfb hw' hfm hdk hbel hcell
  go_wp2_with fail
  go_loop [3] (fun v3 => ∃ k : Nat, D ≤ k ∧ k ≤ N ∧ v3 = .int .i64 k) (fun v3 => (RowKit.intOf v3).toNat)
  case atStart => exact ⟨N, hDN, Nat.le_refl _, rfl⟩
  case round =>
    obtain ⟨k, hk1, hk2, rfl⟩ := hrel
    have hk0 : ((0 : Int) < (k : Int)) = True := by simp; omega
    have hkm : ((k : Int) - 1) = ((k - 1 : Nat) : Int) := by omega
    have hk24 : k ≤ 32 := by omega
    have hcl := HC.out (k - 1) (by omega)
    by_cases he : k = D
    · have h1 : dg u (N - 1 - (k - 1)) ≠ 48 := by
        rw [HU.out, dg_high _ _ _ (by have := HN.out; omega)]
        have : N - 1 - (k - 1) - r = 0 := by have := HN.out; omega
        rw [this]
        exact dg_last m hm
      obtain ⟨x, hx⟩ : ∃ x : UInt8, x = dg u (N - 1 - (k - 1)) := ⟨_, rfl⟩
      rw [← hx] at hcl h1
      have hxn : ((x.toNat : Int) == 48) = false := by
        rw [beq_eq_false_iff_ne]
        intro hh
        exact h1 (UInt8.toNat_inj.1 (by simpa using Int.ofNat.inj hh))
      unfold encB at hcl
      clear hx h1
      subst he
      go_wp2_with fail
      ((try simp only [Exit.inBlock, Exit.then]); refine bodyPost_ret (results_tmp2 rfl _ _ _) rfl ?_)
      refine ⟨rfl, ⟨hszw, fun j hj => ?_⟩, HB.out⟩
      have hj2 : j < nDigits m := by rw [← decDigits_length]; exact hj
      have hNr := HN.out
      have hDm := HD.out
      rw [HC.out j (by omega), HU.out, dg_high _ _ _ (by omega)]
      simp only [decDigits_eq, List.getElem_map, List.getElem_range]
      unfold byteV encB
      rw [show N - 1 - j - r = nDigits m - 1 - j by omega]
    · have h1 : dg u (N - 1 - (k - 1)) = 48 := by
        rw [HU.out]
        exact dg_low _ _ _ (by have := HN.out; omega)
      rw [h1] at hcl
      have hcl2 : w'.cell? ⟨g, k - 1, none⟩ = some (.int .u8 48) := hcl
      clear hcl h1
      go_wp2_with fail
      exact ⟨⟨k - 1, by omega, by omega, rfl⟩, by simp [RowKit.intOf]; omega⟩
end
open Go.RowKit Go.Proofs Tx
open Go.Proofs.YtghajgdiaopioaaGreatDoorW.PrintWords
open Fl (Fin s0 sp sOut rowOk rung InR)

theorem dec_Ds {d : Nat} (h1 : 1 ≤ d) (h : d < 100000000000000000) : Ds (Lib.decDigits d) := by
  obtain ⟨a, b, c, d1, e⟩ := dec_all d
  refine ⟨a, ⟨?_, e 16 h⟩, d1 h1⟩
  rw [Lib.decDigits_length]
  exact Lib.nDigits_pos d

/-- What stands in the digits' array: u's digits, without the noughts behind. -/
def sig (u d r : Nat) : Prop := u = d * 10 ^ r ∧ d % 10 ≠ 0 ∧ 1 ≤ d

theorem and2047 : ∀ n : Nat, n < 4096 → bits BinOp.and IntKind.i64 (n : Int) 2047 = ((n % 2048 : Nat) : Int) := by
  have h : (List.range 4096).all (fun n => decide (bits BinOp.and IntKind.i64 (n : Int) 2047 = ((n % 2048 : Nat) : Int))) = true := by decide +kernel
  intro n hn
  exact of_decide_eq_true (List.all_eq_true.1 h n (List.mem_range.2 hn))
theorem or_hi (a : Nat) (h : a < 4503599627370496) : a ||| 4503599627370496 = a + 4503599627370496 := by
  have := Nat.two_pow_add_eq_or_of_lt (i := 52) (b := a) h 1
  rw [Nat.mul_one] at this
  rw [Nat.or_comm]
  have e : (2 : Nat) ^ 52 = 4503599627370496 := by decide
  rw [e] at this
  rw [← this]
  omega

set_option maxRecDepth 100000 in
set_option maxHeartbeats 4000000 in
theorem ftoa_nrm {m : Nat} {e : Int} (h : Fin m e) (h52 : 4503599627370496 ≤ m) (neg : Bool) {d r : Nat} (hsig : sig (sU m e).1 d r) (w : World) (B : Nat) (A : Option Addr) (k c : Nat) (hR : byteK.R 5 w B (fun q => q ≠ w.heap.size) (.slice A k c) []) (hB : B ≤ w.heap.size) (hp : P10 w) (hB22 : 22 < B)
    (htab : Lib.TabIs Tryz.prog w "internal/strconv.uint64pow10" .u64 Lib.pow10Tab) :
    Calls Tryz.prog 136 #[.slice A k c, .float .f64 (sgn neg + rung m e : Nat), .int .u8 103, .int .i64 (-1)] w fun e' w' =>
      ∃ v, e' = .returned v ∧ byteK.R 5 w' B (fun q => q ≠ w.heap.size) v (numT neg (Lib.decDigits d) ((Lib.nDigits (sU m e).1 : Nat) + (sU m e).2)) ∧ Below B w w' := by
  have hm0 := h.m0
  have hm1 := h.m1
  have he0 := h.e0
  have he1 := h.e1
  obtain ⟨z1, z2⟩ := h.s0_ge
  have hrl := Fl.rung_lt h
  have hlg := h.log
  obtain ⟨-, u1, u2, u3, u4⟩ := sU_in h
  have hsf0 := fun (w : World) (hp : P10 w) => short2_any h w hp
  obtain ⟨sb, hsb⟩ : ∃ sb : Nat, sb = if neg then 1 else 0 := ⟨_, rfl⟩
  have hsg : sgn neg = sb * 9223372036854775808 := by rw [hsb]; unfold sgn; cases neg <;> rfl
  have hsb1 : sb ≤ 1 := by rw [hsb]; cases neg <;> decide
  have hS2 : ((sb : Int) == 0) = !neg := by rw [hsb]; cases neg <;> rfl
  have hS3 : ((sb : Int) != 0) = neg := by rw [hsb]; cases neg <;> rfl
  have hS4 : decide ((sb : Int) = 0) = !neg := by rw [hsb]; cases neg <;> rfl
  clear hsb
  obtain ⟨x, hx⟩ : ∃ x, x = sgn neg + rung m e := ⟨_, rfl⟩
  obtain ⟨E, hEe⟩ : ∃ E : Nat, E = (e + 1075).toNat := ⟨_, rfl⟩
  have hrg : rung m e = E * 4503599627370496 + (m - 4503599627370496) := by unfold rung; omega
  rw [← hx]
  rw [hrg, hsg] at hx
  rw [hrg] at hrl
  clear hsg
  have hEb : E < 2047 := by omega
  have hS : (x : Int) / 9223372036854775808 = (sb : Int) := by omega
  obtain ⟨E2, hE2e⟩ : ∃ E2 : Nat, E2 = sb * 2048 + E := ⟨_, rfl⟩
  have hE : (x : Int) / 4503599627370496 = (E2 : Int) := by omega
  have hE2b : E2 < 4096 := by omega
  have hand : bits BinOp.and IntKind.i64 (E2 : Int) 2047 = (E : Int) := by
    rw [and2047 E2 hE2b]; omega
  clear hE2e
  have hE1 : ((E : Int) == 2047) = false := by rw [beq_eq_false_iff_ne]; omega
  have hE2 : ((E : Int) == 0) = false := by rw [beq_eq_false_iff_ne]; omega
  have hxb : x < 18446744073709551616 := by omega
  have hxm : x % 4503599627370496 = (m - 4503599627370496) := by omega
  have hand2 : bits BinOp.and IntKind.u64 (x : Int) 4503599627370495 = (((m - 4503599627370496) : Nat) : Int) := by
    rw [u64_and _ _ (by omega) (by omega) (by omega) (by omega)]
    rw [← hxm]
    exact congrArg Int.ofNat (Nat.and_two_pow_sub_one_eq_mod x 52)
  have hor : bits BinOp.or IntKind.u64 ((m - 4503599627370496 : Nat) : Int) 4503599627370496 = (m : Int) := by
    rw [u64_or _ _ (by omega) (by omega) (by omega) (by omega), Int.toNat_natCast]
    show (((m - 4503599627370496) ||| 4503599627370496 : Nat) : Int) = m
    have := or_hi (m - 4503599627370496) (by omega)
    rw [this]
    omega
  have hq0 : ((m : Int) == 0) = false := by rw [beq_eq_false_iff_ne]; omega
  have hEL : ((E : Int) + -1023) = e + 52 := by omega
  have hLLz : ∀ z : Nat, e - (z : Int) = e + 52 - (z : Int) - 52 := by omega
  clear hxm hx hEe hrg hrl
  obtain ⟨t1, t2⟩ := h.top
  obtain ⟨bl, hbl⟩ : ∃ bl, bl = m.log2 + 1 := ⟨_, rfl⟩
  obtain ⟨z, hz⟩ : ∃ z, z = s0 m := ⟨_, rfl⟩
  have hblz : (64 - (bl : Int)) = (z : Int) := by rw [hz, hbl]; unfold s0 at z1 z2 ⊢; omega
  have hbitl : Lib.bitLen m = bl := by rw [hbl]; exact bitLen_log m (by omega) (by omega)
  obtain ⟨M, hM⟩ : ∃ M, M = sM m := ⟨_, rfl⟩
  have hsh : IntKind.u64.wrap ((m : Int) * 2 ^ z) = (M : Int) := by
    have e1 : (m : Int) * 2 ^ z = (M : Int) := by rw [hM, hz]; unfold sM; push_cast; rfl
    rw [e1, IntKind.wrap_u64]
    have : M < 18446744073709551616 := by
      rw [hM]; unfold sM
      rw [Nat.add_mul, Nat.one_mul] at t2
      have := Nat.two_pow_pos (s0 m)
      simp only [Nat.reducePow] at t2
      omega
    omega
  rw [← hz] at z1 z2
  rw [← hz, ← hM] at hsf0
  obtain ⟨u, hu⟩ : ∃ u, u = (sU m e).1 := ⟨_, rfl⟩
  obtain ⟨p, hpe⟩ : ∃ p, p = (sU m e).2 := ⟨_, rfl⟩
  rw [← hu] at u1 u2 hsig
  rw [← hpe] at u3 u4
  rw [← hu, ← hpe] at hsf0 ⊢
  have HB := Lib.hid hbitl
  have HR := Lib.hid hR
  have HT := Lib.hid htab
  have HP := Lib.hid hp
  have HSF := Lib.hid hsf0
  have HH := Lib.hid h
  clear hbl hz hM hbitl hR htab hp t1 t2 hsf0 hu hpe h hlg
  have hLL := hLLz z
  clear hLLz
  have hbl64 : bl ≤ 64 := by omega
  obtain ⟨hmi, hm10, hd1⟩ := hsig
  have HMI := Lib.hid hmi
  clear hmi
  go_enter Tryz.func136, Tryz.ntmps136
  go_wp2_with fail
  go_quiet (fail)
  go_wp2_with fail
  obtain ⟨W, hW⟩ : ∃ W, W = (w.drewN nq).alloc (.cells #[.int .u8 0, .int .u8 0, .int .u8 0, .int .u8 0, .int .u8 0, .int .u8 0, .int .u8 0, .int .u8 0, .int .u8 0, .int .u8 0, .int .u8 0, .int .u8 0, .int .u8 0, .int .u8 0, .int .u8 0, .int .u8 0, .int .u8 0, .int .u8 0, .int .u8 0, .int .u8 0, .int .u8 0, .int .u8 0, .int .u8 0, .int .u8 0, .int .u8 0, .int .u8 0, .int .u8 0, .int .u8 0, .int .u8 0, .int .u8 0, .int .u8 0, .int .u8 0] 205 (0, 0)) := ⟨_, rfl⟩
  rw [← hW]
  have hWb : Below w.heap.size w W := by rw [hW]; exact (below_drewN w nq).trans (by simpa using below_alloc1 (w.drewN nq) _)
  have hWg : W.heap[w.heap.size]? = some (.cells (Array.replicate 32 (.int .u8 0)) 205 (0, 0)) := by rw [hW]; exact blk_new (w.drewN nq) _
  have hWs : W.heap.size = w.heap.size + 1 := by rw [hW]; simp [World.alloc]
  have HWW := Lib.hid hW
  clear hW
  have hlen := Tryz.bits_Len64 (m : Int) W (by omega) (by omega)
  rw [Int.toNat_natCast, HB.out] at hlen
  refine hlen.mono ?_
  rintro e'' W' ⟨rfl, hWe⟩
  rw [hWe]
  clear hlen hWe
  have hsf := HSF.out W (HP.out.below hWb (by omega))
  rw [hLL] at hsf
  clear hLL
  go_wp2_with fail
  refine hsf.mono ?_
  rintro e'' w2 ⟨rfl, hb2⟩
  clear hsf
  go_wp2_with fail
  have hb3 := hb2.drew
  have hnd : Lib.nDigits u = Lib.nDigits d + r := by rw [HMI.out, nDig_pow d hd1]
  have hnl : Lib.nDigits u ≤ 17 := by
    have := (dec_all u).2.2.2.2 16 u2
    rwa [Lib.decDigits_length] at this
  have hk2 : w2.drew.heap[w.heap.size]? = some (.cells (Array.replicate 32 (.int .u8 0)) 205 (0, 0)) := (hb3.block _ (by omega)).trans hWg
  have hsz2 : w.heap.size < w2.drew.heap.size := by have := hb3.size; omega
  have htab2 : Lib.TabIs Tryz.prog w2.drew "internal/strconv.uint64pow10" .u64 Lib.pow10Tab :=
    Go.Joins.tab_stays (g := 11) (by kernel_rfl) (Go.Joins.tab_stays (g := 11) (by kernel_rfl) HT.out hWb (Nat.le_refl _)) hb3 (Nat.le_refl _)
  have hnum0 := Tryz.internal_strconv_numDigits u u1 (by omega) w2.drew htab2
  have hset0 := setd2_any w.heap.size d r w2.drew hd1 hm10 (by omega) (by rw [← HMI.out]; omega) p (by omega) (holds32 hk2 (by omega)) hsz2
  rw [← hnd, ← HMI.out] at hset0
  obtain ⟨N, hN⟩ : ∃ N, N = Lib.nDigits u := ⟨_, rfl⟩
  rw [← hN] at hnum0 hset0 hnd hnl
  have HN := Lib.hid hN
  have HND := Lib.hid hnd
  clear hN hnd
  have hnum : Calls Tryz.prog 125 #[.int .u64 u] w2.drew fun e w' => ∃ y, e = .returned y ∧ (y = .int .i64 N ∧ w' = w2.drew) := hnum0.mono fun e w' ⟨a, b⟩ => ⟨_, a, rfl, b⟩
  have hset : Calls Tryz.prog 153 #[.slice (some ⟨w.heap.size, 0, none⟩) 32 32, .int .u64 u, .int .i64 p, .int .i64 N] w2.drew fun e w' => ∃ y, e = .returned y ∧ (y = .tuple #[.int .i64 (N + p), .int .i64 (Lib.nDigits d)] ∧ DigAt w.heap.size (Lib.decDigits d) w' ∧ Below w.heap.size w2.drew w') := hset0.mono fun e w' ⟨a, b⟩ => ⟨_, a, rfl, b⟩
  clear hnum0 hset0
  go_region_law (first
    | (refine step_call rfl 125 (.tmp 143) _ rfl call125 (.int .u64 u) (by simp [Act.eval, Act.put]) hnum ?_; rintro y w3 ⟨rfl, rfl⟩)
    | (refine step_call4 rfl 153 (.tmp 140) (.tmp 141) (.tmp 142) (.tmp 144) _ rfl call153 _ _ _ _ (by simp [Act.eval, Act.put]) (by simp [Act.eval, Act.put]) (by simp [Act.eval, Act.put]) (by simp [Act.eval, Act.put]) hset ?_; rintro y w3 ⟨rfl, hd3, hbl3⟩))
  have hall : Below w.heap.size w w3 := (hWb.trans (hb3.mono (by omega))).trans hbl3
  have hlen : (Lib.decDigits d).length = Lib.nDigits d := Lib.decDigits_length d
  have hdu : d ≤ u := by rw [HMI.out]; exact Nat.le_mul_of_pos_right _ (Nat.pow_pos (by decide))
  have hDs := dec_Ds hd1 (by omega)
  have hpos : 1 ≤ Lib.nDigits d := Lib.nDigits_pos d
  have hef := efg_any w3 B A k c [] w.heap.size hDs (dp := (N : Int) + p) (by have := HND.out; omega) (by omega) neg (Kd.R_below HR.out hall) hd3 (by have := hall.size; omega) (by simp)
  rw [List.nil_append, hlen] at hef
  have HEF := Lib.hid hef
  have HALL := Lib.hid hall
  clear hef hall hlen hDs hd3 hbl3 hb3 hb2 hWb hk2 htab2 hset hnum
  go_wp2_with fail
  refine HEF.out.mono ?_
  rintro e'' w4 ⟨v, rfl, hRv, hb4⟩
  have hfin : Below B w w4 := (HALL.out.mono hB).trans hb4
  have HFIN := Lib.hid hfin
  have HRV := Lib.hid hRv
  clear hfin hb4 hRv
  go_wp2_with fail
  all_goals go_ret
  all_goals exact ⟨v, rfl, by rw [← HN.out]; exact HRV.out, HFIN.out⟩

set_option maxRecDepth 100000 in
set_option maxHeartbeats 4000000 in
theorem ftoa_sub {m : Nat} {e : Int} (h : Fin m e) (h52 : m < 4503599627370496) (he : e = -1074) (neg : Bool) {d r : Nat} (hsig : sig (sU m e).1 d r) (w : World) (B : Nat) (A : Option Addr) (k c : Nat) (hR : byteK.R 5 w B (fun q => q ≠ w.heap.size) (.slice A k c) []) (hB : B ≤ w.heap.size) (hp : P10 w) (hB22 : 22 < B)
    (htab : Lib.TabIs Tryz.prog w "internal/strconv.uint64pow10" .u64 Lib.pow10Tab) :
    Calls Tryz.prog 136 #[.slice A k c, .float .f64 (sgn neg + rung m e : Nat), .int .u8 103, .int .i64 (-1)] w fun e' w' =>
      ∃ v, e' = .returned v ∧ byteK.R 5 w' B (fun q => q ≠ w.heap.size) v (numT neg (Lib.decDigits d) ((Lib.nDigits (sU m e).1 : Nat) + (sU m e).2)) ∧ Below B w w' := by
  have hm0 := h.m0
  have hm1 := h.m1
  have he0 := h.e0
  have he1 := h.e1
  obtain ⟨z1, z2⟩ := h.s0_ge
  have hrl := Fl.rung_lt h
  have hlg := h.log
  obtain ⟨-, u1, u2, u3, u4⟩ := sU_in h
  have hsf0 := fun (w : World) (hp : P10 w) => short2_any h w hp
  obtain ⟨sb, hsb⟩ : ∃ sb : Nat, sb = if neg then 1 else 0 := ⟨_, rfl⟩
  have hsg : sgn neg = sb * 9223372036854775808 := by rw [hsb]; unfold sgn; cases neg <;> rfl
  have hsb1 : sb ≤ 1 := by rw [hsb]; cases neg <;> decide
  have hS2 : ((sb : Int) == 0) = !neg := by rw [hsb]; cases neg <;> rfl
  have hS3 : ((sb : Int) != 0) = neg := by rw [hsb]; cases neg <;> rfl
  have hS4 : decide ((sb : Int) = 0) = !neg := by rw [hsb]; cases neg <;> rfl
  clear hsb
  obtain ⟨x, hx⟩ : ∃ x, x = sgn neg + rung m e := ⟨_, rfl⟩
  obtain ⟨E, hEe⟩ : ∃ E : Nat, E = 0 := ⟨_, rfl⟩
  have hrg : rung m e = E * 4503599627370496 + m := by unfold rung; omega
  rw [← hx]
  rw [hrg, hsg] at hx
  rw [hrg] at hrl
  clear hsg
  have hEb : E < 2047 := by omega
  have hS : (x : Int) / 9223372036854775808 = (sb : Int) := by omega
  obtain ⟨E2, hE2e⟩ : ∃ E2 : Nat, E2 = sb * 2048 + E := ⟨_, rfl⟩
  have hE : (x : Int) / 4503599627370496 = (E2 : Int) := by omega
  have hE2b : E2 < 4096 := by omega
  have hand : bits BinOp.and IntKind.i64 (E2 : Int) 2047 = (E : Int) := by
    rw [and2047 E2 hE2b]; omega
  clear hE2e
  have hE1 : ((E : Int) == 2047) = false := by rw [beq_eq_false_iff_ne]; omega
  have hE2 : ((E : Int) == 0) = true := by rw [hEe]; rfl
  have hxb : x < 18446744073709551616 := by omega
  have hxm : x % 4503599627370496 = m := by omega
  have hand2 : bits BinOp.and IntKind.u64 (x : Int) 4503599627370495 = ((m : Nat) : Int) := by
    rw [u64_and _ _ (by omega) (by omega) (by omega) (by omega)]
    rw [← hxm]
    exact congrArg Int.ofNat (Nat.and_two_pow_sub_one_eq_mod x 52)
  have hq0 : ((m : Int) == 0) = false := by rw [beq_eq_false_iff_ne]; omega
  have hEL : (E : Int) = 0 := by omega
  have hLLz : ∀ z : Nat, e - (z : Int) = -1022 - (z : Int) - 52 := by omega
  clear hxm hx hEe hrg hrl
  obtain ⟨t1, t2⟩ := h.top
  obtain ⟨bl, hbl⟩ : ∃ bl, bl = m.log2 + 1 := ⟨_, rfl⟩
  obtain ⟨z, hz⟩ : ∃ z, z = s0 m := ⟨_, rfl⟩
  have hblz : (64 - (bl : Int)) = (z : Int) := by rw [hz, hbl]; unfold s0 at z1 z2 ⊢; omega
  have hbitl : Lib.bitLen m = bl := by rw [hbl]; exact bitLen_log m (by omega) (by omega)
  obtain ⟨M, hM⟩ : ∃ M, M = sM m := ⟨_, rfl⟩
  have hsh : IntKind.u64.wrap ((m : Int) * 2 ^ z) = (M : Int) := by
    have e1 : (m : Int) * 2 ^ z = (M : Int) := by rw [hM, hz]; unfold sM; push_cast; rfl
    rw [e1, IntKind.wrap_u64]
    have : M < 18446744073709551616 := by
      rw [hM]; unfold sM
      rw [Nat.add_mul, Nat.one_mul] at t2
      have := Nat.two_pow_pos (s0 m)
      simp only [Nat.reducePow] at t2
      omega
    omega
  rw [← hz] at z1 z2
  rw [← hz, ← hM] at hsf0
  obtain ⟨u, hu⟩ : ∃ u, u = (sU m e).1 := ⟨_, rfl⟩
  obtain ⟨p, hpe⟩ : ∃ p, p = (sU m e).2 := ⟨_, rfl⟩
  rw [← hu] at u1 u2 hsig
  rw [← hpe] at u3 u4
  rw [← hu, ← hpe] at hsf0 ⊢
  have HB := Lib.hid hbitl
  have HR := Lib.hid hR
  have HT := Lib.hid htab
  have HP := Lib.hid hp
  have HSF := Lib.hid hsf0
  have HH := Lib.hid h
  clear hbl hz hM hbitl hR htab hp t1 t2 hsf0 hu hpe h hlg
  have hLL := hLLz z
  clear hLLz
  have hbl64 : bl ≤ 64 := by omega
  obtain ⟨hmi, hm10, hd1⟩ := hsig
  have HMI := Lib.hid hmi
  clear hmi
  go_enter Tryz.func136, Tryz.ntmps136
  go_wp2_with fail
  go_quiet (fail)
  go_wp2_with fail
  obtain ⟨W, hW⟩ : ∃ W, W = (w.drewN nq).alloc (.cells #[.int .u8 0, .int .u8 0, .int .u8 0, .int .u8 0, .int .u8 0, .int .u8 0, .int .u8 0, .int .u8 0, .int .u8 0, .int .u8 0, .int .u8 0, .int .u8 0, .int .u8 0, .int .u8 0, .int .u8 0, .int .u8 0, .int .u8 0, .int .u8 0, .int .u8 0, .int .u8 0, .int .u8 0, .int .u8 0, .int .u8 0, .int .u8 0, .int .u8 0, .int .u8 0, .int .u8 0, .int .u8 0, .int .u8 0, .int .u8 0, .int .u8 0, .int .u8 0] 205 (0, 0)) := ⟨_, rfl⟩
  rw [← hW]
  have hWb : Below w.heap.size w W := by rw [hW]; exact (below_drewN w nq).trans (by simpa using below_alloc1 (w.drewN nq) _)
  have hWg : W.heap[w.heap.size]? = some (.cells (Array.replicate 32 (.int .u8 0)) 205 (0, 0)) := by rw [hW]; exact blk_new (w.drewN nq) _
  have hWs : W.heap.size = w.heap.size + 1 := by rw [hW]; simp [World.alloc]
  have HWW := Lib.hid hW
  clear hW
  have hlen := Tryz.bits_Len64 (m : Int) W (by omega) (by omega)
  rw [Int.toNat_natCast, HB.out] at hlen
  refine hlen.mono ?_
  rintro e'' W' ⟨rfl, hWe⟩
  rw [hWe]
  clear hlen hWe
  have hsf := HSF.out W (HP.out.below hWb (by omega))
  rw [hLL] at hsf
  clear hLL
  go_wp2_with fail
  refine hsf.mono ?_
  rintro e'' w2 ⟨rfl, hb2⟩
  clear hsf
  go_wp2_with fail
  have hb3 := hb2.drew
  have hnd : Lib.nDigits u = Lib.nDigits d + r := by rw [HMI.out, nDig_pow d hd1]
  have hnl : Lib.nDigits u ≤ 17 := by
    have := (dec_all u).2.2.2.2 16 u2
    rwa [Lib.decDigits_length] at this
  have hk2 : w2.drew.heap[w.heap.size]? = some (.cells (Array.replicate 32 (.int .u8 0)) 205 (0, 0)) := (hb3.block _ (by omega)).trans hWg
  have hsz2 : w.heap.size < w2.drew.heap.size := by have := hb3.size; omega
  have htab2 : Lib.TabIs Tryz.prog w2.drew "internal/strconv.uint64pow10" .u64 Lib.pow10Tab :=
    Go.Joins.tab_stays (g := 11) (by kernel_rfl) (Go.Joins.tab_stays (g := 11) (by kernel_rfl) HT.out hWb (Nat.le_refl _)) hb3 (Nat.le_refl _)
  have hnum0 := Tryz.internal_strconv_numDigits u u1 (by omega) w2.drew htab2
  have hset0 := setd2_any w.heap.size d r w2.drew hd1 hm10 (by omega) (by rw [← HMI.out]; omega) p (by omega) (holds32 hk2 (by omega)) hsz2
  rw [← hnd, ← HMI.out] at hset0
  obtain ⟨N, hN⟩ : ∃ N, N = Lib.nDigits u := ⟨_, rfl⟩
  rw [← hN] at hnum0 hset0 hnd hnl
  have HN := Lib.hid hN
  have HND := Lib.hid hnd
  clear hN hnd
  have hnum : Calls Tryz.prog 125 #[.int .u64 u] w2.drew fun e w' => ∃ y, e = .returned y ∧ (y = .int .i64 N ∧ w' = w2.drew) := hnum0.mono fun e w' ⟨a, b⟩ => ⟨_, a, rfl, b⟩
  have hset : Calls Tryz.prog 153 #[.slice (some ⟨w.heap.size, 0, none⟩) 32 32, .int .u64 u, .int .i64 p, .int .i64 N] w2.drew fun e w' => ∃ y, e = .returned y ∧ (y = .tuple #[.int .i64 (N + p), .int .i64 (Lib.nDigits d)] ∧ DigAt w.heap.size (Lib.decDigits d) w' ∧ Below w.heap.size w2.drew w') := hset0.mono fun e w' ⟨a, b⟩ => ⟨_, a, rfl, b⟩
  clear hnum0 hset0
  go_region_law (first
    | (refine step_call rfl 125 (.tmp 143) _ rfl call125 (.int .u64 u) (by simp [Act.eval, Act.put]) hnum ?_; rintro y w3 ⟨rfl, rfl⟩)
    | (refine step_call4 rfl 153 (.tmp 140) (.tmp 141) (.tmp 142) (.tmp 144) _ rfl call153 _ _ _ _ (by simp [Act.eval, Act.put]) (by simp [Act.eval, Act.put]) (by simp [Act.eval, Act.put]) (by simp [Act.eval, Act.put]) hset ?_; rintro y w3 ⟨rfl, hd3, hbl3⟩))
  have hall : Below w.heap.size w w3 := (hWb.trans (hb3.mono (by omega))).trans hbl3
  have hlen : (Lib.decDigits d).length = Lib.nDigits d := Lib.decDigits_length d
  have hdu : d ≤ u := by rw [HMI.out]; exact Nat.le_mul_of_pos_right _ (Nat.pow_pos (by decide))
  have hDs := dec_Ds hd1 (by omega)
  have hpos : 1 ≤ Lib.nDigits d := Lib.nDigits_pos d
  have hef := efg_any w3 B A k c [] w.heap.size hDs (dp := (N : Int) + p) (by have := HND.out; omega) (by omega) neg (Kd.R_below HR.out hall) hd3 (by have := hall.size; omega) (by simp)
  rw [List.nil_append, hlen] at hef
  have HEF := Lib.hid hef
  have HALL := Lib.hid hall
  clear hef hall hlen hDs hd3 hbl3 hb3 hb2 hWb hk2 htab2 hset hnum
  go_wp2_with fail
  refine HEF.out.mono ?_
  rintro e'' w4 ⟨v, rfl, hRv, hb4⟩
  have hfin : Below B w w4 := (HALL.out.mono hB).trans hb4
  have HFIN := Lib.hid hfin
  have HRV := Lib.hid hRv
  clear hfin hb4 hRv
  go_wp2_with fail
  all_goals go_ret
  all_goals exact ⟨v, rfl, by rw [← HN.out]; exact HRV.out, HFIN.out⟩
end Go.Proofs.YtghajgdiaopioaaGreatDoor
end
