/- Walks and plain laws joined (Hj). Conditions: stand in each law. -/
import Derived.Test.YtghajgdiaopioaaGreatDoorJxq
set_option linter.unusedVariables false
set_option linter.unusedSimpArgs false
section
/- Walks: fmtEFG with an exponent. Conditions: stand in each contract. -/
namespace Go.Proofs.YtghajgdiaopioaaGreatDoor
open Go.RowKit Go.Proofs Tx
open Go.Proofs.YtghajgdiaopioaaGreatDoorW.PrintWords
set_option maxRecDepth 40000 in
set_option maxHeartbeats 8000000 in
theorem efgE_000 (w : World) (B : Nat) (A : Option Addr) (k c : Nat) (xs : Bs) (g : Nat) (d0 : UInt8) (x : Nat) (hx0 : 6 ≤ x) (hx1 : x < 1000) (hR : byteK.R 5 w B (fun q => q ≠ g) (.slice A k c) xs) (hD : DigAt g (d0 :: []) w) (hB : B ≤ w.heap.size) (hx : xs.length ≤ 1000) :
    Calls Tryz.prog 151 #[.slice A k c, .bool false, .slice (some ⟨g, 0, none⟩) 32 32, .int .i64 (1 + (x : Int)), .int .i64 1, .int .i64 1, .int .u8 103, .bool true] w fun e w' =>
      ∃ v, e = .returned v ∧ byteK.R 5 w' B (fun q => q ≠ g) v (xs ++ [d0] ++ [101] ++ [43] ++ e2T x) ∧ Below B w w' := by
  obtain ⟨ds, hds⟩ : ∃ ds, ds = d0 :: [] := ⟨_, rfl⟩
  rw [← hds] at hD
  have hdl : 0 < ds.length := by rw [hds]; simp
  have hd0 : ds[0]'hdl = d0 := by subst hds; rfl
  have hcell := fun (ww : World) (h : DigAt g ds ww) => h.2 0 hdl
  rw [hd0] at hcell
  unfold byteV at hcell
  have HC := Lib.hid hcell
  have HDS := Lib.hid hds
  have HR := Lib.hid hR
  have HD := Lib.hid hD
  clear hR hD hd0 hcell hds hdl
  have q1 : ((1 : Int) + x - 1) = (x : Int) := by omega
  have q2 : ((x : Int) < -4) = False := eq_false (by omega)
  have q3 : ((6 : Int) ≤ (x : Int)) = True := eq_true (by omega)
  have q4 : ((x : Int) < 0) = False := eq_false (by omega)
  go_enter Tryz.func151, Tryz.ntmps151
  have hc0 := HC.out _ HD.out
  go_wp2_with (at_builtin; go_loud (refine byte_append (w0 := w) g B rfl (.tmp 87) (.tmp 89) rfl Tryz.underlying92 info5 A k c xs d0 (by simp [Act.eval]) (by simp [Act.eval]) HR.out ds HD.out (Below.refl _ _) (by omega) (by first | omega | (simp; omega) | (have := HN.out; simp; omega)) ?_))
  intro A0 k0 c0 w0 hR0 hD0 hb0 hs0
  have HR0 := Lib.hid (show byteK.R 5 w0 B (fun q => q ≠ g) (.slice A0 k0 c0) (xs ++ [d0]) by simpa using hR0)
  have HD0 := Lib.hid hD0
  have HB0 := Lib.hid hb0
  clear hR0 hD0 hb0
  clear hc0
  go_wp2_with (at_builtin; go_loud (refine byte_append (w0 := w) g B rfl (.tmp 120) (.tmp 122) rfl Tryz.underlying92 info5 A0 k0 c0 (xs ++ [d0]) 101 (by simp [Act.eval]) (by simp [Act.eval]) HR0.out ds HD0.out HB0.out (by omega) (by first | omega | (simp; omega) | (have := HN.out; simp; omega)) ?_))
  intro A1 k1 c1 w1 hR1 hD1 hb1 hs1
  have HR1 := Lib.hid (show byteK.R 5 w1 B (fun q => q ≠ g) (.slice A1 k1 c1) ((xs ++ [d0]) ++ [101]) by simpa using hR1)
  have HD1 := Lib.hid hD1
  have HB1 := Lib.hid hb1
  clear hR1 hD1 hb1
  go_wp2_with (at_builtin; go_loud (refine byte_append (w0 := w) g B rfl (.tmp 132) (.tmp 134) rfl Tryz.underlying92 info5 A1 k1 c1 ((xs ++ [d0]) ++ [101]) 43 (by simp [Act.eval]) (by simp [Act.eval]) HR1.out ds HD1.out HB1.out (by omega) (by first | omega | (simp; omega) | (have := HN.out; simp; omega)) ?_))
  intro A2 k2 c2 w2 hR2 hD2 hb2 hs2
  have HR2 := Lib.hid (show byteK.R 5 w2 B (fun q => q ≠ g) (.slice A2 k2 c2) (((xs ++ [d0]) ++ [101]) ++ [43]) by simpa using hR2)
  have HD2 := Lib.hid hD2
  have HB2 := Lib.hid hb2
  clear hR2 hD2 hb2
  by_cases hlt : x < 10
  · skip
    have he2 : e2T x = [48, UInt8.ofNat (48 + x)] := by unfold e2T; rw [if_pos hlt]
    have HE2 := Lib.hid he2
    clear he2
    go_wp2_with (at_builtin; go_loud (refine bytes_append (w0 := w) g B rfl (.tmp 155) (.tmp 159) rfl Tryz.underlying92 info5 A2 k2 c2 (((xs ++ [d0]) ++ [101]) ++ [43]) [48, UInt8.ofNat (48 + x)] 2 rfl _ (by simp [byteV]; omega) (by simp [Act.eval]) (by simp [Act.eval]) HR2.out ds HD2.out (by simp) HB2.out (by omega) (by first | omega | (simp; omega)) ?_))
    intro A3 k3 c3 w3 hR3 hD3 hb3 hs3
    have HR3 := Lib.hid (show byteK.R 5 w3 B (fun q => q ≠ g) (.slice A3 k3 c3) ((((xs ++ [d0]) ++ [101]) ++ [43]) ++ e2T x) by rw [HE2.out]; simpa using hR3)
    have HB3 := Lib.hid hb3
    clear hR3 hD3 hb3
    go_wp2
    go_ret
    exact ⟨_, rfl, HR3.out, HB3.out⟩
  have hge : ¬ x < 10 := hlt
  clear hlt
  by_cases hlt : x < 100
  · skip
    have he2 : e2T x = [UInt8.ofNat (48 + x / 10), UInt8.ofNat (48 + x % 10)] := by unfold e2T; rw [if_neg hge, if_pos hlt]
    have HE2 := Lib.hid he2
    clear he2
    go_wp2_with (at_builtin; go_loud (refine bytes_append (w0 := w) g B rfl (.tmp 164) (.tmp 173) rfl Tryz.underlying92 info5 A2 k2 c2 (((xs ++ [d0]) ++ [101]) ++ [43]) [UInt8.ofNat (48 + x / 10), UInt8.ofNat (48 + x % 10)] 2 rfl _ (by simp [byteV]; omega) (by simp [Act.eval]) (by simp [Act.eval]) HR2.out ds HD2.out (by simp) HB2.out (by omega) (by first | omega | (simp; omega)) ?_))
    intro A3 k3 c3 w3 hR3 hD3 hb3 hs3
    have HR3 := Lib.hid (show byteK.R 5 w3 B (fun q => q ≠ g) (.slice A3 k3 c3) ((((xs ++ [d0]) ++ [101]) ++ [43]) ++ e2T x) by rw [HE2.out]; simpa using hR3)
    have HB3 := Lib.hid hb3
    clear hR3 hD3 hb3
    go_wp2
    go_ret
    exact ⟨_, rfl, HR3.out, HB3.out⟩
  have hge2 : ¬ x < 100 := hlt
  clear hlt
  · skip
    have he2 : e2T x = [UInt8.ofNat (48 + x / 100), UInt8.ofNat (48 + x / 10 % 10), UInt8.ofNat (48 + x % 10)] := by unfold e2T; rw [if_neg hge, if_neg hge2]
    have HE2 := Lib.hid he2
    clear he2
    go_wp2_with (at_builtin; go_loud (refine bytes_append (w0 := w) g B rfl (.tmp 136) (.tmp 150) rfl Tryz.underlying92 info5 A2 k2 c2 (((xs ++ [d0]) ++ [101]) ++ [43]) [UInt8.ofNat (48 + x / 100), UInt8.ofNat (48 + x / 10 % 10), UInt8.ofNat (48 + x % 10)] 3 rfl _ (by simp [byteV]; omega) (by simp [Act.eval]) (by simp [Act.eval]) HR2.out ds HD2.out (by simp) HB2.out (by omega) (by first | omega | (simp; omega)) ?_))
    intro A3 k3 c3 w3 hR3 hD3 hb3 hs3
    have HR3 := Lib.hid (show byteK.R 5 w3 B (fun q => q ≠ g) (.slice A3 k3 c3) ((((xs ++ [d0]) ++ [101]) ++ [43]) ++ e2T x) by rw [HE2.out]; simpa using hR3)
    have HB3 := Lib.hid hb3
    clear hR3 hD3 hb3
    go_wp2
    go_ret
    exact ⟨_, rfl, HR3.out, HB3.out⟩

set_option maxRecDepth 40000 in
set_option maxHeartbeats 8000000 in
theorem efgE_001 (w : World) (B : Nat) (A : Option Addr) (k c : Nat) (xs : Bs) (g : Nat) (d0 : UInt8) (x : Nat) (hx0 : 5 ≤ x) (hx1 : x < 1000) (hR : byteK.R 5 w B (fun q => q ≠ g) (.slice A k c) xs) (hD : DigAt g (d0 :: []) w) (hB : B ≤ w.heap.size) (hx : xs.length ≤ 1000) :
    Calls Tryz.prog 151 #[.slice A k c, .bool false, .slice (some ⟨g, 0, none⟩) 32 32, .int .i64 (1 - (x : Int)), .int .i64 1, .int .i64 1, .int .u8 103, .bool true] w fun e w' =>
      ∃ v, e = .returned v ∧ byteK.R 5 w' B (fun q => q ≠ g) v (xs ++ [d0] ++ [101] ++ [45] ++ e2T x) ∧ Below B w w' := by
  obtain ⟨ds, hds⟩ : ∃ ds, ds = d0 :: [] := ⟨_, rfl⟩
  rw [← hds] at hD
  have hdl : 0 < ds.length := by rw [hds]; simp
  have hd0 : ds[0]'hdl = d0 := by subst hds; rfl
  have hcell := fun (ww : World) (h : DigAt g ds ww) => h.2 0 hdl
  rw [hd0] at hcell
  unfold byteV at hcell
  have HC := Lib.hid hcell
  have HDS := Lib.hid hds
  have HR := Lib.hid hR
  have HD := Lib.hid hD
  clear hR hD hd0 hcell hds hdl
  have q1 : ((1 : Int) - x - 1 < -4) = True := eq_true (by omega)
  have q2 : ((1 : Int) - x - 1) = -(x : Int) := by omega
  have q3 : (-(x : Int) < -4) = True := eq_true (by omega)
  have q4 : (-(x : Int) < 0) = True := eq_true (by omega)
  go_enter Tryz.func151, Tryz.ntmps151
  have hc0 := HC.out _ HD.out
  go_wp2_with (at_builtin; go_loud (refine byte_append (w0 := w) g B rfl (.tmp 87) (.tmp 89) rfl Tryz.underlying92 info5 A k c xs d0 (by simp [Act.eval]) (by simp [Act.eval]) HR.out ds HD.out (Below.refl _ _) (by omega) (by first | omega | (simp; omega) | (have := HN.out; simp; omega)) ?_))
  intro A0 k0 c0 w0 hR0 hD0 hb0 hs0
  have HR0 := Lib.hid (show byteK.R 5 w0 B (fun q => q ≠ g) (.slice A0 k0 c0) (xs ++ [d0]) by simpa using hR0)
  have HD0 := Lib.hid hD0
  have HB0 := Lib.hid hb0
  clear hR0 hD0 hb0
  clear hc0
  go_wp2_with (at_builtin; go_loud (refine byte_append (w0 := w) g B rfl (.tmp 120) (.tmp 122) rfl Tryz.underlying92 info5 A0 k0 c0 (xs ++ [d0]) 101 (by simp [Act.eval]) (by simp [Act.eval]) HR0.out ds HD0.out HB0.out (by omega) (by first | omega | (simp; omega) | (have := HN.out; simp; omega)) ?_))
  intro A1 k1 c1 w1 hR1 hD1 hb1 hs1
  have HR1 := Lib.hid (show byteK.R 5 w1 B (fun q => q ≠ g) (.slice A1 k1 c1) ((xs ++ [d0]) ++ [101]) by simpa using hR1)
  have HD1 := Lib.hid hD1
  have HB1 := Lib.hid hb1
  clear hR1 hD1 hb1
  go_wp2_with (at_builtin; go_loud (refine byte_append (w0 := w) g B rfl (.tmp 132) (.tmp 134) rfl Tryz.underlying92 info5 A1 k1 c1 ((xs ++ [d0]) ++ [101]) 45 (by simp [Act.eval]) (by simp [Act.eval]) HR1.out ds HD1.out HB1.out (by omega) (by first | omega | (simp; omega) | (have := HN.out; simp; omega)) ?_))
  intro A2 k2 c2 w2 hR2 hD2 hb2 hs2
  have HR2 := Lib.hid (show byteK.R 5 w2 B (fun q => q ≠ g) (.slice A2 k2 c2) (((xs ++ [d0]) ++ [101]) ++ [45]) by simpa using hR2)
  have HD2 := Lib.hid hD2
  have HB2 := Lib.hid hb2
  clear hR2 hD2 hb2
  by_cases hlt : x < 10
  · skip
    have he2 : e2T x = [48, UInt8.ofNat (48 + x)] := by unfold e2T; rw [if_pos hlt]
    have HE2 := Lib.hid he2
    clear he2
    go_wp2_with (at_builtin; go_loud (refine bytes_append (w0 := w) g B rfl (.tmp 155) (.tmp 159) rfl Tryz.underlying92 info5 A2 k2 c2 (((xs ++ [d0]) ++ [101]) ++ [45]) [48, UInt8.ofNat (48 + x)] 2 rfl _ (by simp [byteV]; omega) (by simp [Act.eval]) (by simp [Act.eval]) HR2.out ds HD2.out (by simp) HB2.out (by omega) (by first | omega | (simp; omega)) ?_))
    intro A3 k3 c3 w3 hR3 hD3 hb3 hs3
    have HR3 := Lib.hid (show byteK.R 5 w3 B (fun q => q ≠ g) (.slice A3 k3 c3) ((((xs ++ [d0]) ++ [101]) ++ [45]) ++ e2T x) by rw [HE2.out]; simpa using hR3)
    have HB3 := Lib.hid hb3
    clear hR3 hD3 hb3
    go_wp2
    go_ret
    exact ⟨_, rfl, HR3.out, HB3.out⟩
  have hge : ¬ x < 10 := hlt
  clear hlt
  by_cases hlt : x < 100
  · skip
    have he2 : e2T x = [UInt8.ofNat (48 + x / 10), UInt8.ofNat (48 + x % 10)] := by unfold e2T; rw [if_neg hge, if_pos hlt]
    have HE2 := Lib.hid he2
    clear he2
    go_wp2_with (at_builtin; go_loud (refine bytes_append (w0 := w) g B rfl (.tmp 164) (.tmp 173) rfl Tryz.underlying92 info5 A2 k2 c2 (((xs ++ [d0]) ++ [101]) ++ [45]) [UInt8.ofNat (48 + x / 10), UInt8.ofNat (48 + x % 10)] 2 rfl _ (by simp [byteV]; omega) (by simp [Act.eval]) (by simp [Act.eval]) HR2.out ds HD2.out (by simp) HB2.out (by omega) (by first | omega | (simp; omega)) ?_))
    intro A3 k3 c3 w3 hR3 hD3 hb3 hs3
    have HR3 := Lib.hid (show byteK.R 5 w3 B (fun q => q ≠ g) (.slice A3 k3 c3) ((((xs ++ [d0]) ++ [101]) ++ [45]) ++ e2T x) by rw [HE2.out]; simpa using hR3)
    have HB3 := Lib.hid hb3
    clear hR3 hD3 hb3
    go_wp2
    go_ret
    exact ⟨_, rfl, HR3.out, HB3.out⟩
  have hge2 : ¬ x < 100 := hlt
  clear hlt
  · skip
    have he2 : e2T x = [UInt8.ofNat (48 + x / 100), UInt8.ofNat (48 + x / 10 % 10), UInt8.ofNat (48 + x % 10)] := by unfold e2T; rw [if_neg hge, if_neg hge2]
    have HE2 := Lib.hid he2
    clear he2
    go_wp2_with (at_builtin; go_loud (refine bytes_append (w0 := w) g B rfl (.tmp 136) (.tmp 150) rfl Tryz.underlying92 info5 A2 k2 c2 (((xs ++ [d0]) ++ [101]) ++ [45]) [UInt8.ofNat (48 + x / 100), UInt8.ofNat (48 + x / 10 % 10), UInt8.ofNat (48 + x % 10)] 3 rfl _ (by simp [byteV]; omega) (by simp [Act.eval]) (by simp [Act.eval]) HR2.out ds HD2.out (by simp) HB2.out (by omega) (by first | omega | (simp; omega)) ?_))
    intro A3 k3 c3 w3 hR3 hD3 hb3 hs3
    have HR3 := Lib.hid (show byteK.R 5 w3 B (fun q => q ≠ g) (.slice A3 k3 c3) ((((xs ++ [d0]) ++ [101]) ++ [45]) ++ e2T x) by rw [HE2.out]; simpa using hR3)
    have HB3 := Lib.hid hb3
    clear hR3 hD3 hb3
    go_wp2
    go_ret
    exact ⟨_, rfl, HR3.out, HB3.out⟩

set_option maxRecDepth 40000 in
set_option maxHeartbeats 8000000 in
theorem efgE_010 (w : World) (B : Nat) (A : Option Addr) (k c : Nat) (xs : Bs) (g : Nat) (d0 : UInt8) (dr : Bs) (hm1 : 1 ≤ dr.length) (hm2 : dr.length ≤ 16) (x : Nat) (hx0 : 6 ≤ x) (hx1 : x < 1000) (hR : byteK.R 5 w B (fun q => q ≠ g) (.slice A k c) xs) (hD : DigAt g (d0 :: dr) w) (hB : B ≤ w.heap.size) (hx : xs.length ≤ 1000) :
    Calls Tryz.prog 151 #[.slice A k c, .bool false, .slice (some ⟨g, 0, none⟩) 32 32, .int .i64 (1 + (x : Int)), .int .i64 (dr.length + 1 : Nat), .int .i64 (dr.length + 1 : Nat), .int .u8 103, .bool true] w fun e w' =>
      ∃ v, e = .returned v ∧ byteK.R 5 w' B (fun q => q ≠ g) v (xs ++ [d0] ++ [46] ++ dr ++ [101] ++ [43] ++ e2T x) ∧ Below B w w' := by
  obtain ⟨ds, hds⟩ : ∃ ds, ds = d0 :: dr := ⟨_, rfl⟩
  rw [← hds] at hD
  have hdl : 0 < ds.length := by rw [hds]; simp
  have hd0 : ds[0]'hdl = d0 := by subst hds; rfl
  have hcell := fun (ww : World) (h : DigAt g ds ww) => h.2 0 hdl
  rw [hd0] at hcell
  unfold byteV at hcell
  have HC := Lib.hid hcell
  have HDS := Lib.hid hds
  have HR := Lib.hid hR
  have HD := Lib.hid hD
  clear hR hD hd0 hcell hds hdl
  have q1 : ((1 : Int) + x - 1) = (x : Int) := by omega
  have q2 : ((x : Int) < -4) = False := eq_false (by omega)
  have q3 : ((6 : Int) ≤ (x : Int)) = True := eq_true (by omega)
  have q4 : ((x : Int) < 0) = False := eq_false (by omega)
  obtain ⟨n1, hn1⟩ : ∃ n1, n1 = dr.length := ⟨_, rfl⟩
  rw [← hn1] at hm1 hm2 ⊢
  have HN := Lib.hid hn1
  clear hn1
  have hmin : min ((n1 : Int) + 1) (n1 + 1 - 1 + 1) = (n1 : Int) + 1 := by omega
  have hmin2 : min ((n1 : Int) + 1) (n1 + 1) = (n1 : Int) + 1 := by omega
  go_enter Tryz.func151, Tryz.ntmps151
  have hc0 := HC.out _ HD.out
  go_wp2_with (at_builtin; go_loud (refine byte_append (w0 := w) g B rfl (.tmp 87) (.tmp 89) rfl Tryz.underlying92 info5 A k c xs d0 (by simp [Act.eval]) (by simp [Act.eval]) HR.out ds HD.out (Below.refl _ _) (by omega) (by first | omega | (simp; omega) | (have := HN.out; simp; omega)) ?_))
  intro A0 k0 c0 w0 hR0 hD0 hb0 hs0
  have HR0 := Lib.hid (show byteK.R 5 w0 B (fun q => q ≠ g) (.slice A0 k0 c0) (xs ++ [d0]) by simpa using hR0)
  have HD0 := Lib.hid hD0
  have HB0 := Lib.hid hb0
  clear hR0 hD0 hb0
  clear hc0
  go_wp2_with (at_builtin; go_loud (refine byte_append (w0 := w) g B rfl (.tmp 93) (.tmp 94) rfl Tryz.underlying92 info5 A0 k0 c0 (xs ++ [d0]) 46 (by simp [Act.eval]) (by simp [Act.eval]) HR0.out ds HD0.out HB0.out (by omega) (by first | omega | (simp; omega) | (have := HN.out; simp; omega)) ?_))
  intro A1 k1 c1 w1 hR1 hD1 hb1 hs1
  have HR1 := Lib.hid (show byteK.R 5 w1 B (fun q => q ≠ g) (.slice A1 k1 c1) ((xs ++ [d0]) ++ [46]) by simpa using hR1)
  have HD1 := Lib.hid hD1
  have HB1 := Lib.hid hb1
  clear hR1 hD1 hb1
  go_wp2_with (at_builtin; go_loud (refine row_append (w0 := w) g B rfl (.tmp 103) (.tmp 107) rfl Tryz.underlying92 info5 A1 k1 c1 ((xs ++ [d0]) ++ [46]) dr 1 31 (by simp [Act.eval]) (by rw [← HN.out]; simp [Act.eval]) HR1.out ds HD1.out (by rw [HDS.out]; rfl) (by rw [← HN.out]; omega) HB1.out (by omega) (by first | omega | (simp; omega) | (have := HN.out; simp; omega)) ?_))
  intro A2 k2 c2 w2 hR2 hD2 hb2 hs2
  have HR2 := Lib.hid (show byteK.R 5 w2 B (fun q => q ≠ g) (.slice A2 k2 c2) (((xs ++ [d0]) ++ [46]) ++ dr) by simpa using hR2)
  have HD2 := Lib.hid hD2
  have HB2 := Lib.hid hb2
  clear hR2 hD2 hb2
  go_wp2
  go_loopw [0, 114] (fun v0 v1 wr => v0 = .slice A2 k2 c2 ∧ v1 = .int .i64 0 ∧ wr = w2) (fun v0 v1 wr => 0)
  case atStart => exact ⟨rfl, rfl, rfl⟩
  case round =>
  obtain ⟨rfl, rfl, rfl⟩ := hrel
  go_wp2_with (at_builtin; go_loud (refine byte_append (w0 := w) g B rfl (.tmp 120) (.tmp 122) rfl Tryz.underlying92 info5 A2 k2 c2 (((xs ++ [d0]) ++ [46]) ++ dr) 101 (by simp [Act.eval]) (by simp [Act.eval]) HR2.out ds HD2.out HB2.out (by omega) (by first | omega | (simp; omega) | (have := HN.out; simp; omega)) ?_))
  intro A3 k3 c3 w3 hR3 hD3 hb3 hs3
  have HR3 := Lib.hid (show byteK.R 5 w3 B (fun q => q ≠ g) (.slice A3 k3 c3) ((((xs ++ [d0]) ++ [46]) ++ dr) ++ [101]) by simpa using hR3)
  have HD3 := Lib.hid hD3
  have HB3 := Lib.hid hb3
  clear hR3 hD3 hb3
  go_wp2_with (at_builtin; go_loud (refine byte_append (w0 := w) g B rfl (.tmp 132) (.tmp 134) rfl Tryz.underlying92 info5 A3 k3 c3 ((((xs ++ [d0]) ++ [46]) ++ dr) ++ [101]) 43 (by simp [Act.eval]) (by simp [Act.eval]) HR3.out ds HD3.out HB3.out (by omega) (by first | omega | (simp; omega) | (have := HN.out; simp; omega)) ?_))
  intro A4 k4 c4 w4 hR4 hD4 hb4 hs4
  have HR4 := Lib.hid (show byteK.R 5 w4 B (fun q => q ≠ g) (.slice A4 k4 c4) (((((xs ++ [d0]) ++ [46]) ++ dr) ++ [101]) ++ [43]) by simpa using hR4)
  have HD4 := Lib.hid hD4
  have HB4 := Lib.hid hb4
  clear hR4 hD4 hb4
  by_cases hlt : x < 10
  · skip
    have he2 : e2T x = [48, UInt8.ofNat (48 + x)] := by unfold e2T; rw [if_pos hlt]
    have HE2 := Lib.hid he2
    clear he2
    go_wp2_with (at_builtin; go_loud (refine bytes_append (w0 := w) g B rfl (.tmp 155) (.tmp 159) rfl Tryz.underlying92 info5 A4 k4 c4 (((((xs ++ [d0]) ++ [46]) ++ dr) ++ [101]) ++ [43]) [48, UInt8.ofNat (48 + x)] 2 rfl _ (by simp [byteV]; omega) (by simp [Act.eval]) (by simp [Act.eval]) HR4.out ds HD4.out (by simp) HB4.out (by omega) (by first | omega | (simp; have := HN.out; omega)) ?_))
    intro A5 k5 c5 w5 hR5 hD5 hb5 hs5
    have HR5 := Lib.hid (show byteK.R 5 w5 B (fun q => q ≠ g) (.slice A5 k5 c5) ((((((xs ++ [d0]) ++ [46]) ++ dr) ++ [101]) ++ [43]) ++ e2T x) by rw [HE2.out]; simpa using hR5)
    have HB5 := Lib.hid hb5
    clear hR5 hD5 hb5
    go_wp2
    go_ret
    exact ⟨_, rfl, HR5.out, HB5.out⟩
  have hge : ¬ x < 10 := hlt
  clear hlt
  by_cases hlt : x < 100
  · skip
    have he2 : e2T x = [UInt8.ofNat (48 + x / 10), UInt8.ofNat (48 + x % 10)] := by unfold e2T; rw [if_neg hge, if_pos hlt]
    have HE2 := Lib.hid he2
    clear he2
    go_wp2_with (at_builtin; go_loud (refine bytes_append (w0 := w) g B rfl (.tmp 164) (.tmp 173) rfl Tryz.underlying92 info5 A4 k4 c4 (((((xs ++ [d0]) ++ [46]) ++ dr) ++ [101]) ++ [43]) [UInt8.ofNat (48 + x / 10), UInt8.ofNat (48 + x % 10)] 2 rfl _ (by simp [byteV]; omega) (by simp [Act.eval]) (by simp [Act.eval]) HR4.out ds HD4.out (by simp) HB4.out (by omega) (by first | omega | (simp; have := HN.out; omega)) ?_))
    intro A5 k5 c5 w5 hR5 hD5 hb5 hs5
    have HR5 := Lib.hid (show byteK.R 5 w5 B (fun q => q ≠ g) (.slice A5 k5 c5) ((((((xs ++ [d0]) ++ [46]) ++ dr) ++ [101]) ++ [43]) ++ e2T x) by rw [HE2.out]; simpa using hR5)
    have HB5 := Lib.hid hb5
    clear hR5 hD5 hb5
    go_wp2
    go_ret
    exact ⟨_, rfl, HR5.out, HB5.out⟩
  have hge2 : ¬ x < 100 := hlt
  clear hlt
  · skip
    have he2 : e2T x = [UInt8.ofNat (48 + x / 100), UInt8.ofNat (48 + x / 10 % 10), UInt8.ofNat (48 + x % 10)] := by unfold e2T; rw [if_neg hge, if_neg hge2]
    have HE2 := Lib.hid he2
    clear he2
    go_wp2_with (at_builtin; go_loud (refine bytes_append (w0 := w) g B rfl (.tmp 136) (.tmp 150) rfl Tryz.underlying92 info5 A4 k4 c4 (((((xs ++ [d0]) ++ [46]) ++ dr) ++ [101]) ++ [43]) [UInt8.ofNat (48 + x / 100), UInt8.ofNat (48 + x / 10 % 10), UInt8.ofNat (48 + x % 10)] 3 rfl _ (by simp [byteV]; omega) (by simp [Act.eval]) (by simp [Act.eval]) HR4.out ds HD4.out (by simp) HB4.out (by omega) (by first | omega | (simp; have := HN.out; omega)) ?_))
    intro A5 k5 c5 w5 hR5 hD5 hb5 hs5
    have HR5 := Lib.hid (show byteK.R 5 w5 B (fun q => q ≠ g) (.slice A5 k5 c5) ((((((xs ++ [d0]) ++ [46]) ++ dr) ++ [101]) ++ [43]) ++ e2T x) by rw [HE2.out]; simpa using hR5)
    have HB5 := Lib.hid hb5
    clear hR5 hD5 hb5
    go_wp2
    go_ret
    exact ⟨_, rfl, HR5.out, HB5.out⟩

set_option maxRecDepth 40000 in
set_option maxHeartbeats 8000000 in
theorem efgE_011 (w : World) (B : Nat) (A : Option Addr) (k c : Nat) (xs : Bs) (g : Nat) (d0 : UInt8) (dr : Bs) (hm1 : 1 ≤ dr.length) (hm2 : dr.length ≤ 16) (x : Nat) (hx0 : 5 ≤ x) (hx1 : x < 1000) (hR : byteK.R 5 w B (fun q => q ≠ g) (.slice A k c) xs) (hD : DigAt g (d0 :: dr) w) (hB : B ≤ w.heap.size) (hx : xs.length ≤ 1000) :
    Calls Tryz.prog 151 #[.slice A k c, .bool false, .slice (some ⟨g, 0, none⟩) 32 32, .int .i64 (1 - (x : Int)), .int .i64 (dr.length + 1 : Nat), .int .i64 (dr.length + 1 : Nat), .int .u8 103, .bool true] w fun e w' =>
      ∃ v, e = .returned v ∧ byteK.R 5 w' B (fun q => q ≠ g) v (xs ++ [d0] ++ [46] ++ dr ++ [101] ++ [45] ++ e2T x) ∧ Below B w w' := by
  obtain ⟨ds, hds⟩ : ∃ ds, ds = d0 :: dr := ⟨_, rfl⟩
  rw [← hds] at hD
  have hdl : 0 < ds.length := by rw [hds]; simp
  have hd0 : ds[0]'hdl = d0 := by subst hds; rfl
  have hcell := fun (ww : World) (h : DigAt g ds ww) => h.2 0 hdl
  rw [hd0] at hcell
  unfold byteV at hcell
  have HC := Lib.hid hcell
  have HDS := Lib.hid hds
  have HR := Lib.hid hR
  have HD := Lib.hid hD
  clear hR hD hd0 hcell hds hdl
  have q1 : ((1 : Int) - x - 1 < -4) = True := eq_true (by omega)
  have q2 : ((1 : Int) - x - 1) = -(x : Int) := by omega
  have q3 : (-(x : Int) < -4) = True := eq_true (by omega)
  have q4 : (-(x : Int) < 0) = True := eq_true (by omega)
  obtain ⟨n1, hn1⟩ : ∃ n1, n1 = dr.length := ⟨_, rfl⟩
  rw [← hn1] at hm1 hm2 ⊢
  have HN := Lib.hid hn1
  clear hn1
  have hmin : min ((n1 : Int) + 1) (n1 + 1 - 1 + 1) = (n1 : Int) + 1 := by omega
  have hmin2 : min ((n1 : Int) + 1) (n1 + 1) = (n1 : Int) + 1 := by omega
  go_enter Tryz.func151, Tryz.ntmps151
  have hc0 := HC.out _ HD.out
  go_wp2_with (at_builtin; go_loud (refine byte_append (w0 := w) g B rfl (.tmp 87) (.tmp 89) rfl Tryz.underlying92 info5 A k c xs d0 (by simp [Act.eval]) (by simp [Act.eval]) HR.out ds HD.out (Below.refl _ _) (by omega) (by first | omega | (simp; omega) | (have := HN.out; simp; omega)) ?_))
  intro A0 k0 c0 w0 hR0 hD0 hb0 hs0
  have HR0 := Lib.hid (show byteK.R 5 w0 B (fun q => q ≠ g) (.slice A0 k0 c0) (xs ++ [d0]) by simpa using hR0)
  have HD0 := Lib.hid hD0
  have HB0 := Lib.hid hb0
  clear hR0 hD0 hb0
  clear hc0
  go_wp2_with (at_builtin; go_loud (refine byte_append (w0 := w) g B rfl (.tmp 93) (.tmp 94) rfl Tryz.underlying92 info5 A0 k0 c0 (xs ++ [d0]) 46 (by simp [Act.eval]) (by simp [Act.eval]) HR0.out ds HD0.out HB0.out (by omega) (by first | omega | (simp; omega) | (have := HN.out; simp; omega)) ?_))
  intro A1 k1 c1 w1 hR1 hD1 hb1 hs1
  have HR1 := Lib.hid (show byteK.R 5 w1 B (fun q => q ≠ g) (.slice A1 k1 c1) ((xs ++ [d0]) ++ [46]) by simpa using hR1)
  have HD1 := Lib.hid hD1
  have HB1 := Lib.hid hb1
  clear hR1 hD1 hb1
  go_wp2_with (at_builtin; go_loud (refine row_append (w0 := w) g B rfl (.tmp 103) (.tmp 107) rfl Tryz.underlying92 info5 A1 k1 c1 ((xs ++ [d0]) ++ [46]) dr 1 31 (by simp [Act.eval]) (by rw [← HN.out]; simp [Act.eval]) HR1.out ds HD1.out (by rw [HDS.out]; rfl) (by rw [← HN.out]; omega) HB1.out (by omega) (by first | omega | (simp; omega) | (have := HN.out; simp; omega)) ?_))
  intro A2 k2 c2 w2 hR2 hD2 hb2 hs2
  have HR2 := Lib.hid (show byteK.R 5 w2 B (fun q => q ≠ g) (.slice A2 k2 c2) (((xs ++ [d0]) ++ [46]) ++ dr) by simpa using hR2)
  have HD2 := Lib.hid hD2
  have HB2 := Lib.hid hb2
  clear hR2 hD2 hb2
  go_wp2
  go_loopw [0, 114] (fun v0 v1 wr => v0 = .slice A2 k2 c2 ∧ v1 = .int .i64 0 ∧ wr = w2) (fun v0 v1 wr => 0)
  case atStart => exact ⟨rfl, rfl, rfl⟩
  case round =>
  obtain ⟨rfl, rfl, rfl⟩ := hrel
  go_wp2_with (at_builtin; go_loud (refine byte_append (w0 := w) g B rfl (.tmp 120) (.tmp 122) rfl Tryz.underlying92 info5 A2 k2 c2 (((xs ++ [d0]) ++ [46]) ++ dr) 101 (by simp [Act.eval]) (by simp [Act.eval]) HR2.out ds HD2.out HB2.out (by omega) (by first | omega | (simp; omega) | (have := HN.out; simp; omega)) ?_))
  intro A3 k3 c3 w3 hR3 hD3 hb3 hs3
  have HR3 := Lib.hid (show byteK.R 5 w3 B (fun q => q ≠ g) (.slice A3 k3 c3) ((((xs ++ [d0]) ++ [46]) ++ dr) ++ [101]) by simpa using hR3)
  have HD3 := Lib.hid hD3
  have HB3 := Lib.hid hb3
  clear hR3 hD3 hb3
  go_wp2_with (at_builtin; go_loud (refine byte_append (w0 := w) g B rfl (.tmp 132) (.tmp 134) rfl Tryz.underlying92 info5 A3 k3 c3 ((((xs ++ [d0]) ++ [46]) ++ dr) ++ [101]) 45 (by simp [Act.eval]) (by simp [Act.eval]) HR3.out ds HD3.out HB3.out (by omega) (by first | omega | (simp; omega) | (have := HN.out; simp; omega)) ?_))
  intro A4 k4 c4 w4 hR4 hD4 hb4 hs4
  have HR4 := Lib.hid (show byteK.R 5 w4 B (fun q => q ≠ g) (.slice A4 k4 c4) (((((xs ++ [d0]) ++ [46]) ++ dr) ++ [101]) ++ [45]) by simpa using hR4)
  have HD4 := Lib.hid hD4
  have HB4 := Lib.hid hb4
  clear hR4 hD4 hb4
  by_cases hlt : x < 10
  · skip
    have he2 : e2T x = [48, UInt8.ofNat (48 + x)] := by unfold e2T; rw [if_pos hlt]
    have HE2 := Lib.hid he2
    clear he2
    go_wp2_with (at_builtin; go_loud (refine bytes_append (w0 := w) g B rfl (.tmp 155) (.tmp 159) rfl Tryz.underlying92 info5 A4 k4 c4 (((((xs ++ [d0]) ++ [46]) ++ dr) ++ [101]) ++ [45]) [48, UInt8.ofNat (48 + x)] 2 rfl _ (by simp [byteV]; omega) (by simp [Act.eval]) (by simp [Act.eval]) HR4.out ds HD4.out (by simp) HB4.out (by omega) (by first | omega | (simp; have := HN.out; omega)) ?_))
    intro A5 k5 c5 w5 hR5 hD5 hb5 hs5
    have HR5 := Lib.hid (show byteK.R 5 w5 B (fun q => q ≠ g) (.slice A5 k5 c5) ((((((xs ++ [d0]) ++ [46]) ++ dr) ++ [101]) ++ [45]) ++ e2T x) by rw [HE2.out]; simpa using hR5)
    have HB5 := Lib.hid hb5
    clear hR5 hD5 hb5
    go_wp2
    go_ret
    exact ⟨_, rfl, HR5.out, HB5.out⟩
  have hge : ¬ x < 10 := hlt
  clear hlt
  by_cases hlt : x < 100
  · skip
    have he2 : e2T x = [UInt8.ofNat (48 + x / 10), UInt8.ofNat (48 + x % 10)] := by unfold e2T; rw [if_neg hge, if_pos hlt]
    have HE2 := Lib.hid he2
    clear he2
    go_wp2_with (at_builtin; go_loud (refine bytes_append (w0 := w) g B rfl (.tmp 164) (.tmp 173) rfl Tryz.underlying92 info5 A4 k4 c4 (((((xs ++ [d0]) ++ [46]) ++ dr) ++ [101]) ++ [45]) [UInt8.ofNat (48 + x / 10), UInt8.ofNat (48 + x % 10)] 2 rfl _ (by simp [byteV]; omega) (by simp [Act.eval]) (by simp [Act.eval]) HR4.out ds HD4.out (by simp) HB4.out (by omega) (by first | omega | (simp; have := HN.out; omega)) ?_))
    intro A5 k5 c5 w5 hR5 hD5 hb5 hs5
    have HR5 := Lib.hid (show byteK.R 5 w5 B (fun q => q ≠ g) (.slice A5 k5 c5) ((((((xs ++ [d0]) ++ [46]) ++ dr) ++ [101]) ++ [45]) ++ e2T x) by rw [HE2.out]; simpa using hR5)
    have HB5 := Lib.hid hb5
    clear hR5 hD5 hb5
    go_wp2
    go_ret
    exact ⟨_, rfl, HR5.out, HB5.out⟩
  have hge2 : ¬ x < 100 := hlt
  clear hlt
  · skip
    have he2 : e2T x = [UInt8.ofNat (48 + x / 100), UInt8.ofNat (48 + x / 10 % 10), UInt8.ofNat (48 + x % 10)] := by unfold e2T; rw [if_neg hge, if_neg hge2]
    have HE2 := Lib.hid he2
    clear he2
    go_wp2_with (at_builtin; go_loud (refine bytes_append (w0 := w) g B rfl (.tmp 136) (.tmp 150) rfl Tryz.underlying92 info5 A4 k4 c4 (((((xs ++ [d0]) ++ [46]) ++ dr) ++ [101]) ++ [45]) [UInt8.ofNat (48 + x / 100), UInt8.ofNat (48 + x / 10 % 10), UInt8.ofNat (48 + x % 10)] 3 rfl _ (by simp [byteV]; omega) (by simp [Act.eval]) (by simp [Act.eval]) HR4.out ds HD4.out (by simp) HB4.out (by omega) (by first | omega | (simp; have := HN.out; omega)) ?_))
    intro A5 k5 c5 w5 hR5 hD5 hb5 hs5
    have HR5 := Lib.hid (show byteK.R 5 w5 B (fun q => q ≠ g) (.slice A5 k5 c5) ((((((xs ++ [d0]) ++ [46]) ++ dr) ++ [101]) ++ [45]) ++ e2T x) by rw [HE2.out]; simpa using hR5)
    have HB5 := Lib.hid hb5
    clear hR5 hD5 hb5
    go_wp2
    go_ret
    exact ⟨_, rfl, HR5.out, HB5.out⟩

set_option maxRecDepth 40000 in
set_option maxHeartbeats 8000000 in
theorem efgE_100 (w : World) (B : Nat) (A : Option Addr) (k c : Nat) (xs : Bs) (g : Nat) (d0 : UInt8) (x : Nat) (hx0 : 6 ≤ x) (hx1 : x < 1000) (hR : byteK.R 5 w B (fun q => q ≠ g) (.slice A k c) xs) (hD : DigAt g (d0 :: []) w) (hB : B ≤ w.heap.size) (hx : xs.length ≤ 1000) :
    Calls Tryz.prog 151 #[.slice A k c, .bool true, .slice (some ⟨g, 0, none⟩) 32 32, .int .i64 (1 + (x : Int)), .int .i64 1, .int .i64 1, .int .u8 103, .bool true] w fun e w' =>
      ∃ v, e = .returned v ∧ byteK.R 5 w' B (fun q => q ≠ g) v (xs ++ [45] ++ [d0] ++ [101] ++ [43] ++ e2T x) ∧ Below B w w' := by
  obtain ⟨ds, hds⟩ : ∃ ds, ds = d0 :: [] := ⟨_, rfl⟩
  rw [← hds] at hD
  have hdl : 0 < ds.length := by rw [hds]; simp
  have hd0 : ds[0]'hdl = d0 := by subst hds; rfl
  have hcell := fun (ww : World) (h : DigAt g ds ww) => h.2 0 hdl
  rw [hd0] at hcell
  unfold byteV at hcell
  have HC := Lib.hid hcell
  have HDS := Lib.hid hds
  have HR := Lib.hid hR
  have HD := Lib.hid hD
  clear hR hD hd0 hcell hds hdl
  have q1 : ((1 : Int) + x - 1) = (x : Int) := by omega
  have q2 : ((x : Int) < -4) = False := eq_false (by omega)
  have q3 : ((6 : Int) ≤ (x : Int)) = True := eq_true (by omega)
  have q4 : ((x : Int) < 0) = False := eq_false (by omega)
  go_enter Tryz.func151, Tryz.ntmps151
  go_wp2_with (at_builtin; go_loud (refine byte_append (w0 := w) g B rfl (.tmp 79) (.tmp 80) rfl Tryz.underlying92 info5 A k c xs 45 (by simp [Act.eval]) (by simp [Act.eval]) HR.out ds HD.out (Below.refl _ _) (by omega) (by first | omega | (simp; omega) | (have := HN.out; simp; omega)) ?_))
  intro A0 k0 c0 w0 hR0 hD0 hb0 hs0
  have HR0 := Lib.hid (show byteK.R 5 w0 B (fun q => q ≠ g) (.slice A0 k0 c0) (xs ++ [45]) by simpa using hR0)
  have HD0 := Lib.hid hD0
  have HB0 := Lib.hid hb0
  clear hR0 hD0 hb0
  have hc0 := HC.out _ HD0.out
  go_wp2_with (at_builtin; go_loud (refine byte_append (w0 := w) g B rfl (.tmp 87) (.tmp 89) rfl Tryz.underlying92 info5 A0 k0 c0 (xs ++ [45]) d0 (by simp [Act.eval]) (by simp [Act.eval]) HR0.out ds HD0.out HB0.out (by omega) (by first | omega | (simp; omega) | (have := HN.out; simp; omega)) ?_))
  intro A1 k1 c1 w1 hR1 hD1 hb1 hs1
  have HR1 := Lib.hid (show byteK.R 5 w1 B (fun q => q ≠ g) (.slice A1 k1 c1) ((xs ++ [45]) ++ [d0]) by simpa using hR1)
  have HD1 := Lib.hid hD1
  have HB1 := Lib.hid hb1
  clear hR1 hD1 hb1
  clear hc0
  go_wp2_with (at_builtin; go_loud (refine byte_append (w0 := w) g B rfl (.tmp 120) (.tmp 122) rfl Tryz.underlying92 info5 A1 k1 c1 ((xs ++ [45]) ++ [d0]) 101 (by simp [Act.eval]) (by simp [Act.eval]) HR1.out ds HD1.out HB1.out (by omega) (by first | omega | (simp; omega) | (have := HN.out; simp; omega)) ?_))
  intro A2 k2 c2 w2 hR2 hD2 hb2 hs2
  have HR2 := Lib.hid (show byteK.R 5 w2 B (fun q => q ≠ g) (.slice A2 k2 c2) (((xs ++ [45]) ++ [d0]) ++ [101]) by simpa using hR2)
  have HD2 := Lib.hid hD2
  have HB2 := Lib.hid hb2
  clear hR2 hD2 hb2
  go_wp2_with (at_builtin; go_loud (refine byte_append (w0 := w) g B rfl (.tmp 132) (.tmp 134) rfl Tryz.underlying92 info5 A2 k2 c2 (((xs ++ [45]) ++ [d0]) ++ [101]) 43 (by simp [Act.eval]) (by simp [Act.eval]) HR2.out ds HD2.out HB2.out (by omega) (by first | omega | (simp; omega) | (have := HN.out; simp; omega)) ?_))
  intro A3 k3 c3 w3 hR3 hD3 hb3 hs3
  have HR3 := Lib.hid (show byteK.R 5 w3 B (fun q => q ≠ g) (.slice A3 k3 c3) ((((xs ++ [45]) ++ [d0]) ++ [101]) ++ [43]) by simpa using hR3)
  have HD3 := Lib.hid hD3
  have HB3 := Lib.hid hb3
  clear hR3 hD3 hb3
  by_cases hlt : x < 10
  · skip
    have he2 : e2T x = [48, UInt8.ofNat (48 + x)] := by unfold e2T; rw [if_pos hlt]
    have HE2 := Lib.hid he2
    clear he2
    go_wp2_with (at_builtin; go_loud (refine bytes_append (w0 := w) g B rfl (.tmp 155) (.tmp 159) rfl Tryz.underlying92 info5 A3 k3 c3 ((((xs ++ [45]) ++ [d0]) ++ [101]) ++ [43]) [48, UInt8.ofNat (48 + x)] 2 rfl _ (by simp [byteV]; omega) (by simp [Act.eval]) (by simp [Act.eval]) HR3.out ds HD3.out (by simp) HB3.out (by omega) (by first | omega | (simp; omega)) ?_))
    intro A4 k4 c4 w4 hR4 hD4 hb4 hs4
    have HR4 := Lib.hid (show byteK.R 5 w4 B (fun q => q ≠ g) (.slice A4 k4 c4) (((((xs ++ [45]) ++ [d0]) ++ [101]) ++ [43]) ++ e2T x) by rw [HE2.out]; simpa using hR4)
    have HB4 := Lib.hid hb4
    clear hR4 hD4 hb4
    go_wp2
    go_ret
    exact ⟨_, rfl, HR4.out, HB4.out⟩
  have hge : ¬ x < 10 := hlt
  clear hlt
  by_cases hlt : x < 100
  · skip
    have he2 : e2T x = [UInt8.ofNat (48 + x / 10), UInt8.ofNat (48 + x % 10)] := by unfold e2T; rw [if_neg hge, if_pos hlt]
    have HE2 := Lib.hid he2
    clear he2
    go_wp2_with (at_builtin; go_loud (refine bytes_append (w0 := w) g B rfl (.tmp 164) (.tmp 173) rfl Tryz.underlying92 info5 A3 k3 c3 ((((xs ++ [45]) ++ [d0]) ++ [101]) ++ [43]) [UInt8.ofNat (48 + x / 10), UInt8.ofNat (48 + x % 10)] 2 rfl _ (by simp [byteV]; omega) (by simp [Act.eval]) (by simp [Act.eval]) HR3.out ds HD3.out (by simp) HB3.out (by omega) (by first | omega | (simp; omega)) ?_))
    intro A4 k4 c4 w4 hR4 hD4 hb4 hs4
    have HR4 := Lib.hid (show byteK.R 5 w4 B (fun q => q ≠ g) (.slice A4 k4 c4) (((((xs ++ [45]) ++ [d0]) ++ [101]) ++ [43]) ++ e2T x) by rw [HE2.out]; simpa using hR4)
    have HB4 := Lib.hid hb4
    clear hR4 hD4 hb4
    go_wp2
    go_ret
    exact ⟨_, rfl, HR4.out, HB4.out⟩
  have hge2 : ¬ x < 100 := hlt
  clear hlt
  · skip
    have he2 : e2T x = [UInt8.ofNat (48 + x / 100), UInt8.ofNat (48 + x / 10 % 10), UInt8.ofNat (48 + x % 10)] := by unfold e2T; rw [if_neg hge, if_neg hge2]
    have HE2 := Lib.hid he2
    clear he2
    go_wp2_with (at_builtin; go_loud (refine bytes_append (w0 := w) g B rfl (.tmp 136) (.tmp 150) rfl Tryz.underlying92 info5 A3 k3 c3 ((((xs ++ [45]) ++ [d0]) ++ [101]) ++ [43]) [UInt8.ofNat (48 + x / 100), UInt8.ofNat (48 + x / 10 % 10), UInt8.ofNat (48 + x % 10)] 3 rfl _ (by simp [byteV]; omega) (by simp [Act.eval]) (by simp [Act.eval]) HR3.out ds HD3.out (by simp) HB3.out (by omega) (by first | omega | (simp; omega)) ?_))
    intro A4 k4 c4 w4 hR4 hD4 hb4 hs4
    have HR4 := Lib.hid (show byteK.R 5 w4 B (fun q => q ≠ g) (.slice A4 k4 c4) (((((xs ++ [45]) ++ [d0]) ++ [101]) ++ [43]) ++ e2T x) by rw [HE2.out]; simpa using hR4)
    have HB4 := Lib.hid hb4
    clear hR4 hD4 hb4
    go_wp2
    go_ret
    exact ⟨_, rfl, HR4.out, HB4.out⟩

set_option maxRecDepth 40000 in
set_option maxHeartbeats 8000000 in
theorem efgE_101 (w : World) (B : Nat) (A : Option Addr) (k c : Nat) (xs : Bs) (g : Nat) (d0 : UInt8) (x : Nat) (hx0 : 5 ≤ x) (hx1 : x < 1000) (hR : byteK.R 5 w B (fun q => q ≠ g) (.slice A k c) xs) (hD : DigAt g (d0 :: []) w) (hB : B ≤ w.heap.size) (hx : xs.length ≤ 1000) :
    Calls Tryz.prog 151 #[.slice A k c, .bool true, .slice (some ⟨g, 0, none⟩) 32 32, .int .i64 (1 - (x : Int)), .int .i64 1, .int .i64 1, .int .u8 103, .bool true] w fun e w' =>
      ∃ v, e = .returned v ∧ byteK.R 5 w' B (fun q => q ≠ g) v (xs ++ [45] ++ [d0] ++ [101] ++ [45] ++ e2T x) ∧ Below B w w' := by
  obtain ⟨ds, hds⟩ : ∃ ds, ds = d0 :: [] := ⟨_, rfl⟩
  rw [← hds] at hD
  have hdl : 0 < ds.length := by rw [hds]; simp
  have hd0 : ds[0]'hdl = d0 := by subst hds; rfl
  have hcell := fun (ww : World) (h : DigAt g ds ww) => h.2 0 hdl
  rw [hd0] at hcell
  unfold byteV at hcell
  have HC := Lib.hid hcell
  have HDS := Lib.hid hds
  have HR := Lib.hid hR
  have HD := Lib.hid hD
  clear hR hD hd0 hcell hds hdl
  have q1 : ((1 : Int) - x - 1 < -4) = True := eq_true (by omega)
  have q2 : ((1 : Int) - x - 1) = -(x : Int) := by omega
  have q3 : (-(x : Int) < -4) = True := eq_true (by omega)
  have q4 : (-(x : Int) < 0) = True := eq_true (by omega)
  go_enter Tryz.func151, Tryz.ntmps151
  go_wp2_with (at_builtin; go_loud (refine byte_append (w0 := w) g B rfl (.tmp 79) (.tmp 80) rfl Tryz.underlying92 info5 A k c xs 45 (by simp [Act.eval]) (by simp [Act.eval]) HR.out ds HD.out (Below.refl _ _) (by omega) (by first | omega | (simp; omega) | (have := HN.out; simp; omega)) ?_))
  intro A0 k0 c0 w0 hR0 hD0 hb0 hs0
  have HR0 := Lib.hid (show byteK.R 5 w0 B (fun q => q ≠ g) (.slice A0 k0 c0) (xs ++ [45]) by simpa using hR0)
  have HD0 := Lib.hid hD0
  have HB0 := Lib.hid hb0
  clear hR0 hD0 hb0
  have hc0 := HC.out _ HD0.out
  go_wp2_with (at_builtin; go_loud (refine byte_append (w0 := w) g B rfl (.tmp 87) (.tmp 89) rfl Tryz.underlying92 info5 A0 k0 c0 (xs ++ [45]) d0 (by simp [Act.eval]) (by simp [Act.eval]) HR0.out ds HD0.out HB0.out (by omega) (by first | omega | (simp; omega) | (have := HN.out; simp; omega)) ?_))
  intro A1 k1 c1 w1 hR1 hD1 hb1 hs1
  have HR1 := Lib.hid (show byteK.R 5 w1 B (fun q => q ≠ g) (.slice A1 k1 c1) ((xs ++ [45]) ++ [d0]) by simpa using hR1)
  have HD1 := Lib.hid hD1
  have HB1 := Lib.hid hb1
  clear hR1 hD1 hb1
  clear hc0
  go_wp2_with (at_builtin; go_loud (refine byte_append (w0 := w) g B rfl (.tmp 120) (.tmp 122) rfl Tryz.underlying92 info5 A1 k1 c1 ((xs ++ [45]) ++ [d0]) 101 (by simp [Act.eval]) (by simp [Act.eval]) HR1.out ds HD1.out HB1.out (by omega) (by first | omega | (simp; omega) | (have := HN.out; simp; omega)) ?_))
  intro A2 k2 c2 w2 hR2 hD2 hb2 hs2
  have HR2 := Lib.hid (show byteK.R 5 w2 B (fun q => q ≠ g) (.slice A2 k2 c2) (((xs ++ [45]) ++ [d0]) ++ [101]) by simpa using hR2)
  have HD2 := Lib.hid hD2
  have HB2 := Lib.hid hb2
  clear hR2 hD2 hb2
  go_wp2_with (at_builtin; go_loud (refine byte_append (w0 := w) g B rfl (.tmp 132) (.tmp 134) rfl Tryz.underlying92 info5 A2 k2 c2 (((xs ++ [45]) ++ [d0]) ++ [101]) 45 (by simp [Act.eval]) (by simp [Act.eval]) HR2.out ds HD2.out HB2.out (by omega) (by first | omega | (simp; omega) | (have := HN.out; simp; omega)) ?_))
  intro A3 k3 c3 w3 hR3 hD3 hb3 hs3
  have HR3 := Lib.hid (show byteK.R 5 w3 B (fun q => q ≠ g) (.slice A3 k3 c3) ((((xs ++ [45]) ++ [d0]) ++ [101]) ++ [45]) by simpa using hR3)
  have HD3 := Lib.hid hD3
  have HB3 := Lib.hid hb3
  clear hR3 hD3 hb3
  by_cases hlt : x < 10
  · skip
    have he2 : e2T x = [48, UInt8.ofNat (48 + x)] := by unfold e2T; rw [if_pos hlt]
    have HE2 := Lib.hid he2
    clear he2
    go_wp2_with (at_builtin; go_loud (refine bytes_append (w0 := w) g B rfl (.tmp 155) (.tmp 159) rfl Tryz.underlying92 info5 A3 k3 c3 ((((xs ++ [45]) ++ [d0]) ++ [101]) ++ [45]) [48, UInt8.ofNat (48 + x)] 2 rfl _ (by simp [byteV]; omega) (by simp [Act.eval]) (by simp [Act.eval]) HR3.out ds HD3.out (by simp) HB3.out (by omega) (by first | omega | (simp; omega)) ?_))
    intro A4 k4 c4 w4 hR4 hD4 hb4 hs4
    have HR4 := Lib.hid (show byteK.R 5 w4 B (fun q => q ≠ g) (.slice A4 k4 c4) (((((xs ++ [45]) ++ [d0]) ++ [101]) ++ [45]) ++ e2T x) by rw [HE2.out]; simpa using hR4)
    have HB4 := Lib.hid hb4
    clear hR4 hD4 hb4
    go_wp2
    go_ret
    exact ⟨_, rfl, HR4.out, HB4.out⟩
  have hge : ¬ x < 10 := hlt
  clear hlt
  by_cases hlt : x < 100
  · skip
    have he2 : e2T x = [UInt8.ofNat (48 + x / 10), UInt8.ofNat (48 + x % 10)] := by unfold e2T; rw [if_neg hge, if_pos hlt]
    have HE2 := Lib.hid he2
    clear he2
    go_wp2_with (at_builtin; go_loud (refine bytes_append (w0 := w) g B rfl (.tmp 164) (.tmp 173) rfl Tryz.underlying92 info5 A3 k3 c3 ((((xs ++ [45]) ++ [d0]) ++ [101]) ++ [45]) [UInt8.ofNat (48 + x / 10), UInt8.ofNat (48 + x % 10)] 2 rfl _ (by simp [byteV]; omega) (by simp [Act.eval]) (by simp [Act.eval]) HR3.out ds HD3.out (by simp) HB3.out (by omega) (by first | omega | (simp; omega)) ?_))
    intro A4 k4 c4 w4 hR4 hD4 hb4 hs4
    have HR4 := Lib.hid (show byteK.R 5 w4 B (fun q => q ≠ g) (.slice A4 k4 c4) (((((xs ++ [45]) ++ [d0]) ++ [101]) ++ [45]) ++ e2T x) by rw [HE2.out]; simpa using hR4)
    have HB4 := Lib.hid hb4
    clear hR4 hD4 hb4
    go_wp2
    go_ret
    exact ⟨_, rfl, HR4.out, HB4.out⟩
  have hge2 : ¬ x < 100 := hlt
  clear hlt
  · skip
    have he2 : e2T x = [UInt8.ofNat (48 + x / 100), UInt8.ofNat (48 + x / 10 % 10), UInt8.ofNat (48 + x % 10)] := by unfold e2T; rw [if_neg hge, if_neg hge2]
    have HE2 := Lib.hid he2
    clear he2
    go_wp2_with (at_builtin; go_loud (refine bytes_append (w0 := w) g B rfl (.tmp 136) (.tmp 150) rfl Tryz.underlying92 info5 A3 k3 c3 ((((xs ++ [45]) ++ [d0]) ++ [101]) ++ [45]) [UInt8.ofNat (48 + x / 100), UInt8.ofNat (48 + x / 10 % 10), UInt8.ofNat (48 + x % 10)] 3 rfl _ (by simp [byteV]; omega) (by simp [Act.eval]) (by simp [Act.eval]) HR3.out ds HD3.out (by simp) HB3.out (by omega) (by first | omega | (simp; omega)) ?_))
    intro A4 k4 c4 w4 hR4 hD4 hb4 hs4
    have HR4 := Lib.hid (show byteK.R 5 w4 B (fun q => q ≠ g) (.slice A4 k4 c4) (((((xs ++ [45]) ++ [d0]) ++ [101]) ++ [45]) ++ e2T x) by rw [HE2.out]; simpa using hR4)
    have HB4 := Lib.hid hb4
    clear hR4 hD4 hb4
    go_wp2
    go_ret
    exact ⟨_, rfl, HR4.out, HB4.out⟩

set_option maxRecDepth 40000 in
set_option maxHeartbeats 8000000 in
theorem efgE_110 (w : World) (B : Nat) (A : Option Addr) (k c : Nat) (xs : Bs) (g : Nat) (d0 : UInt8) (dr : Bs) (hm1 : 1 ≤ dr.length) (hm2 : dr.length ≤ 16) (x : Nat) (hx0 : 6 ≤ x) (hx1 : x < 1000) (hR : byteK.R 5 w B (fun q => q ≠ g) (.slice A k c) xs) (hD : DigAt g (d0 :: dr) w) (hB : B ≤ w.heap.size) (hx : xs.length ≤ 1000) :
    Calls Tryz.prog 151 #[.slice A k c, .bool true, .slice (some ⟨g, 0, none⟩) 32 32, .int .i64 (1 + (x : Int)), .int .i64 (dr.length + 1 : Nat), .int .i64 (dr.length + 1 : Nat), .int .u8 103, .bool true] w fun e w' =>
      ∃ v, e = .returned v ∧ byteK.R 5 w' B (fun q => q ≠ g) v (xs ++ [45] ++ [d0] ++ [46] ++ dr ++ [101] ++ [43] ++ e2T x) ∧ Below B w w' := by
  obtain ⟨ds, hds⟩ : ∃ ds, ds = d0 :: dr := ⟨_, rfl⟩
  rw [← hds] at hD
  have hdl : 0 < ds.length := by rw [hds]; simp
  have hd0 : ds[0]'hdl = d0 := by subst hds; rfl
  have hcell := fun (ww : World) (h : DigAt g ds ww) => h.2 0 hdl
  rw [hd0] at hcell
  unfold byteV at hcell
  have HC := Lib.hid hcell
  have HDS := Lib.hid hds
  have HR := Lib.hid hR
  have HD := Lib.hid hD
  clear hR hD hd0 hcell hds hdl
  have q1 : ((1 : Int) + x - 1) = (x : Int) := by omega
  have q2 : ((x : Int) < -4) = False := eq_false (by omega)
  have q3 : ((6 : Int) ≤ (x : Int)) = True := eq_true (by omega)
  have q4 : ((x : Int) < 0) = False := eq_false (by omega)
  obtain ⟨n1, hn1⟩ : ∃ n1, n1 = dr.length := ⟨_, rfl⟩
  rw [← hn1] at hm1 hm2 ⊢
  have HN := Lib.hid hn1
  clear hn1
  have hmin : min ((n1 : Int) + 1) (n1 + 1 - 1 + 1) = (n1 : Int) + 1 := by omega
  have hmin2 : min ((n1 : Int) + 1) (n1 + 1) = (n1 : Int) + 1 := by omega
  go_enter Tryz.func151, Tryz.ntmps151
  go_wp2_with (at_builtin; go_loud (refine byte_append (w0 := w) g B rfl (.tmp 79) (.tmp 80) rfl Tryz.underlying92 info5 A k c xs 45 (by simp [Act.eval]) (by simp [Act.eval]) HR.out ds HD.out (Below.refl _ _) (by omega) (by first | omega | (simp; omega) | (have := HN.out; simp; omega)) ?_))
  intro A0 k0 c0 w0 hR0 hD0 hb0 hs0
  have HR0 := Lib.hid (show byteK.R 5 w0 B (fun q => q ≠ g) (.slice A0 k0 c0) (xs ++ [45]) by simpa using hR0)
  have HD0 := Lib.hid hD0
  have HB0 := Lib.hid hb0
  clear hR0 hD0 hb0
  have hc0 := HC.out _ HD0.out
  go_wp2_with (at_builtin; go_loud (refine byte_append (w0 := w) g B rfl (.tmp 87) (.tmp 89) rfl Tryz.underlying92 info5 A0 k0 c0 (xs ++ [45]) d0 (by simp [Act.eval]) (by simp [Act.eval]) HR0.out ds HD0.out HB0.out (by omega) (by first | omega | (simp; omega) | (have := HN.out; simp; omega)) ?_))
  intro A1 k1 c1 w1 hR1 hD1 hb1 hs1
  have HR1 := Lib.hid (show byteK.R 5 w1 B (fun q => q ≠ g) (.slice A1 k1 c1) ((xs ++ [45]) ++ [d0]) by simpa using hR1)
  have HD1 := Lib.hid hD1
  have HB1 := Lib.hid hb1
  clear hR1 hD1 hb1
  clear hc0
  go_wp2_with (at_builtin; go_loud (refine byte_append (w0 := w) g B rfl (.tmp 93) (.tmp 94) rfl Tryz.underlying92 info5 A1 k1 c1 ((xs ++ [45]) ++ [d0]) 46 (by simp [Act.eval]) (by simp [Act.eval]) HR1.out ds HD1.out HB1.out (by omega) (by first | omega | (simp; omega) | (have := HN.out; simp; omega)) ?_))
  intro A2 k2 c2 w2 hR2 hD2 hb2 hs2
  have HR2 := Lib.hid (show byteK.R 5 w2 B (fun q => q ≠ g) (.slice A2 k2 c2) (((xs ++ [45]) ++ [d0]) ++ [46]) by simpa using hR2)
  have HD2 := Lib.hid hD2
  have HB2 := Lib.hid hb2
  clear hR2 hD2 hb2
  go_wp2_with (at_builtin; go_loud (refine row_append (w0 := w) g B rfl (.tmp 103) (.tmp 107) rfl Tryz.underlying92 info5 A2 k2 c2 (((xs ++ [45]) ++ [d0]) ++ [46]) dr 1 31 (by simp [Act.eval]) (by rw [← HN.out]; simp [Act.eval]) HR2.out ds HD2.out (by rw [HDS.out]; rfl) (by rw [← HN.out]; omega) HB2.out (by omega) (by first | omega | (simp; omega) | (have := HN.out; simp; omega)) ?_))
  intro A3 k3 c3 w3 hR3 hD3 hb3 hs3
  have HR3 := Lib.hid (show byteK.R 5 w3 B (fun q => q ≠ g) (.slice A3 k3 c3) ((((xs ++ [45]) ++ [d0]) ++ [46]) ++ dr) by simpa using hR3)
  have HD3 := Lib.hid hD3
  have HB3 := Lib.hid hb3
  clear hR3 hD3 hb3
  go_wp2
  go_loopw [0, 114] (fun v0 v1 wr => v0 = .slice A3 k3 c3 ∧ v1 = .int .i64 0 ∧ wr = w3) (fun v0 v1 wr => 0)
  case atStart => exact ⟨rfl, rfl, rfl⟩
  case round =>
  obtain ⟨rfl, rfl, rfl⟩ := hrel
  go_wp2_with (at_builtin; go_loud (refine byte_append (w0 := w) g B rfl (.tmp 120) (.tmp 122) rfl Tryz.underlying92 info5 A3 k3 c3 ((((xs ++ [45]) ++ [d0]) ++ [46]) ++ dr) 101 (by simp [Act.eval]) (by simp [Act.eval]) HR3.out ds HD3.out HB3.out (by omega) (by first | omega | (simp; omega) | (have := HN.out; simp; omega)) ?_))
  intro A4 k4 c4 w4 hR4 hD4 hb4 hs4
  have HR4 := Lib.hid (show byteK.R 5 w4 B (fun q => q ≠ g) (.slice A4 k4 c4) (((((xs ++ [45]) ++ [d0]) ++ [46]) ++ dr) ++ [101]) by simpa using hR4)
  have HD4 := Lib.hid hD4
  have HB4 := Lib.hid hb4
  clear hR4 hD4 hb4
  go_wp2_with (at_builtin; go_loud (refine byte_append (w0 := w) g B rfl (.tmp 132) (.tmp 134) rfl Tryz.underlying92 info5 A4 k4 c4 (((((xs ++ [45]) ++ [d0]) ++ [46]) ++ dr) ++ [101]) 43 (by simp [Act.eval]) (by simp [Act.eval]) HR4.out ds HD4.out HB4.out (by omega) (by first | omega | (simp; omega) | (have := HN.out; simp; omega)) ?_))
  intro A5 k5 c5 w5 hR5 hD5 hb5 hs5
  have HR5 := Lib.hid (show byteK.R 5 w5 B (fun q => q ≠ g) (.slice A5 k5 c5) ((((((xs ++ [45]) ++ [d0]) ++ [46]) ++ dr) ++ [101]) ++ [43]) by simpa using hR5)
  have HD5 := Lib.hid hD5
  have HB5 := Lib.hid hb5
  clear hR5 hD5 hb5
  by_cases hlt : x < 10
  · skip
    have he2 : e2T x = [48, UInt8.ofNat (48 + x)] := by unfold e2T; rw [if_pos hlt]
    have HE2 := Lib.hid he2
    clear he2
    go_wp2_with (at_builtin; go_loud (refine bytes_append (w0 := w) g B rfl (.tmp 155) (.tmp 159) rfl Tryz.underlying92 info5 A5 k5 c5 ((((((xs ++ [45]) ++ [d0]) ++ [46]) ++ dr) ++ [101]) ++ [43]) [48, UInt8.ofNat (48 + x)] 2 rfl _ (by simp [byteV]; omega) (by simp [Act.eval]) (by simp [Act.eval]) HR5.out ds HD5.out (by simp) HB5.out (by omega) (by first | omega | (simp; have := HN.out; omega)) ?_))
    intro A6 k6 c6 w6 hR6 hD6 hb6 hs6
    have HR6 := Lib.hid (show byteK.R 5 w6 B (fun q => q ≠ g) (.slice A6 k6 c6) (((((((xs ++ [45]) ++ [d0]) ++ [46]) ++ dr) ++ [101]) ++ [43]) ++ e2T x) by rw [HE2.out]; simpa using hR6)
    have HB6 := Lib.hid hb6
    clear hR6 hD6 hb6
    go_wp2
    go_ret
    exact ⟨_, rfl, HR6.out, HB6.out⟩
  have hge : ¬ x < 10 := hlt
  clear hlt
  by_cases hlt : x < 100
  · skip
    have he2 : e2T x = [UInt8.ofNat (48 + x / 10), UInt8.ofNat (48 + x % 10)] := by unfold e2T; rw [if_neg hge, if_pos hlt]
    have HE2 := Lib.hid he2
    clear he2
    go_wp2_with (at_builtin; go_loud (refine bytes_append (w0 := w) g B rfl (.tmp 164) (.tmp 173) rfl Tryz.underlying92 info5 A5 k5 c5 ((((((xs ++ [45]) ++ [d0]) ++ [46]) ++ dr) ++ [101]) ++ [43]) [UInt8.ofNat (48 + x / 10), UInt8.ofNat (48 + x % 10)] 2 rfl _ (by simp [byteV]; omega) (by simp [Act.eval]) (by simp [Act.eval]) HR5.out ds HD5.out (by simp) HB5.out (by omega) (by first | omega | (simp; have := HN.out; omega)) ?_))
    intro A6 k6 c6 w6 hR6 hD6 hb6 hs6
    have HR6 := Lib.hid (show byteK.R 5 w6 B (fun q => q ≠ g) (.slice A6 k6 c6) (((((((xs ++ [45]) ++ [d0]) ++ [46]) ++ dr) ++ [101]) ++ [43]) ++ e2T x) by rw [HE2.out]; simpa using hR6)
    have HB6 := Lib.hid hb6
    clear hR6 hD6 hb6
    go_wp2
    go_ret
    exact ⟨_, rfl, HR6.out, HB6.out⟩
  have hge2 : ¬ x < 100 := hlt
  clear hlt
  · skip
    have he2 : e2T x = [UInt8.ofNat (48 + x / 100), UInt8.ofNat (48 + x / 10 % 10), UInt8.ofNat (48 + x % 10)] := by unfold e2T; rw [if_neg hge, if_neg hge2]
    have HE2 := Lib.hid he2
    clear he2
    go_wp2_with (at_builtin; go_loud (refine bytes_append (w0 := w) g B rfl (.tmp 136) (.tmp 150) rfl Tryz.underlying92 info5 A5 k5 c5 ((((((xs ++ [45]) ++ [d0]) ++ [46]) ++ dr) ++ [101]) ++ [43]) [UInt8.ofNat (48 + x / 100), UInt8.ofNat (48 + x / 10 % 10), UInt8.ofNat (48 + x % 10)] 3 rfl _ (by simp [byteV]; omega) (by simp [Act.eval]) (by simp [Act.eval]) HR5.out ds HD5.out (by simp) HB5.out (by omega) (by first | omega | (simp; have := HN.out; omega)) ?_))
    intro A6 k6 c6 w6 hR6 hD6 hb6 hs6
    have HR6 := Lib.hid (show byteK.R 5 w6 B (fun q => q ≠ g) (.slice A6 k6 c6) (((((((xs ++ [45]) ++ [d0]) ++ [46]) ++ dr) ++ [101]) ++ [43]) ++ e2T x) by rw [HE2.out]; simpa using hR6)
    have HB6 := Lib.hid hb6
    clear hR6 hD6 hb6
    go_wp2
    go_ret
    exact ⟨_, rfl, HR6.out, HB6.out⟩

set_option maxRecDepth 40000 in
set_option maxHeartbeats 8000000 in
theorem efgE_111 (w : World) (B : Nat) (A : Option Addr) (k c : Nat) (xs : Bs) (g : Nat) (d0 : UInt8) (dr : Bs) (hm1 : 1 ≤ dr.length) (hm2 : dr.length ≤ 16) (x : Nat) (hx0 : 5 ≤ x) (hx1 : x < 1000) (hR : byteK.R 5 w B (fun q => q ≠ g) (.slice A k c) xs) (hD : DigAt g (d0 :: dr) w) (hB : B ≤ w.heap.size) (hx : xs.length ≤ 1000) :
    Calls Tryz.prog 151 #[.slice A k c, .bool true, .slice (some ⟨g, 0, none⟩) 32 32, .int .i64 (1 - (x : Int)), .int .i64 (dr.length + 1 : Nat), .int .i64 (dr.length + 1 : Nat), .int .u8 103, .bool true] w fun e w' =>
      ∃ v, e = .returned v ∧ byteK.R 5 w' B (fun q => q ≠ g) v (xs ++ [45] ++ [d0] ++ [46] ++ dr ++ [101] ++ [45] ++ e2T x) ∧ Below B w w' := by
  obtain ⟨ds, hds⟩ : ∃ ds, ds = d0 :: dr := ⟨_, rfl⟩
  rw [← hds] at hD
  have hdl : 0 < ds.length := by rw [hds]; simp
  have hd0 : ds[0]'hdl = d0 := by subst hds; rfl
  have hcell := fun (ww : World) (h : DigAt g ds ww) => h.2 0 hdl
  rw [hd0] at hcell
  unfold byteV at hcell
  have HC := Lib.hid hcell
  have HDS := Lib.hid hds
  have HR := Lib.hid hR
  have HD := Lib.hid hD
  clear hR hD hd0 hcell hds hdl
  have q1 : ((1 : Int) - x - 1 < -4) = True := eq_true (by omega)
  have q2 : ((1 : Int) - x - 1) = -(x : Int) := by omega
  have q3 : (-(x : Int) < -4) = True := eq_true (by omega)
  have q4 : (-(x : Int) < 0) = True := eq_true (by omega)
  obtain ⟨n1, hn1⟩ : ∃ n1, n1 = dr.length := ⟨_, rfl⟩
  rw [← hn1] at hm1 hm2 ⊢
  have HN := Lib.hid hn1
  clear hn1
  have hmin : min ((n1 : Int) + 1) (n1 + 1 - 1 + 1) = (n1 : Int) + 1 := by omega
  have hmin2 : min ((n1 : Int) + 1) (n1 + 1) = (n1 : Int) + 1 := by omega
  go_enter Tryz.func151, Tryz.ntmps151
  go_wp2_with (at_builtin; go_loud (refine byte_append (w0 := w) g B rfl (.tmp 79) (.tmp 80) rfl Tryz.underlying92 info5 A k c xs 45 (by simp [Act.eval]) (by simp [Act.eval]) HR.out ds HD.out (Below.refl _ _) (by omega) (by first | omega | (simp; omega) | (have := HN.out; simp; omega)) ?_))
  intro A0 k0 c0 w0 hR0 hD0 hb0 hs0
  have HR0 := Lib.hid (show byteK.R 5 w0 B (fun q => q ≠ g) (.slice A0 k0 c0) (xs ++ [45]) by simpa using hR0)
  have HD0 := Lib.hid hD0
  have HB0 := Lib.hid hb0
  clear hR0 hD0 hb0
  have hc0 := HC.out _ HD0.out
  go_wp2_with (at_builtin; go_loud (refine byte_append (w0 := w) g B rfl (.tmp 87) (.tmp 89) rfl Tryz.underlying92 info5 A0 k0 c0 (xs ++ [45]) d0 (by simp [Act.eval]) (by simp [Act.eval]) HR0.out ds HD0.out HB0.out (by omega) (by first | omega | (simp; omega) | (have := HN.out; simp; omega)) ?_))
  intro A1 k1 c1 w1 hR1 hD1 hb1 hs1
  have HR1 := Lib.hid (show byteK.R 5 w1 B (fun q => q ≠ g) (.slice A1 k1 c1) ((xs ++ [45]) ++ [d0]) by simpa using hR1)
  have HD1 := Lib.hid hD1
  have HB1 := Lib.hid hb1
  clear hR1 hD1 hb1
  clear hc0
  go_wp2_with (at_builtin; go_loud (refine byte_append (w0 := w) g B rfl (.tmp 93) (.tmp 94) rfl Tryz.underlying92 info5 A1 k1 c1 ((xs ++ [45]) ++ [d0]) 46 (by simp [Act.eval]) (by simp [Act.eval]) HR1.out ds HD1.out HB1.out (by omega) (by first | omega | (simp; omega) | (have := HN.out; simp; omega)) ?_))
  intro A2 k2 c2 w2 hR2 hD2 hb2 hs2
  have HR2 := Lib.hid (show byteK.R 5 w2 B (fun q => q ≠ g) (.slice A2 k2 c2) (((xs ++ [45]) ++ [d0]) ++ [46]) by simpa using hR2)
  have HD2 := Lib.hid hD2
  have HB2 := Lib.hid hb2
  clear hR2 hD2 hb2
  go_wp2_with (at_builtin; go_loud (refine row_append (w0 := w) g B rfl (.tmp 103) (.tmp 107) rfl Tryz.underlying92 info5 A2 k2 c2 (((xs ++ [45]) ++ [d0]) ++ [46]) dr 1 31 (by simp [Act.eval]) (by rw [← HN.out]; simp [Act.eval]) HR2.out ds HD2.out (by rw [HDS.out]; rfl) (by rw [← HN.out]; omega) HB2.out (by omega) (by first | omega | (simp; omega) | (have := HN.out; simp; omega)) ?_))
  intro A3 k3 c3 w3 hR3 hD3 hb3 hs3
  have HR3 := Lib.hid (show byteK.R 5 w3 B (fun q => q ≠ g) (.slice A3 k3 c3) ((((xs ++ [45]) ++ [d0]) ++ [46]) ++ dr) by simpa using hR3)
  have HD3 := Lib.hid hD3
  have HB3 := Lib.hid hb3
  clear hR3 hD3 hb3
  go_wp2
  go_loopw [0, 114] (fun v0 v1 wr => v0 = .slice A3 k3 c3 ∧ v1 = .int .i64 0 ∧ wr = w3) (fun v0 v1 wr => 0)
  case atStart => exact ⟨rfl, rfl, rfl⟩
  case round =>
  obtain ⟨rfl, rfl, rfl⟩ := hrel
  go_wp2_with (at_builtin; go_loud (refine byte_append (w0 := w) g B rfl (.tmp 120) (.tmp 122) rfl Tryz.underlying92 info5 A3 k3 c3 ((((xs ++ [45]) ++ [d0]) ++ [46]) ++ dr) 101 (by simp [Act.eval]) (by simp [Act.eval]) HR3.out ds HD3.out HB3.out (by omega) (by first | omega | (simp; omega) | (have := HN.out; simp; omega)) ?_))
  intro A4 k4 c4 w4 hR4 hD4 hb4 hs4
  have HR4 := Lib.hid (show byteK.R 5 w4 B (fun q => q ≠ g) (.slice A4 k4 c4) (((((xs ++ [45]) ++ [d0]) ++ [46]) ++ dr) ++ [101]) by simpa using hR4)
  have HD4 := Lib.hid hD4
  have HB4 := Lib.hid hb4
  clear hR4 hD4 hb4
  go_wp2_with (at_builtin; go_loud (refine byte_append (w0 := w) g B rfl (.tmp 132) (.tmp 134) rfl Tryz.underlying92 info5 A4 k4 c4 (((((xs ++ [45]) ++ [d0]) ++ [46]) ++ dr) ++ [101]) 45 (by simp [Act.eval]) (by simp [Act.eval]) HR4.out ds HD4.out HB4.out (by omega) (by first | omega | (simp; omega) | (have := HN.out; simp; omega)) ?_))
  intro A5 k5 c5 w5 hR5 hD5 hb5 hs5
  have HR5 := Lib.hid (show byteK.R 5 w5 B (fun q => q ≠ g) (.slice A5 k5 c5) ((((((xs ++ [45]) ++ [d0]) ++ [46]) ++ dr) ++ [101]) ++ [45]) by simpa using hR5)
  have HD5 := Lib.hid hD5
  have HB5 := Lib.hid hb5
  clear hR5 hD5 hb5
  by_cases hlt : x < 10
  · skip
    have he2 : e2T x = [48, UInt8.ofNat (48 + x)] := by unfold e2T; rw [if_pos hlt]
    have HE2 := Lib.hid he2
    clear he2
    go_wp2_with (at_builtin; go_loud (refine bytes_append (w0 := w) g B rfl (.tmp 155) (.tmp 159) rfl Tryz.underlying92 info5 A5 k5 c5 ((((((xs ++ [45]) ++ [d0]) ++ [46]) ++ dr) ++ [101]) ++ [45]) [48, UInt8.ofNat (48 + x)] 2 rfl _ (by simp [byteV]; omega) (by simp [Act.eval]) (by simp [Act.eval]) HR5.out ds HD5.out (by simp) HB5.out (by omega) (by first | omega | (simp; have := HN.out; omega)) ?_))
    intro A6 k6 c6 w6 hR6 hD6 hb6 hs6
    have HR6 := Lib.hid (show byteK.R 5 w6 B (fun q => q ≠ g) (.slice A6 k6 c6) (((((((xs ++ [45]) ++ [d0]) ++ [46]) ++ dr) ++ [101]) ++ [45]) ++ e2T x) by rw [HE2.out]; simpa using hR6)
    have HB6 := Lib.hid hb6
    clear hR6 hD6 hb6
    go_wp2
    go_ret
    exact ⟨_, rfl, HR6.out, HB6.out⟩
  have hge : ¬ x < 10 := hlt
  clear hlt
  by_cases hlt : x < 100
  · skip
    have he2 : e2T x = [UInt8.ofNat (48 + x / 10), UInt8.ofNat (48 + x % 10)] := by unfold e2T; rw [if_neg hge, if_pos hlt]
    have HE2 := Lib.hid he2
    clear he2
    go_wp2_with (at_builtin; go_loud (refine bytes_append (w0 := w) g B rfl (.tmp 164) (.tmp 173) rfl Tryz.underlying92 info5 A5 k5 c5 ((((((xs ++ [45]) ++ [d0]) ++ [46]) ++ dr) ++ [101]) ++ [45]) [UInt8.ofNat (48 + x / 10), UInt8.ofNat (48 + x % 10)] 2 rfl _ (by simp [byteV]; omega) (by simp [Act.eval]) (by simp [Act.eval]) HR5.out ds HD5.out (by simp) HB5.out (by omega) (by first | omega | (simp; have := HN.out; omega)) ?_))
    intro A6 k6 c6 w6 hR6 hD6 hb6 hs6
    have HR6 := Lib.hid (show byteK.R 5 w6 B (fun q => q ≠ g) (.slice A6 k6 c6) (((((((xs ++ [45]) ++ [d0]) ++ [46]) ++ dr) ++ [101]) ++ [45]) ++ e2T x) by rw [HE2.out]; simpa using hR6)
    have HB6 := Lib.hid hb6
    clear hR6 hD6 hb6
    go_wp2
    go_ret
    exact ⟨_, rfl, HR6.out, HB6.out⟩
  have hge2 : ¬ x < 100 := hlt
  clear hlt
  · skip
    have he2 : e2T x = [UInt8.ofNat (48 + x / 100), UInt8.ofNat (48 + x / 10 % 10), UInt8.ofNat (48 + x % 10)] := by unfold e2T; rw [if_neg hge, if_neg hge2]
    have HE2 := Lib.hid he2
    clear he2
    go_wp2_with (at_builtin; go_loud (refine bytes_append (w0 := w) g B rfl (.tmp 136) (.tmp 150) rfl Tryz.underlying92 info5 A5 k5 c5 ((((((xs ++ [45]) ++ [d0]) ++ [46]) ++ dr) ++ [101]) ++ [45]) [UInt8.ofNat (48 + x / 100), UInt8.ofNat (48 + x / 10 % 10), UInt8.ofNat (48 + x % 10)] 3 rfl _ (by simp [byteV]; omega) (by simp [Act.eval]) (by simp [Act.eval]) HR5.out ds HD5.out (by simp) HB5.out (by omega) (by first | omega | (simp; have := HN.out; omega)) ?_))
    intro A6 k6 c6 w6 hR6 hD6 hb6 hs6
    have HR6 := Lib.hid (show byteK.R 5 w6 B (fun q => q ≠ g) (.slice A6 k6 c6) (((((((xs ++ [45]) ++ [d0]) ++ [46]) ++ dr) ++ [101]) ++ [45]) ++ e2T x) by rw [HE2.out]; simpa using hR6)
    have HB6 := Lib.hid hb6
    clear hR6 hD6 hb6
    go_wp2
    go_ret
    exact ⟨_, rfl, HR6.out, HB6.out⟩
end Go.Proofs.YtghajgdiaopioaaGreatDoor
end
