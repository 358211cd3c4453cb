/- Walks and plain laws joined (Hk). Conditions: stand in each law. -/
import Derived.Test.YtghajgdiaopioaaGreatDoorJxq
set_option linter.unusedVariables false
set_option linter.unusedSimpArgs false
section
/- Walks: fmtEFG without an exponent. Conditions: stand in each contract. -/
namespace Go.Proofs.YtghajgdiaopioaaGreatDoor
open Go.RowKit Go.Proofs Tx
open Go.Proofs.YtghajgdiaopioaaGreatDoorW.PrintWords
set_option maxRecDepth 40000 in
set_option maxHeartbeats 8000000 in
theorem efgF_02 (w : World) (B : Nat) (A : Option Addr) (k c : Nat) (xs : Bs) (g : Nat) (ds : Bs) (p : Nat) (hp1 : 1 ≤ p) (hp2 : p < ds.length) (hp6 : p ≤ 6) (hn : ds.length ≤ 17) (hR : byteK.R 5 w B (fun q => q ≠ g) (.slice A k c) xs) (hD : DigAt g ds w) (hB : B ≤ w.heap.size) (hx : xs.length ≤ 1000) :
    Calls Tryz.prog 151 #[.slice A k c, .bool false, .slice (some ⟨g, 0, none⟩) 32 32, .int .i64 (p : Int), .int .i64 ds.length, .int .i64 ds.length, .int .u8 103, .bool true] w fun e w' =>
      ∃ v, e = .returned v ∧ byteK.R 5 w' B (fun q => q ≠ g) v (xs ++ ds.take p ++ [46] ++ ds.drop p) ∧ Below B w w' := by
  obtain ⟨FIN, hFIN⟩ : ∃ FIN, FIN = (xs ++ ds.take p ++ [46] ++ ds.drop p) := ⟨_, rfl⟩
  rw [← hFIN]
  have HFIN := Lib.hid hFIN
  have HR := Lib.hid hR
  have HD := Lib.hid hD
  clear hR hD hFIN
  have hmin1 : min (ds.length : Int) p = p := by omega
  have hmax1 : max ((ds.length : Int) - p) 0 = (ds.length : Int) - p := by omega
  have hmax2 : max 0 (-(p : Int)) = 0 := by omega
  have hmin2 : min ((ds.length : Int) - p) 0 = 0 := by omega
  have hmax3 : max 0 ((ds.length : Int) - p) = (ds.length : Int) - p := by omega
  have q1 : ((p : Int) - 1 < -4) = False := eq_false (by omega)
  have q2 : ((6 : Int) ≤ (p : Int) - 1) = False := eq_false (by omega)
  have q3 : ((p : Int) < ds.length) = True := eq_true (by omega)
  have q4 : ((0 : Int) < p) = True := eq_true (by omega)
  have q5 : ((0 : Int) < (ds.length : Int) - p) = True := eq_true (by omega)
  have q6 : (0 < p) = True := eq_true (by omega)
  go_enter Tryz.func151, Tryz.ntmps151
  go_wp2
  go_loopw [0, 191] (fun v0 v1 wr0 => ∃ (A' : Option Addr) (k' c' j : Nat), v0 = .slice A' k' c' ∧ v1 = .int .i64 j ∧ j ≤ p ∧ byteK.R 5 wr0 B (fun q => q ≠ g) (.slice A' k' c') (xs ++ ds.take j) ∧ DigAt g ds wr0 ∧ Below B w wr0 ∧ w.heap.size ≤ wr0.heap.size) (fun v0 v1 wr0 => p - (intOf v1).toNat)
  case atStart => exact ⟨A, k, c, 0, rfl, rfl, Nat.zero_le _, by simpa using HR.out, HD.out, (Below.refl _ _), (Nat.le_refl _)⟩
  case round =>
  obtain ⟨wr0, rfl⟩ : ∃ v, v = wr := ⟨wr, rfl⟩
  obtain ⟨A0, k0, c0, j, rfl, rfl, hj, hR, hD, hb, hs0⟩ := hrel
  by_cases hlt : j < p
  · skip
    have hcell := hD.2 (j) (by omega)
    obtain ⟨b, hbb⟩ : ∃ b, b = ds[j]'(by omega) := ⟨_, rfl⟩
    rw [← hbb] at hcell
    unfold byteV at hcell
    have HBB := Lib.hid hbb
    clear hbb
    have HR1 := Lib.hid hR
    have HD1 := Lib.hid hD
    have HB1 := Lib.hid hb
    clear hR hD hb
    go_wp2_with (at_builtin; go_loud (refine byte_append (w0 := w) g B rfl (.tmp 195) (.tmp 197) rfl Tryz.underlying92 info5 A0 k0 c0 (xs ++ ds.take j) b (by simp [Act.eval]) (by simp [Act.eval]) HR1.out ds HD1.out HB1.out (by omega) (by first | omega | (simp; omega)) ?_))
    intro A2 k2 c2 w2 hR2 hD2 hb2 hs2
    have HR2 := Lib.hid (show byteK.R 5 w2 B (fun q => q ≠ g) (.slice A2 k2 c2) (xs ++ ds.take (j + 1)) by rw [List.take_add_one, List.getElem?_eq_getElem (by omega), ← HBB.out]; simpa using hR2)
    have HD2 := Lib.hid hD2
    have HB2 := Lib.hid hb2
    clear hR2 hD2 hb2
    go_wp2
    exact ⟨⟨A2, k2, c2, j + 1, rfl, by go_num, by omega, HR2.out, HD2.out, HB2.out, by omega⟩, by simp [intOf]; omega⟩
  have hje : p = j := by omega
  subst hje
  have HR0 := Lib.hid (show byteK.R 5 wr0 B (fun q => q ≠ g) (.slice A0 k0 c0) (xs ++ ds.take p) by exact hR)
  have HD0 := Lib.hid hD
  have HB0 := Lib.hid hb
  clear hR hD hb hlt
  go_wp2
  go_loopw [0, 203] (fun v0 v1 wq1 => v0 = .slice A0 k0 c0 ∧ v1 = .int .i64 0 ∧ wq1 = wr0) (fun v0 v1 wq1 => 0)
  case atStart => exact ⟨rfl, rfl, rfl⟩
  case round =>
  obtain ⟨rfl, rfl, hwq⟩ := hrel
  have hwq := hwq.symm
  subst hwq
  go_wp2_with (at_builtin; go_loud (refine byte_append (w0 := w) g B rfl (.tmp 214) (.tmp 215) rfl Tryz.underlying92 info5 A0 k0 c0 (xs ++ ds.take p) 46 (by simp [Act.eval]) (by simp [Act.eval]) HR0.out ds HD0.out HB0.out (by omega) (by first | omega | (simp; omega) | (have := HN.out; simp; omega)) ?_))
  intro A1 k1 c1 w1 hR1 hD1 hb1 hs1
  have HR1 := Lib.hid (show byteK.R 5 w1 B (fun q => q ≠ g) (.slice A1 k1 c1) ((xs ++ ds.take p) ++ [46]) by simpa using hR1)
  have HD1 := Lib.hid hD1
  have HB1 := Lib.hid hb1
  clear hR1 hD1 hb1
  go_wp2
  go_loopw [0, 240] (fun v0 v1 wq2 => v0 = .slice A1 k1 c1 ∧ v1 = .int .i64 0 ∧ wq2 = w1) (fun v0 v1 wq2 => 0)
  case atStart => exact ⟨rfl, rfl, rfl⟩
  case round =>
  obtain ⟨rfl, rfl, hwq⟩ := hrel
  have hwq := hwq.symm
  subst hwq
  go_wp2
  go_loopw [0, 247] (fun v0 v1 wr2 => ∃ (A' : Option Addr) (k' c' j : Nat), v0 = .slice A' k' c' ∧ v1 = .int .i64 j ∧ j ≤ (ds.length - p) ∧ byteK.R 5 wr2 B (fun q => q ≠ g) (.slice A' k' c') (((xs ++ ds.take p) ++ [46]) ++ (ds.drop p).take j) ∧ DigAt g ds wr2 ∧ Below B w wr2 ∧ w.heap.size ≤ wr2.heap.size) (fun v0 v1 wr2 => (ds.length - p) - (intOf v1).toNat)
  case atStart => exact ⟨A1, k1, c1, 0, rfl, rfl, Nat.zero_le _, by simpa using HR1.out, HD1.out, HB1.out, (by omega)⟩
  case round =>
  obtain ⟨wr2, rfl⟩ : ∃ v, v = wr := ⟨wr, rfl⟩
  obtain ⟨A2, k2, c2, j, rfl, rfl, hj, hR, hD, hb, hs2⟩ := hrel
  by_cases hlt : j < (ds.length - p)
  · skip
    have hcell := hD.2 (p + j) (by omega)
    obtain ⟨b, hbb⟩ : ∃ b, b = ds[p + j]'(by omega) := ⟨_, rfl⟩
    rw [← hbb] at hcell
    unfold byteV at hcell
    have HBB := Lib.hid hbb
    clear hbb
    have HR1 := Lib.hid hR
    have HD1 := Lib.hid hD
    have HB1 := Lib.hid hb
    clear hR hD hb
    go_wp2_with (at_builtin; go_loud (refine byte_append (w0 := w) g B rfl (.tmp 250) (.tmp 257) rfl Tryz.underlying92 info5 A2 k2 c2 (((xs ++ ds.take p) ++ [46]) ++ (ds.drop p).take j) b (by simp [Act.eval]) (by simp [Act.eval]) HR1.out ds HD1.out HB1.out (by omega) (by first | omega | (simp; omega)) ?_))
    intro A2 k2 c2 w2 hR2 hD2 hb2 hs2
    have HR2 := Lib.hid (show byteK.R 5 w2 B (fun q => q ≠ g) (.slice A2 k2 c2) (((xs ++ ds.take p) ++ [46]) ++ (ds.drop p).take (j + 1)) by rw [List.take_add_one, List.getElem?_drop, List.getElem?_eq_getElem (by omega), ← HBB.out]; simpa using hR2)
    have HD2 := Lib.hid hD2
    have HB2 := Lib.hid hb2
    clear hR2 hD2 hb2
    go_wp2
    exact ⟨⟨A2, k2, c2, j + 1, rfl, by go_num, by omega, HR2.out, HD2.out, HB2.out, by omega⟩, by simp [intOf]; omega⟩
  have hje : (ds.length - p) = j := by omega
  subst hje
  have HR2 := Lib.hid (show byteK.R 5 wr2 B (fun q => q ≠ g) (.slice A2 k2 c2) (((xs ++ ds.take p) ++ [46]) ++ ds.drop p) by rw [List.take_of_length_le (l := ds.drop p) (by rw [List.length_drop]; omega)] at hR; exact hR)
  have HD2 := Lib.hid hD
  have HB2 := Lib.hid hb
  clear hR hD hb hlt
  go_wp2
  go_loopw [0, 261] (fun v0 v1 wq3 => v0 = .slice A2 k2 c2 ∧ v1 = .int .i64 0 ∧ wq3 = wr2) (fun v0 v1 wq3 => 0)
  case atStart => exact ⟨rfl, rfl, rfl⟩
  case round =>
  obtain ⟨rfl, rfl, hwq⟩ := hrel
  have hwq := hwq.symm
  subst hwq
  go_wp2
  go_ret
  exact ⟨_, rfl, by rw [HFIN.out]; exact HR2.out, HB2.out⟩

set_option maxRecDepth 40000 in
set_option maxHeartbeats 8000000 in
theorem efgF_03 (w : World) (B : Nat) (A : Option Addr) (k c : Nat) (xs : Bs) (g : Nat) (ds : Bs) (z : Nat) (hz : z ≤ 3) (hp1 : 1 ≤ ds.length) (hn : ds.length ≤ 17) (hR : byteK.R 5 w B (fun q => q ≠ g) (.slice A k c) xs) (hD : DigAt g ds w) (hB : B ≤ w.heap.size) (hx : xs.length ≤ 1000) :
    Calls Tryz.prog 151 #[.slice A k c, .bool false, .slice (some ⟨g, 0, none⟩) 32 32, .int .i64 (-(z : Int)), .int .i64 ds.length, .int .i64 ds.length, .int .u8 103, .bool true] w fun e w' =>
      ∃ v, e = .returned v ∧ byteK.R 5 w' B (fun q => q ≠ g) v (xs ++ [48] ++ [46] ++ List.replicate z 48 ++ ds) ∧ Below B w w' := by
  obtain ⟨FIN, hFIN⟩ : ∃ FIN, FIN = (xs ++ [48] ++ [46] ++ List.replicate z 48 ++ ds) := ⟨_, rfl⟩
  rw [← hFIN]
  have HFIN := Lib.hid hFIN
  have HR := Lib.hid hR
  have HD := Lib.hid hD
  clear hR hD hFIN
  have hmax1 : max ((ds.length : Int) + z) 0 = (ds.length : Int) + z := by omega
  have hmax1' : max ((ds.length : Int) - -(z : Int)) 0 = (ds.length : Int) + z := by omega
  have hmax2 : max 0 (z : Int) = z := by omega
  have hmin2 : min ((ds.length : Int) + z) z = z := by omega
  have hmax3 : max 0 (ds.length : Int) = ds.length := by omega
  have hsub : (ds.length : Int) + z - z = ds.length := by omega
  have hzz : -(z : Int) + z = 0 := by omega
  have q1 : (-(z : Int) - 1 < -4) = False := eq_false (by omega)
  have q2 : ((6 : Int) ≤ -(z : Int) - 1) = False := eq_false (by omega)
  have q3 : (-(z : Int) < ds.length) = True := eq_true (by omega)
  have q4 : ((0 : Int) < -(z : Int)) = False := eq_false (by omega)
  have q5 : ((0 : Int) < (ds.length : Int) + z) = True := eq_true (by omega)
  go_enter Tryz.func151, Tryz.ntmps151
  go_wp2_with (at_builtin; go_loud (refine byte_append (w0 := w) g B rfl (.tmp 209) (.tmp 210) rfl Tryz.underlying92 info5 A k c xs 48 (by simp [Act.eval]) (by simp [Act.eval]) HR.out ds HD.out (Below.refl _ _) (by omega) (by first | omega | (simp; omega) | (have := HN.out; simp; omega)) ?_))
  intro A0 k0 c0 w0 hR0 hD0 hb0 hs0
  have HR0 := Lib.hid (show byteK.R 5 w0 B (fun q => q ≠ g) (.slice A0 k0 c0) (xs ++ [48]) by simpa using hR0)
  have HD0 := Lib.hid hD0
  have HB0 := Lib.hid hb0
  clear hR0 hD0 hb0
  go_wp2_with (at_builtin; go_loud (refine byte_append (w0 := w) g B rfl (.tmp 214) (.tmp 215) rfl Tryz.underlying92 info5 A0 k0 c0 (xs ++ [48]) 46 (by simp [Act.eval]) (by simp [Act.eval]) HR0.out ds HD0.out HB0.out (by omega) (by first | omega | (simp; omega) | (have := HN.out; simp; omega)) ?_))
  intro A1 k1 c1 w1 hR1 hD1 hb1 hs1
  have HR1 := Lib.hid (show byteK.R 5 w1 B (fun q => q ≠ g) (.slice A1 k1 c1) ((xs ++ [48]) ++ [46]) by simpa using hR1)
  have HD1 := Lib.hid hD1
  have HB1 := Lib.hid hb1
  clear hR1 hD1 hb1
  go_wp2
  go_loopw [0, 240] (fun v0 v1 wr2 => ∃ (A' : Option Addr) (k' c' j : Nat), v0 = .slice A' k' c' ∧ v1 = .int .i64 j ∧ j ≤ z ∧ byteK.R 5 wr2 B (fun q => q ≠ g) (.slice A' k' c') (((xs ++ [48]) ++ [46]) ++ List.replicate j 48) ∧ DigAt g ds wr2 ∧ Below B w wr2 ∧ w.heap.size ≤ wr2.heap.size) (fun v0 v1 wr2 => z - (intOf v1).toNat)
  case atStart => exact ⟨A1, k1, c1, 0, rfl, rfl, Nat.zero_le _, by simpa using HR1.out, HD1.out, HB1.out, (by omega)⟩
  case round =>
  obtain ⟨wr2, rfl⟩ : ∃ v, v = wr := ⟨wr, rfl⟩
  obtain ⟨A2, k2, c2, j, rfl, rfl, hj, hR, hD, hb, hs2⟩ := hrel
  by_cases hlt : j < z
  · skip
    have HR1 := Lib.hid hR
    have HD1 := Lib.hid hD
    have HB1 := Lib.hid hb
    clear hR hD hb
    go_wp2_with (at_builtin; go_loud (refine byte_append (w0 := w) g B rfl (.tmp 242) (.tmp 243) rfl Tryz.underlying92 info5 A2 k2 c2 (((xs ++ [48]) ++ [46]) ++ List.replicate j 48) 48 (by simp [Act.eval]) (by simp [Act.eval]) HR1.out ds HD1.out HB1.out (by omega) (by first | omega | (simp; omega)) ?_))
    intro A2 k2 c2 w2 hR2 hD2 hb2 hs2
    have HR2 := Lib.hid (show byteK.R 5 w2 B (fun q => q ≠ g) (.slice A2 k2 c2) (((xs ++ [48]) ++ [46]) ++ List.replicate (j + 1) 48) by rw [List.replicate_succ']; simpa using hR2)
    have HD2 := Lib.hid hD2
    have HB2 := Lib.hid hb2
    clear hR2 hD2 hb2
    go_wp2
    exact ⟨⟨A2, k2, c2, j + 1, rfl, by go_num, by omega, HR2.out, HD2.out, HB2.out, by omega⟩, by simp [intOf]; omega⟩
  have hje : z = j := by omega
  subst hje
  have HR2 := Lib.hid (show byteK.R 5 wr2 B (fun q => q ≠ g) (.slice A2 k2 c2) (((xs ++ [48]) ++ [46]) ++ List.replicate z 48) by exact hR)
  have HD2 := Lib.hid hD
  have HB2 := Lib.hid hb
  clear hR hD hb hlt
  go_wp2
  go_loopw [0, 247] (fun v0 v1 wr3 => ∃ (A' : Option Addr) (k' c' j : Nat), v0 = .slice A' k' c' ∧ v1 = .int .i64 j ∧ j ≤ ds.length ∧ byteK.R 5 wr3 B (fun q => q ≠ g) (.slice A' k' c') ((((xs ++ [48]) ++ [46]) ++ List.replicate z 48) ++ ds.take j) ∧ DigAt g ds wr3 ∧ Below B w wr3 ∧ w.heap.size ≤ wr3.heap.size) (fun v0 v1 wr3 => ds.length - (intOf v1).toNat)
  case atStart => exact ⟨A2, k2, c2, 0, rfl, rfl, Nat.zero_le _, by simpa using HR2.out, HD2.out, HB2.out, hs2⟩
  case round =>
  obtain ⟨wr3, rfl⟩ : ∃ v, v = wr := ⟨wr, rfl⟩
  obtain ⟨A3, k3, c3, j, rfl, rfl, hj, hR, hD, hb, hs3⟩ := hrel
  by_cases hlt : j < ds.length
  · skip
    have hcell := hD.2 (j) (by omega)
    obtain ⟨b, hbb⟩ : ∃ b, b = ds[j]'(by omega) := ⟨_, rfl⟩
    rw [← hbb] at hcell
    unfold byteV at hcell
    have HBB := Lib.hid hbb
    clear hbb
    have HR1 := Lib.hid hR
    have HD1 := Lib.hid hD
    have HB1 := Lib.hid hb
    clear hR hD hb
    go_wp2_with (at_builtin; go_loud (refine byte_append (w0 := w) g B rfl (.tmp 250) (.tmp 257) rfl Tryz.underlying92 info5 A3 k3 c3 ((((xs ++ [48]) ++ [46]) ++ List.replicate z 48) ++ ds.take j) b (by simp [Act.eval]) (by simp [Act.eval]) HR1.out ds HD1.out HB1.out (by omega) (by first | omega | (simp; omega)) ?_))
    intro A2 k2 c2 w2 hR2 hD2 hb2 hs2
    have HR2 := Lib.hid (show byteK.R 5 w2 B (fun q => q ≠ g) (.slice A2 k2 c2) ((((xs ++ [48]) ++ [46]) ++ List.replicate z 48) ++ ds.take (j + 1)) by rw [List.take_add_one, List.getElem?_eq_getElem (by omega), ← HBB.out]; simpa using hR2)
    have HD2 := Lib.hid hD2
    have HB2 := Lib.hid hb2
    clear hR2 hD2 hb2
    go_wp2
    exact ⟨⟨A2, k2, c2, j + 1, rfl, by go_num, by omega, HR2.out, HD2.out, HB2.out, by omega⟩, by simp [intOf]; omega⟩
  have hje : ds.length = j := by omega
  subst hje
  have HR3 := Lib.hid (show byteK.R 5 wr3 B (fun q => q ≠ g) (.slice A3 k3 c3) ((((xs ++ [48]) ++ [46]) ++ List.replicate z 48) ++ ds) by rw [List.take_of_length_le (by omega)] at hR; exact hR)
  have HD3 := Lib.hid hD
  have HB3 := Lib.hid hb
  clear hR hD hb hlt
  go_wp2
  go_loopw [0, 261] (fun v0 v1 wq1 => v0 = .slice A3 k3 c3 ∧ v1 = .int .i64 0 ∧ wq1 = wr3) (fun v0 v1 wq1 => 0)
  case atStart => exact ⟨rfl, rfl, rfl⟩
  case round =>
  obtain ⟨rfl, rfl, hwq⟩ := hrel
  have hwq := hwq.symm
  subst hwq
  go_wp2
  go_ret
  exact ⟨_, rfl, by rw [HFIN.out]; exact HR3.out, HB3.out⟩

set_option maxRecDepth 40000 in
set_option maxHeartbeats 8000000 in
theorem efgF_12 (w : World) (B : Nat) (A : Option Addr) (k c : Nat) (xs : Bs) (g : Nat) (ds : Bs) (p : Nat) (hp1 : 1 ≤ p) (hp2 : p < ds.length) (hp6 : p ≤ 6) (hn : ds.length ≤ 17) (hR : byteK.R 5 w B (fun q => q ≠ g) (.slice A k c) xs) (hD : DigAt g ds w) (hB : B ≤ w.heap.size) (hx : xs.length ≤ 1000) :
    Calls Tryz.prog 151 #[.slice A k c, .bool true, .slice (some ⟨g, 0, none⟩) 32 32, .int .i64 (p : Int), .int .i64 ds.length, .int .i64 ds.length, .int .u8 103, .bool true] w fun e w' =>
      ∃ v, e = .returned v ∧ byteK.R 5 w' B (fun q => q ≠ g) v (xs ++ [45] ++ ds.take p ++ [46] ++ ds.drop p) ∧ Below B w w' := by
  obtain ⟨FIN, hFIN⟩ : ∃ FIN, FIN = (xs ++ [45] ++ ds.take p ++ [46] ++ ds.drop p) := ⟨_, rfl⟩
  rw [← hFIN]
  have HFIN := Lib.hid hFIN
  have HR := Lib.hid hR
  have HD := Lib.hid hD
  clear hR hD hFIN
  have hmin1 : min (ds.length : Int) p = p := by omega
  have hmax1 : max ((ds.length : Int) - p) 0 = (ds.length : Int) - p := by omega
  have hmax2 : max 0 (-(p : Int)) = 0 := by omega
  have hmin2 : min ((ds.length : Int) - p) 0 = 0 := by omega
  have hmax3 : max 0 ((ds.length : Int) - p) = (ds.length : Int) - p := by omega
  have q1 : ((p : Int) - 1 < -4) = False := eq_false (by omega)
  have q2 : ((6 : Int) ≤ (p : Int) - 1) = False := eq_false (by omega)
  have q3 : ((p : Int) < ds.length) = True := eq_true (by omega)
  have q4 : ((0 : Int) < p) = True := eq_true (by omega)
  have q5 : ((0 : Int) < (ds.length : Int) - p) = True := eq_true (by omega)
  have q6 : (0 < p) = True := eq_true (by omega)
  go_enter Tryz.func151, Tryz.ntmps151
  go_wp2_with (at_builtin; go_loud (refine byte_append (w0 := w) g B rfl (.tmp 179) (.tmp 180) rfl Tryz.underlying92 info5 A k c xs 45 (by simp [Act.eval]) (by simp [Act.eval]) HR.out ds HD.out (Below.refl _ _) (by omega) (by first | omega | (simp; omega) | (have := HN.out; simp; omega)) ?_))
  intro A0 k0 c0 w0 hR0 hD0 hb0 hs0
  have HR0 := Lib.hid (show byteK.R 5 w0 B (fun q => q ≠ g) (.slice A0 k0 c0) (xs ++ [45]) by simpa using hR0)
  have HD0 := Lib.hid hD0
  have HB0 := Lib.hid hb0
  clear hR0 hD0 hb0
  go_wp2
  go_loopw [0, 191] (fun v0 v1 wr1 => ∃ (A' : Option Addr) (k' c' j : Nat), v0 = .slice A' k' c' ∧ v1 = .int .i64 j ∧ j ≤ p ∧ byteK.R 5 wr1 B (fun q => q ≠ g) (.slice A' k' c') ((xs ++ [45]) ++ ds.take j) ∧ DigAt g ds wr1 ∧ Below B w wr1 ∧ w.heap.size ≤ wr1.heap.size) (fun v0 v1 wr1 => p - (intOf v1).toNat)
  case atStart => exact ⟨A0, k0, c0, 0, rfl, rfl, Nat.zero_le _, by simpa using HR0.out, HD0.out, HB0.out, (by omega)⟩
  case round =>
  obtain ⟨wr1, rfl⟩ : ∃ v, v = wr := ⟨wr, rfl⟩
  obtain ⟨A1, k1, c1, j, rfl, rfl, hj, hR, hD, hb, hs1⟩ := hrel
  by_cases hlt : j < p
  · skip
    have hcell := hD.2 (j) (by omega)
    obtain ⟨b, hbb⟩ : ∃ b, b = ds[j]'(by omega) := ⟨_, rfl⟩
    rw [← hbb] at hcell
    unfold byteV at hcell
    have HBB := Lib.hid hbb
    clear hbb
    have HR1 := Lib.hid hR
    have HD1 := Lib.hid hD
    have HB1 := Lib.hid hb
    clear hR hD hb
    go_wp2_with (at_builtin; go_loud (refine byte_append (w0 := w) g B rfl (.tmp 195) (.tmp 197) rfl Tryz.underlying92 info5 A1 k1 c1 ((xs ++ [45]) ++ ds.take j) b (by simp [Act.eval]) (by simp [Act.eval]) HR1.out ds HD1.out HB1.out (by omega) (by first | omega | (simp; omega)) ?_))
    intro A2 k2 c2 w2 hR2 hD2 hb2 hs2
    have HR2 := Lib.hid (show byteK.R 5 w2 B (fun q => q ≠ g) (.slice A2 k2 c2) ((xs ++ [45]) ++ ds.take (j + 1)) by rw [List.take_add_one, List.getElem?_eq_getElem (by omega), ← HBB.out]; simpa using hR2)
    have HD2 := Lib.hid hD2
    have HB2 := Lib.hid hb2
    clear hR2 hD2 hb2
    go_wp2
    exact ⟨⟨A2, k2, c2, j + 1, rfl, by go_num, by omega, HR2.out, HD2.out, HB2.out, by omega⟩, by simp [intOf]; omega⟩
  have hje : p = j := by omega
  subst hje
  have HR1 := Lib.hid (show byteK.R 5 wr1 B (fun q => q ≠ g) (.slice A1 k1 c1) ((xs ++ [45]) ++ ds.take p) by exact hR)
  have HD1 := Lib.hid hD
  have HB1 := Lib.hid hb
  clear hR hD hb hlt
  go_wp2
  go_loopw [0, 203] (fun v0 v1 wq1 => v0 = .slice A1 k1 c1 ∧ v1 = .int .i64 0 ∧ wq1 = wr1) (fun v0 v1 wq1 => 0)
  case atStart => exact ⟨rfl, rfl, rfl⟩
  case round =>
  obtain ⟨rfl, rfl, hwq⟩ := hrel
  have hwq := hwq.symm
  subst hwq
  go_wp2_with (at_builtin; go_loud (refine byte_append (w0 := w) g B rfl (.tmp 214) (.tmp 215) rfl Tryz.underlying92 info5 A1 k1 c1 ((xs ++ [45]) ++ ds.take p) 46 (by simp [Act.eval]) (by simp [Act.eval]) HR1.out ds HD1.out HB1.out (by omega) (by first | omega | (simp; omega) | (have := HN.out; simp; omega)) ?_))
  intro A2 k2 c2 w2 hR2 hD2 hb2 hs2
  have HR2 := Lib.hid (show byteK.R 5 w2 B (fun q => q ≠ g) (.slice A2 k2 c2) (((xs ++ [45]) ++ ds.take p) ++ [46]) by simpa using hR2)
  have HD2 := Lib.hid hD2
  have HB2 := Lib.hid hb2
  clear hR2 hD2 hb2
  go_wp2
  go_loopw [0, 240] (fun v0 v1 wq2 => v0 = .slice A2 k2 c2 ∧ v1 = .int .i64 0 ∧ wq2 = w2) (fun v0 v1 wq2 => 0)
  case atStart => exact ⟨rfl, rfl, rfl⟩
  case round =>
  obtain ⟨rfl, rfl, hwq⟩ := hrel
  have hwq := hwq.symm
  subst hwq
  go_wp2
  go_loopw [0, 247] (fun v0 v1 wr3 => ∃ (A' : Option Addr) (k' c' j : Nat), v0 = .slice A' k' c' ∧ v1 = .int .i64 j ∧ j ≤ (ds.length - p) ∧ byteK.R 5 wr3 B (fun q => q ≠ g) (.slice A' k' c') ((((xs ++ [45]) ++ ds.take p) ++ [46]) ++ (ds.drop p).take j) ∧ DigAt g ds wr3 ∧ Below B w wr3 ∧ w.heap.size ≤ wr3.heap.size) (fun v0 v1 wr3 => (ds.length - p) - (intOf v1).toNat)
  case atStart => exact ⟨A2, k2, c2, 0, rfl, rfl, Nat.zero_le _, by simpa using HR2.out, HD2.out, HB2.out, (by omega)⟩
  case round =>
  obtain ⟨wr3, rfl⟩ : ∃ v, v = wr := ⟨wr, rfl⟩
  obtain ⟨A3, k3, c3, j, rfl, rfl, hj, hR, hD, hb, hs3⟩ := hrel
  by_cases hlt : j < (ds.length - p)
  · skip
    have hcell := hD.2 (p + j) (by omega)
    obtain ⟨b, hbb⟩ : ∃ b, b = ds[p + j]'(by omega) := ⟨_, rfl⟩
    rw [← hbb] at hcell
    unfold byteV at hcell
    have HBB := Lib.hid hbb
    clear hbb
    have HR1 := Lib.hid hR
    have HD1 := Lib.hid hD
    have HB1 := Lib.hid hb
    clear hR hD hb
    go_wp2_with (at_builtin; go_loud (refine byte_append (w0 := w) g B rfl (.tmp 250) (.tmp 257) rfl Tryz.underlying92 info5 A3 k3 c3 ((((xs ++ [45]) ++ ds.take p) ++ [46]) ++ (ds.drop p).take j) b (by simp [Act.eval]) (by simp [Act.eval]) HR1.out ds HD1.out HB1.out (by omega) (by first | omega | (simp; omega)) ?_))
    intro A2 k2 c2 w2 hR2 hD2 hb2 hs2
    have HR2 := Lib.hid (show byteK.R 5 w2 B (fun q => q ≠ g) (.slice A2 k2 c2) ((((xs ++ [45]) ++ ds.take p) ++ [46]) ++ (ds.drop p).take (j + 1)) by rw [List.take_add_one, List.getElem?_drop, List.getElem?_eq_getElem (by omega), ← HBB.out]; simpa using hR2)
    have HD2 := Lib.hid hD2
    have HB2 := Lib.hid hb2
    clear hR2 hD2 hb2
    go_wp2
    exact ⟨⟨A2, k2, c2, j + 1, rfl, by go_num, by omega, HR2.out, HD2.out, HB2.out, by omega⟩, by simp [intOf]; omega⟩
  have hje : (ds.length - p) = j := by omega
  subst hje
  have HR3 := Lib.hid (show byteK.R 5 wr3 B (fun q => q ≠ g) (.slice A3 k3 c3) ((((xs ++ [45]) ++ ds.take p) ++ [46]) ++ ds.drop p) by rw [List.take_of_length_le (l := ds.drop p) (by rw [List.length_drop]; omega)] at hR; exact hR)
  have HD3 := Lib.hid hD
  have HB3 := Lib.hid hb
  clear hR hD hb hlt
  go_wp2
  go_loopw [0, 261] (fun v0 v1 wq3 => v0 = .slice A3 k3 c3 ∧ v1 = .int .i64 0 ∧ wq3 = wr3) (fun v0 v1 wq3 => 0)
  case atStart => exact ⟨rfl, rfl, rfl⟩
  case round =>
  obtain ⟨rfl, rfl, hwq⟩ := hrel
  have hwq := hwq.symm
  subst hwq
  go_wp2
  go_ret
  exact ⟨_, rfl, by rw [HFIN.out]; exact HR3.out, HB3.out⟩

set_option maxRecDepth 40000 in
set_option maxHeartbeats 8000000 in
theorem efgF_13 (w : World) (B : Nat) (A : Option Addr) (k c : Nat) (xs : Bs) (g : Nat) (ds : Bs) (z : Nat) (hz : z ≤ 3) (hp1 : 1 ≤ ds.length) (hn : ds.length ≤ 17) (hR : byteK.R 5 w B (fun q => q ≠ g) (.slice A k c) xs) (hD : DigAt g ds w) (hB : B ≤ w.heap.size) (hx : xs.length ≤ 1000) :
    Calls Tryz.prog 151 #[.slice A k c, .bool true, .slice (some ⟨g, 0, none⟩) 32 32, .int .i64 (-(z : Int)), .int .i64 ds.length, .int .i64 ds.length, .int .u8 103, .bool true] w fun e w' =>
      ∃ v, e = .returned v ∧ byteK.R 5 w' B (fun q => q ≠ g) v (xs ++ [45] ++ [48] ++ [46] ++ List.replicate z 48 ++ ds) ∧ Below B w w' := by
  obtain ⟨FIN, hFIN⟩ : ∃ FIN, FIN = (xs ++ [45] ++ [48] ++ [46] ++ List.replicate z 48 ++ ds) := ⟨_, rfl⟩
  rw [← hFIN]
  have HFIN := Lib.hid hFIN
  have HR := Lib.hid hR
  have HD := Lib.hid hD
  clear hR hD hFIN
  have hmax1 : max ((ds.length : Int) + z) 0 = (ds.length : Int) + z := by omega
  have hmax1' : max ((ds.length : Int) - -(z : Int)) 0 = (ds.length : Int) + z := by omega
  have hmax2 : max 0 (z : Int) = z := by omega
  have hmin2 : min ((ds.length : Int) + z) z = z := by omega
  have hmax3 : max 0 (ds.length : Int) = ds.length := by omega
  have hsub : (ds.length : Int) + z - z = ds.length := by omega
  have hzz : -(z : Int) + z = 0 := by omega
  have q1 : (-(z : Int) - 1 < -4) = False := eq_false (by omega)
  have q2 : ((6 : Int) ≤ -(z : Int) - 1) = False := eq_false (by omega)
  have q3 : (-(z : Int) < ds.length) = True := eq_true (by omega)
  have q4 : ((0 : Int) < -(z : Int)) = False := eq_false (by omega)
  have q5 : ((0 : Int) < (ds.length : Int) + z) = True := eq_true (by omega)
  go_enter Tryz.func151, Tryz.ntmps151
  go_wp2_with (at_builtin; go_loud (refine byte_append (w0 := w) g B rfl (.tmp 179) (.tmp 180) rfl Tryz.underlying92 info5 A k c xs 45 (by simp [Act.eval]) (by simp [Act.eval]) HR.out ds HD.out (Below.refl _ _) (by omega) (by first | omega | (simp; omega) | (have := HN.out; simp; omega)) ?_))
  intro A0 k0 c0 w0 hR0 hD0 hb0 hs0
  have HR0 := Lib.hid (show byteK.R 5 w0 B (fun q => q ≠ g) (.slice A0 k0 c0) (xs ++ [45]) by simpa using hR0)
  have HD0 := Lib.hid hD0
  have HB0 := Lib.hid hb0
  clear hR0 hD0 hb0
  go_wp2_with (at_builtin; go_loud (refine byte_append (w0 := w) g B rfl (.tmp 209) (.tmp 210) rfl Tryz.underlying92 info5 A0 k0 c0 (xs ++ [45]) 48 (by simp [Act.eval]) (by simp [Act.eval]) HR0.out ds HD0.out HB0.out (by omega) (by first | omega | (simp; omega) | (have := HN.out; simp; omega)) ?_))
  intro A1 k1 c1 w1 hR1 hD1 hb1 hs1
  have HR1 := Lib.hid (show byteK.R 5 w1 B (fun q => q ≠ g) (.slice A1 k1 c1) ((xs ++ [45]) ++ [48]) by simpa using hR1)
  have HD1 := Lib.hid hD1
  have HB1 := Lib.hid hb1
  clear hR1 hD1 hb1
  go_wp2_with (at_builtin; go_loud (refine byte_append (w0 := w) g B rfl (.tmp 214) (.tmp 215) rfl Tryz.underlying92 info5 A1 k1 c1 ((xs ++ [45]) ++ [48]) 46 (by simp [Act.eval]) (by simp [Act.eval]) HR1.out ds HD1.out HB1.out (by omega) (by first | omega | (simp; omega) | (have := HN.out; simp; omega)) ?_))
  intro A2 k2 c2 w2 hR2 hD2 hb2 hs2
  have HR2 := Lib.hid (show byteK.R 5 w2 B (fun q => q ≠ g) (.slice A2 k2 c2) (((xs ++ [45]) ++ [48]) ++ [46]) by simpa using hR2)
  have HD2 := Lib.hid hD2
  have HB2 := Lib.hid hb2
  clear hR2 hD2 hb2
  go_wp2
  go_loopw [0, 240] (fun v0 v1 wr3 => ∃ (A' : Option Addr) (k' c' j : Nat), v0 = .slice A' k' c' ∧ v1 = .int .i64 j ∧ j ≤ z ∧ byteK.R 5 wr3 B (fun q => q ≠ g) (.slice A' k' c') ((((xs ++ [45]) ++ [48]) ++ [46]) ++ List.replicate j 48) ∧ DigAt g ds wr3 ∧ Below B w wr3 ∧ w.heap.size ≤ wr3.heap.size) (fun v0 v1 wr3 => z - (intOf v1).toNat)
  case atStart => exact ⟨A2, k2, c2, 0, rfl, rfl, Nat.zero_le _, by simpa using HR2.out, HD2.out, HB2.out, (by omega)⟩
  case round =>
  obtain ⟨wr3, rfl⟩ : ∃ v, v = wr := ⟨wr, rfl⟩
  obtain ⟨A3, k3, c3, j, rfl, rfl, hj, hR, hD, hb, hs3⟩ := hrel
  by_cases hlt : j < z
  · skip
    have HR1 := Lib.hid hR
    have HD1 := Lib.hid hD
    have HB1 := Lib.hid hb
    clear hR hD hb
    go_wp2_with (at_builtin; go_loud (refine byte_append (w0 := w) g B rfl (.tmp 242) (.tmp 243) rfl Tryz.underlying92 info5 A3 k3 c3 ((((xs ++ [45]) ++ [48]) ++ [46]) ++ List.replicate j 48) 48 (by simp [Act.eval]) (by simp [Act.eval]) HR1.out ds HD1.out HB1.out (by omega) (by first | omega | (simp; omega)) ?_))
    intro A2 k2 c2 w2 hR2 hD2 hb2 hs2
    have HR2 := Lib.hid (show byteK.R 5 w2 B (fun q => q ≠ g) (.slice A2 k2 c2) ((((xs ++ [45]) ++ [48]) ++ [46]) ++ List.replicate (j + 1) 48) by rw [List.replicate_succ']; simpa using hR2)
    have HD2 := Lib.hid hD2
    have HB2 := Lib.hid hb2
    clear hR2 hD2 hb2
    go_wp2
    exact ⟨⟨A2, k2, c2, j + 1, rfl, by go_num, by omega, HR2.out, HD2.out, HB2.out, by omega⟩, by simp [intOf]; omega⟩
  have hje : z = j := by omega
  subst hje
  have HR3 := Lib.hid (show byteK.R 5 wr3 B (fun q => q ≠ g) (.slice A3 k3 c3) ((((xs ++ [45]) ++ [48]) ++ [46]) ++ List.replicate z 48) by exact hR)
  have HD3 := Lib.hid hD
  have HB3 := Lib.hid hb
  clear hR hD hb hlt
  go_wp2
  go_loopw [0, 247] (fun v0 v1 wr4 => ∃ (A' : Option Addr) (k' c' j : Nat), v0 = .slice A' k' c' ∧ v1 = .int .i64 j ∧ j ≤ ds.length ∧ byteK.R 5 wr4 B (fun q => q ≠ g) (.slice A' k' c') (((((xs ++ [45]) ++ [48]) ++ [46]) ++ List.replicate z 48) ++ ds.take j) ∧ DigAt g ds wr4 ∧ Below B w wr4 ∧ w.heap.size ≤ wr4.heap.size) (fun v0 v1 wr4 => ds.length - (intOf v1).toNat)
  case atStart => exact ⟨A3, k3, c3, 0, rfl, rfl, Nat.zero_le _, by simpa using HR3.out, HD3.out, HB3.out, hs3⟩
  case round =>
  obtain ⟨wr4, rfl⟩ : ∃ v, v = wr := ⟨wr, rfl⟩
  obtain ⟨A4, k4, c4, j, rfl, rfl, hj, hR, hD, hb, hs4⟩ := hrel
  by_cases hlt : j < ds.length
  · skip
    have hcell := hD.2 (j) (by omega)
    obtain ⟨b, hbb⟩ : ∃ b, b = ds[j]'(by omega) := ⟨_, rfl⟩
    rw [← hbb] at hcell
    unfold byteV at hcell
    have HBB := Lib.hid hbb
    clear hbb
    have HR1 := Lib.hid hR
    have HD1 := Lib.hid hD
    have HB1 := Lib.hid hb
    clear hR hD hb
    go_wp2_with (at_builtin; go_loud (refine byte_append (w0 := w) g B rfl (.tmp 250) (.tmp 257) rfl Tryz.underlying92 info5 A4 k4 c4 (((((xs ++ [45]) ++ [48]) ++ [46]) ++ List.replicate z 48) ++ ds.take j) b (by simp [Act.eval]) (by simp [Act.eval]) HR1.out ds HD1.out HB1.out (by omega) (by first | omega | (simp; omega)) ?_))
    intro A2 k2 c2 w2 hR2 hD2 hb2 hs2
    have HR2 := Lib.hid (show byteK.R 5 w2 B (fun q => q ≠ g) (.slice A2 k2 c2) (((((xs ++ [45]) ++ [48]) ++ [46]) ++ List.replicate z 48) ++ ds.take (j + 1)) by rw [List.take_add_one, List.getElem?_eq_getElem (by omega), ← HBB.out]; simpa using hR2)
    have HD2 := Lib.hid hD2
    have HB2 := Lib.hid hb2
    clear hR2 hD2 hb2
    go_wp2
    exact ⟨⟨A2, k2, c2, j + 1, rfl, by go_num, by omega, HR2.out, HD2.out, HB2.out, by omega⟩, by simp [intOf]; omega⟩
  have hje : ds.length = j := by omega
  subst hje
  have HR4 := Lib.hid (show byteK.R 5 wr4 B (fun q => q ≠ g) (.slice A4 k4 c4) (((((xs ++ [45]) ++ [48]) ++ [46]) ++ List.replicate z 48) ++ ds) by rw [List.take_of_length_le (by omega)] at hR; exact hR)
  have HD4 := Lib.hid hD
  have HB4 := Lib.hid hb
  clear hR hD hb hlt
  go_wp2
  go_loopw [0, 261] (fun v0 v1 wq1 => v0 = .slice A4 k4 c4 ∧ v1 = .int .i64 0 ∧ wq1 = wr4) (fun v0 v1 wq1 => 0)
  case atStart => exact ⟨rfl, rfl, rfl⟩
  case round =>
  obtain ⟨rfl, rfl, hwq⟩ := hrel
  have hwq := hwq.symm
  subst hwq
  go_wp2
  go_ret
  exact ⟨_, rfl, by rw [HFIN.out]; exact HR4.out, HB4.out⟩
end Go.Proofs.YtghajgdiaopioaaGreatDoor
end
