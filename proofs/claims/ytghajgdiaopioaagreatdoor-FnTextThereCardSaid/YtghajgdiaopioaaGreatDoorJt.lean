/- Walks and plain laws joined (Ea, Ua, Ub). Conditions: stand in each law. -/
import Derived.Test.YtghajgdiaopioaaGreatDoorJm
import Derived.Test.YtghajgdiaopioaaGreatDoorJg
import Derived.Test.YtghajgdiaopioaaGreatDoorJs
import Derived.Test.YtghajgdiaopioaaGreatDoorJp
import Derived.Laws.BitsAllLaws
set_option linter.unusedVariables false
set_option linter.unusedSimpArgs false
section
/- Walks: fmtEFG on whole numbers. Conditions: stand in each contract. -/
namespace Go.Proofs.YtghajgdiaopioaaGreatDoor
open Go.RowKit Go.Proofs Tx
open Go.Proofs.YtghajgdiaopioaaGreatDoorW.PrintWords
def byteK : Kd UInt8 := Kd.scalar byteV (fun _ => rfl)
/-- Digits that lie in a block of the call's own. -/
def DigAt (g : Nat) (ds : Bs) (w : World) : Prop := g < w.heap.size ∧ ∀ j (h : j < ds.length), w.cell? ⟨g, j, none⟩ = some (byteV ds[j])
theorem DigAt.below {g : Nat} {ds : Bs} {w w' : World} (h : DigAt g ds w) (hb : Below w.heap.size w w') : DigAt g ds w' :=
  ⟨Nat.lt_of_lt_of_le h.1 hb.size, fun j hj => cell_below (h.2 j hj) hb h.1⟩
theorem DigAt.grown {g : Nat} {ds : Bs} {w w' : World} {row : Option Nat} (h : DigAt g ds w) (hg : w.grownBy w' row) (hr : some g ≠ row) : DigAt g ds w' :=
  ⟨Nat.lt_of_lt_of_le h.1 hg.size, fun j hj => by
    have := hg.block g h.1 hr
    rw [← h.2 j hj]
    simp [World.cell?, this]⟩

/-- One byte appended. -/
theorem byte_append {P : Program} {ops : Array Oper} {rest : List Oper} {o : Oper} {a : Act} {Q : Exit → Act → World → Prop} {w0 W : World} (g B : Nat) (hgd : o.guard = none) (s x : Operand)
    (ho : o.op = .call { callee := .builtin .append, args := #[s, x], argTypes := #[92, 92] })
    (ht : P.underlying 92 = some (.slice 5)) (hinfo : (P.info? 5).map (fun i => (i.zero, i.size, i.bytes)) = some (some (.int .u8 0), 1, 1))
    (A : Option Addr) (k c : Nat) (xs : Bs) (b : UInt8) (hs : a.eval s = .slice A k c) (hx : a.eval x = .slice (some ⟨W.heap.size, 0, none⟩) 1 1)
    (HR : byteK.R 5 W B (fun q => q ≠ g) (.slice A k c) xs) (ds : Bs) (HD : DigAt g ds W) (HB : Below B w0 W) (hB : B ≤ W.heap.size) (hl : xs.length ≤ 1000000)
    (h : ∀ (A' : Option Addr) (k' c' : Nat) (w1 : World), byteK.R 5 w1 B (fun q => q ≠ g) (.slice A' k' c') (xs ++ [b]) → DigAt g ds w1 → Below B w0 w1 → W.heap.size ≤ w1.heap.size → wpList P ops Q rest (a.put o.dst (.slice A' k' c')) w1) :
    wpList P ops Q (o :: rest) a (W.alloc (.cells #[.int .u8 b.toNat] 5)) := by
  refine Kd.R_append byteK (w0 := w0) B hgd s x 92 5 (.int .u8 0) 1 ho ht hinfo rfl (by decide) (by decide) (.slice A k c) xs b [byteV b] (fun q => q ≠ g) (fun _ => False) hs hx rfl (fun _ h => h.elim) (fun q hq => by have := HD.1; show q ≠ g; omega) HR HB hB (by omega) ?_
  intro v1 w1 hR1 hb1 hg1 hat1
  obtain ⟨A', k', c', rfl⟩ := R_sl hR1
  exact h A' k' c' w1 hR1 (HD.grown hg1 (fun e => HR.1 g e.symm rfl)) hb1 hg1.size

set_option maxRecDepth 40000 in
set_option maxHeartbeats 8000000 in
theorem efg_pos (w : World) (B : Nat) (A : Option Addr) (k c : Nat) (xs : Bs) (g : Nat) (ds : Bs) (dp : Nat) (hR : byteK.R 5 w B (fun q => q ≠ g) (.slice A k c) xs) (hD : DigAt g ds w) (h1 : 1 ≤ ds.length) (h2 : ds.length ≤ dp) (h3 : dp ≤ 6) (hB : B ≤ w.heap.size) (hx : xs.length ≤ 1000) :
    Calls Tryz.prog 151 #[.slice A k c, .bool false, .slice (some ⟨g, 0, none⟩) 32 32, .int .i64 dp, .int .i64 ds.length, .int .i64 ds.length, .int .u8 103, .bool true] w fun e w' =>
      ∃ v, e = .returned v ∧ byteK.R 5 w' B (fun q => q ≠ g) v (xs ++ ds ++ List.replicate (dp - ds.length) 48) ∧ Below B w w' := by
  have HR := Lib.hid hR
  have HD := Lib.hid hD
  have hmx : max ((ds.length : Int) - dp) 0 = 0 := by omega
  have hmn : min (ds.length : Int) dp = ds.length := by omega
  have q1 : ((dp : Int) - 1 < -4) = False := by simp; omega
  have q2 : ((6 : Int) ≤ (dp : Int) - 1) = False := by simp; omega
  have q3 : ((dp : Int) < ds.length) = False := by simp; omega
  have q4 : ((0 : Int) < dp) = True := by simp; omega
  have q6 : (0 < dp) = True := by simp; omega
  have q5 : ((dp : Int) ≤ ds.length) = (dp = ds.length) := by simp; omega
  clear hR hD
  go_enter Tryz.func151, Tryz.ntmps151
  go_wp2
  go_loopw [0, 191] (fun v0 v1 wr => ∃ (A' : Option Addr) (k' c' j : Nat), v0 = .slice A' k' c' ∧ v1 = .int .i64 j ∧ j ≤ ds.length ∧ byteK.R 5 wr B (fun q => q ≠ g) (.slice A' k' c') (xs ++ ds.take j) ∧ DigAt g ds wr ∧ Below B w wr ∧ w.heap.size ≤ wr.heap.size) (fun v0 v1 wr => ds.length - (intOf v1).toNat)
  case atStart => exact ⟨A, k, c, 0, rfl, rfl, Nat.zero_le _, by simpa using HR.out, HD.out, Below.refl _ _, Nat.le_refl _⟩
  case round =>
    obtain ⟨A', k', c', j, rfl, rfl, hj, hR, hD, hb, hsz⟩ := hrel
    by_cases hlt : j < ds.length
    · have hcell := hD.2 j hlt
      obtain ⟨b, hbb⟩ : ∃ b, b = ds[j] := ⟨_, rfl⟩
      rw [← hbb] at hcell
      unfold byteV at hcell
      have HBB := Lib.hid hbb
      have HR1 := Lib.hid hR
      have HD1 := Lib.hid hD
      have HB1 := Lib.hid hb
      clear hbb hR hD hb
      go_wp2_with (at_builtin; go_loud (refine byte_append (w0 := w) g B rfl (.tmp 195) (.tmp 197) rfl Tryz.underlying92 info5 A' k' c' (xs ++ ds.take j) b (by simp [Act.eval]) (by simp [Act.eval]) HR1.out ds HD1.out HB1.out (by omega) (by simp; omega) ?_))
      intro A2 k2 c2 w2 hR2 hD2 hb2 hs2
      have e1 : xs ++ (ds.take j ++ [b]) = xs ++ ds.take (j + 1) := by
        rw [List.take_add_one, List.getElem?_eq_getElem hlt, HBB.out]; rfl
      have HR2 := Lib.hid (show byteK.R 5 w2 B (fun q => q ≠ g) (.slice A2 k2 c2) (xs ++ ds.take (j + 1)) by rw [← e1]; simpa using hR2)
      clear e1
      have HD2 := Lib.hid hD2
      have HB2 := Lib.hid hb2
      clear hR2 hD2 hb2
      go_wp2
      exact ⟨⟨A2, k2, c2, j + 1, rfl, by go_num, by omega, HR2.out, HD2.out, HB2.out, by omega⟩, by simp [intOf]; omega⟩
    · have e1 : ds.take j = ds := List.take_of_length_le (by omega)
      rw [e1] at hR
      have HR1 := Lib.hid hR
      have HD1 := Lib.hid hD
      have HB1 := Lib.hid hb
      clear hR hD hb e1
      go_wp2
      go_loopw [0, 203] (fun v0 v1 wr => ∃ (A' : Option Addr) (k' c' j : Nat), v0 = .slice A' k' c' ∧ v1 = .int .i64 j ∧ j ≤ dp - ds.length ∧ byteK.R 5 wr B (fun q => q ≠ g) (.slice A' k' c') (xs ++ ds ++ List.replicate j 48) ∧ DigAt g ds wr ∧ Below B w wr ∧ w.heap.size ≤ wr.heap.size) (fun v0 v1 wr => dp - (intOf v1).toNat)
      case atStart => exact ⟨A', k', c', 0, rfl, rfl, Nat.zero_le _, by simpa using HR1.out, HD1.out, HB1.out, hsz⟩
      case round =>
        obtain ⟨A3, k3, c3, i, rfl, rfl, hi, hR, hD, hb, hsz3⟩ := hrel
        by_cases hlt3 : i < dp - ds.length
        · have HR3 := Lib.hid hR
          have HD3 := Lib.hid hD
          have HB3 := Lib.hid hb
          clear hR hD hb
          go_wp2_with (at_builtin; go_loud (refine byte_append (w0 := w) g B rfl (.tmp 205) (.tmp 206) rfl Tryz.underlying92 info5 A3 k3 c3 (xs ++ ds ++ List.replicate i 48) 48 (by simp [Act.eval]) (by simp [Act.eval]) HR3.out ds HD3.out HB3.out (by omega) (by simp; omega) ?_))
          intro A2 k2 c2 w2 hR2 hD2 hb2 hs2
          have HR2 := Lib.hid (show byteK.R 5 w2 B (fun q => q ≠ g) (.slice A2 k2 c2) (xs ++ ds ++ List.replicate (i + 1) 48) by rw [List.replicate_succ']; simpa using hR2)
          have HD2 := Lib.hid hD2
          have HB2 := Lib.hid hb2
          clear hR2 hD2 hb2
          go_wp2
          exact ⟨⟨A2, k2, c2, i + 1, rfl, by go_num, by omega, HR2.out, HD2.out, HB2.out, by omega⟩, by simp [intOf]; omega⟩
        · have e1 : i = dp - ds.length := by omega
          rw [e1] at hR
          have HR3 := Lib.hid hR
          have HB3 := Lib.hid hb
          clear hR hD hb e1
          go_wp2
          go_ret
          exact ⟨_, rfl, HR3.out, HB3.out⟩
set_option maxRecDepth 40000 in
set_option maxHeartbeats 8000000 in
theorem efg_neg (w : World) (B : Nat) (A : Option Addr) (k c : Nat) (xs : Bs) (g : Nat) (ds : Bs) (dp : Nat) (hR : byteK.R 5 w B (fun q => q ≠ g) (.slice A k c) xs) (hD : DigAt g ds w) (h1 : 1 ≤ ds.length) (h2 : ds.length ≤ dp) (h3 : dp ≤ 6) (hB : B ≤ w.heap.size) (hx : xs.length ≤ 1000) :
    Calls Tryz.prog 151 #[.slice A k c, .bool true, .slice (some ⟨g, 0, none⟩) 32 32, .int .i64 dp, .int .i64 ds.length, .int .i64 ds.length, .int .u8 103, .bool true] w fun e w' =>
      ∃ v, e = .returned v ∧ byteK.R 5 w' B (fun q => q ≠ g) v (xs ++ [45] ++ ds ++ List.replicate (dp - ds.length) 48) ∧ Below B w w' := by
  have HR := Lib.hid hR
  have HD := Lib.hid hD
  have hmx : max ((ds.length : Int) - dp) 0 = 0 := by omega
  have hmn : min (ds.length : Int) dp = ds.length := by omega
  have q1 : ((dp : Int) - 1 < -4) = False := by simp; omega
  have q2 : ((6 : Int) ≤ (dp : Int) - 1) = False := by simp; omega
  have q3 : ((dp : Int) < ds.length) = False := by simp; omega
  have q4 : ((0 : Int) < dp) = True := by simp; omega
  have q6 : (0 < dp) = True := by simp; omega
  have q5 : ((dp : Int) ≤ ds.length) = (dp = ds.length) := by simp; omega
  clear hR hD
  go_enter Tryz.func151, Tryz.ntmps151
  go_wp2_with (at_builtin; go_loud (refine byte_append (w0 := w) g B rfl (.tmp 179) (.tmp 180) rfl Tryz.underlying92 info5 A k c xs 45 (by simp [Act.eval]) (by simp [Act.eval]) HR.out ds HD.out (Below.refl _ _) hB (by omega) ?_))
  intro A0 k0 c0 w0 hR0 hD0 hb0 hs0
  have HR0 := Lib.hid (show byteK.R 5 w0 B (fun q => q ≠ g) (.slice A0 k0 c0) (xs ++ [45]) by simpa using hR0)
  have HD0 := Lib.hid hD0
  have HB0 := Lib.hid hb0
  clear hR0 hD0 hb0
  go_wp2
  go_loopw [0, 191] (fun v0 v1 wr => ∃ (A' : Option Addr) (k' c' j : Nat), v0 = .slice A' k' c' ∧ v1 = .int .i64 j ∧ j ≤ ds.length ∧ byteK.R 5 wr B (fun q => q ≠ g) (.slice A' k' c') (xs ++ [45] ++ ds.take j) ∧ DigAt g ds wr ∧ Below B w wr ∧ w.heap.size ≤ wr.heap.size) (fun v0 v1 wr => ds.length - (intOf v1).toNat)
  case atStart => exact ⟨A0, k0, c0, 0, rfl, rfl, Nat.zero_le _, by simpa using HR0.out, HD0.out, HB0.out, hs0⟩
  case round =>
    obtain ⟨A', k', c', j, rfl, rfl, hj, hR, hD, hb, hsz⟩ := hrel
    by_cases hlt : j < ds.length
    · have hcell := hD.2 j hlt
      obtain ⟨b, hbb⟩ : ∃ b, b = ds[j] := ⟨_, rfl⟩
      rw [← hbb] at hcell
      unfold byteV at hcell
      have HBB := Lib.hid hbb
      have HR1 := Lib.hid hR
      have HD1 := Lib.hid hD
      have HB1 := Lib.hid hb
      clear hbb hR hD hb
      go_wp2_with (at_builtin; go_loud (refine byte_append (w0 := w) g B rfl (.tmp 195) (.tmp 197) rfl Tryz.underlying92 info5 A' k' c' (xs ++ [45] ++ ds.take j) b (by simp [Act.eval]) (by simp [Act.eval]) HR1.out ds HD1.out HB1.out (by omega) (by simp; omega) ?_))
      intro A2 k2 c2 w2 hR2 hD2 hb2 hs2
      have e1 : xs ++ 45 :: (ds.take j ++ [b]) = xs ++ [45] ++ ds.take (j + 1) := by
        rw [List.take_add_one, List.getElem?_eq_getElem hlt, HBB.out]; simp
      have HR2 := Lib.hid (show byteK.R 5 w2 B (fun q => q ≠ g) (.slice A2 k2 c2) (xs ++ [45] ++ ds.take (j + 1)) by rw [← e1]; simpa using hR2)
      clear e1
      have HD2 := Lib.hid hD2
      have HB2 := Lib.hid hb2
      clear hR2 hD2 hb2
      go_wp2
      exact ⟨⟨A2, k2, c2, j + 1, rfl, by go_num, by omega, HR2.out, HD2.out, HB2.out, by omega⟩, by simp [intOf]; omega⟩
    · have e1 : ds.take j = ds := List.take_of_length_le (by omega)
      rw [e1] at hR
      have HR1 := Lib.hid hR
      have HD1 := Lib.hid hD
      have HB1 := Lib.hid hb
      clear hR hD hb e1
      go_wp2
      go_loopw [0, 203] (fun v0 v1 wr => ∃ (A' : Option Addr) (k' c' j : Nat), v0 = .slice A' k' c' ∧ v1 = .int .i64 j ∧ j ≤ dp - ds.length ∧ byteK.R 5 wr B (fun q => q ≠ g) (.slice A' k' c') (xs ++ [45] ++ ds ++ List.replicate j 48) ∧ DigAt g ds wr ∧ Below B w wr ∧ w.heap.size ≤ wr.heap.size) (fun v0 v1 wr => dp - (intOf v1).toNat)
      case atStart => exact ⟨A', k', c', 0, rfl, rfl, Nat.zero_le _, by simpa using HR1.out, HD1.out, HB1.out, hsz⟩
      case round =>
        obtain ⟨A3, k3, c3, i, rfl, rfl, hi, hR, hD, hb, hsz3⟩ := hrel
        by_cases hlt3 : i < dp - ds.length
        · have HR3 := Lib.hid hR
          have HD3 := Lib.hid hD
          have HB3 := Lib.hid hb
          clear hR hD hb
          go_wp2_with (at_builtin; go_loud (refine byte_append (w0 := w) g B rfl (.tmp 205) (.tmp 206) rfl Tryz.underlying92 info5 A3 k3 c3 (xs ++ [45] ++ ds ++ List.replicate i 48) 48 (by simp [Act.eval]) (by simp [Act.eval]) HR3.out ds HD3.out HB3.out (by omega) (by simp; omega) ?_))
          intro A2 k2 c2 w2 hR2 hD2 hb2 hs2
          have HR2 := Lib.hid (show byteK.R 5 w2 B (fun q => q ≠ g) (.slice A2 k2 c2) (xs ++ [45] ++ ds ++ List.replicate (i + 1) 48) by rw [List.replicate_succ']; simpa using hR2)
          have HD2 := Lib.hid hD2
          have HB2 := Lib.hid hb2
          clear hR2 hD2 hb2
          go_wp2
          exact ⟨⟨A2, k2, c2, i + 1, rfl, by go_num, by omega, HR2.out, HD2.out, HB2.out, by omega⟩, by simp [intOf]; omega⟩
        · have e1 : i = dp - ds.length := by omega
          rw [e1] at hR
          have HR3 := Lib.hid hR
          have HB3 := Lib.hid hb
          clear hR hD hb e1
          go_wp2
          go_ret
          exact ⟨_, rfl, HR3.out, HB3.out⟩

set_option maxRecDepth 40000 in
set_option maxHeartbeats 8000000 in
theorem efg_zero (w : World) (B : Nat) (A : Option Addr) (k c : Nat) (xs : Bs) (g : Nat) (hR : byteK.R 5 w B (fun q => q ≠ g) (.slice A k c) xs) (hD : DigAt g [] w) (hB : B ≤ w.heap.size) (hx : xs.length ≤ 1000) :
    Calls Tryz.prog 151 #[.slice A k c, .bool false, .slice none 0 0, .int .i64 0, .int .i64 0, .int .i64 (-1), .int .u8 103, .bool true] w fun e w' =>
      ∃ v, e = .returned v ∧ byteK.R 5 w' B (fun q => q ≠ g) v (xs ++ [48]) ∧ Below B w w' := by
  have HR := Lib.hid hR
  have HD := Lib.hid hD
  clear hR hD
  go_enter Tryz.func151, Tryz.ntmps151
  go_wp2_with (at_builtin; go_loud (refine byte_append (w0 := w) g B rfl (.tmp 209) (.tmp 210) rfl Tryz.underlying92 info5 A k c xs 48 (by simp [Act.eval]) (by simp [Act.eval]) HR.out [] HD.out (Below.refl _ _) hB (by omega) ?_))
  intro A0 k0 c0 w0 hR0 hD0 hb0 hs0
  have HR0 := Lib.hid hR0
  have HB0 := Lib.hid hb0
  clear hR0 hD0 hb0
  go_wp2
  go_ret
  exact ⟨_, rfl, HR0.out, HB0.out⟩
/-! Walks: the small steps of shortFloat; uscale. -/
theorem l10_any (x : Int) (w : World) (h0 : -2000 ≤ x) (h1 : x ≤ 2000) : Calls Tryz.prog 137 #[.int .i64 x] w fun e w' => e = .returned (.int .i64 (x * 78913 / 262144)) ∧ w = w' := by
  go_enter Tryz.func137, Tryz.ntmps137
  go_wp2
  go_ret
  exact ⟨rfl, rfl⟩
theorem skew_any (x : Int) (w : World) (h0 : -2000 ≤ x) (h1 : x ≤ 2000) : Calls Tryz.prog 177 #[.int .i64 x] w fun e w' => e = .returned (.int .i64 ((x * 631305 - 261663) / 2097152)) ∧ w = w' := by
  go_enter Tryz.func177, Tryz.ntmps177
  go_wp2
  go_ret
  exact ⟨rfl, rfl⟩
theorem l2_any (x : Int) (w : World) (h0 : -2000 ≤ x) (h1 : x ≤ 2000) : Calls Tryz.prog 179 #[.int .i64 x] w fun e w' => e = .returned (.int .i64 (x * 108853 / 32768)) ∧ w = w' := by
  go_enter Tryz.func179, Tryz.ntmps179
  go_wp2
  go_ret
  exact ⟨rfl, rfl⟩
theorem nudge_any (x : Nat) (d : Int) (w : World) (hx : 2 ≤ x) (hx2 : x < 9223372036854775808) (h0 : -1 ≤ d) (h1 : d ≤ 1) : Calls Tryz.prog 181 #[.int .u64 x, .int .i64 d] w fun e w' => e = .returned (.int .u64 ((x + d : Int))) ∧ w = w' := by
  go_enter Tryz.func181, Tryz.ntmps181
  go_wp2
  go_ret
  refine ⟨ret_int ?_, rfl⟩
  rw [IntKind.wrap_u64, IntKind.wrap_u64]
  omega
theorem ceil_any (x : Nat) (w : World) (hx2 : x < 9223372036854775808) : Calls Tryz.prog 182 #[.int .u64 x] w fun e w' => e = .returned (.int .u64 (((x + 3) / 4 : Nat) : Int)) ∧ w = w' := by
  go_enter Tryz.func182, Tryz.ntmps182
  go_wp2
  go_ret
  refine ⟨?_, rfl⟩
  exact ret_int (by omega)
theorem floor_any (x : Nat) (w : World) (hx2 : x < 9223372036854775808) : Calls Tryz.prog 183 #[.int .u64 x] w fun e w' => e = .returned (.int .u64 ((x / 4 : Nat) : Int)) ∧ w = w' := by
  go_enter Tryz.func183, Tryz.ntmps183
  go_wp2
  go_ret
  refine ⟨?_, rfl⟩
  exact ret_int (by omega)

theorem round_any (x : Nat) (w : World) (hx2 : x < 9223372036854775808) : Calls Tryz.prog 184 #[.int .u64 x] w fun e w' => e = .returned (.int .u64 (((x + 1 + x / 4 % 2) / 4 : Nat) : Int)) ∧ w = w' := by
  have hb : bits BinOp.and IntKind.u64 ((x : Int) / 4) 1 = ((x / 4 % 2 : Nat) : Int) := by
    rw [show ((x : Int) / 4) = ((x / 4 : Nat) : Int) by omega, show (1 : Int) = ((1 : Nat) : Int) by rfl, u64_and _ _ (by omega) (by omega) (by omega) (by omega)]
    simp only [Int.toNat_natCast, Nat.and_one_is_mod]
  go_enter Tryz.func184, Tryz.ntmps184
  go_wp2
  go_ret
  refine ⟨ret_int ?_, rfl⟩
  first
  | omega
  | (simp [hb]; omega)
theorem call170 : ∀ args w, (callFunc 170 args).run Tryz.prog w = .ok (.enter 170 args) w := by
  intro args w
  kernel_rfl
/-- uscale's value. -/
def uscN (x hi lo sh : Nat) : Nat :=
  let h := x * hi / 18446744073709551616
  let l := x * hi % 18446744073709551616
  if h / 2 ^ sh * 2 ^ sh ≠ h then (h / 2 ^ sh) ||| 1
  else
    let h2 := x * lo / 18446744073709551616
    let h' := if l < h2 then h - 1 else h
    (h' / 2 ^ sh) ||| (if 1 < (l + 18446744073709551616 - h2) % 18446744073709551616 then 1 else 0)
set_option maxRecDepth 20000 in
theorem usc_any (x hi lo sh b : Nat) (w : World) (hx : x < 18446744073709551616) (hhi : hi < 18446744073709551616) (hlo : lo < 18446744073709551616) (hs : sh < 64) (hge : 1 ≤ x * hi / 18446744073709551616)
    (hb : w.heap[b]? = some (.cells #[.int .u64 hi, .int .u64 lo, .int .i64 sh] 246 (0, 0))) :
    Calls Tryz.prog 180 #[.int .u64 x, .pointer (some ⟨b, 0, none⟩)] w fun e w' => e = .returned (.int .u64 (uscN x hi lo sh)) ∧ Below w.heap.size w w' := by
  obtain ⟨c0, c1, c2, f0, f1, f2⟩ := three_facts hb
  have h1 := Tryz.bits_Mul64 x hi hx hhi w
  have h2 := Tryz.bits_Mul64 x lo hx hlo w
  have hlt : x * hi / 18446744073709551616 < 18446744073709551616 := Nat.div_lt_of_lt_mul (Nat.mul_lt_mul'' hx hhi)
  have hlt2 : x * lo / 18446744073709551616 < 18446744073709551616 := Nat.div_lt_of_lt_mul (Nat.mul_lt_mul'' hx hlo)
  have hll : x * hi % 18446744073709551616 < 18446744073709551616 := Nat.mod_lt _ (by decide)
  obtain ⟨h, hh⟩ : ∃ h, h = x * hi / 18446744073709551616 := ⟨_, rfl⟩
  obtain ⟨l, hl⟩ : ∃ l, l = x * hi % 18446744073709551616 := ⟨_, rfl⟩
  obtain ⟨g, hg⟩ : ∃ g, g = x * lo / 18446744073709551616 := ⟨_, rfl⟩
  have hU : uscN x hi lo sh = if h / 2 ^ sh * 2 ^ sh ≠ h then (h / 2 ^ sh) ||| 1 else ((if l < g then h - 1 else h) / 2 ^ sh) ||| (if 1 < (l + 18446744073709551616 - g) % 18446744073709551616 then 1 else 0) := by
    unfold uscN
    rw [← hh, ← hl, ← hg]
  rw [← hh, ← hl] at h1
  rw [← hg] at h2
  rw [← hh] at hlt hge
  rw [← hl] at hll
  rw [← hg] at hlt2
  rw [hU]
  have hb1 : bits BinOp.and IntKind.i64 (sh : Int) 63 = sh := by
    have : ∀ s : Nat, s < 64 → bits BinOp.and IntKind.i64 (s : Int) 63 = s := by decide
    exact this sh hs
  have hpl : h / 2 ^ sh * 2 ^ sh ≤ h := Nat.div_mul_le_self _ _
  have htl : h / 2 ^ sh ≤ h := Nat.div_le_self _ _
  obtain ⟨t, ht⟩ : ∃ t, t = h / 2 ^ sh := ⟨_, rfl⟩
  rw [← ht] at hpl htl ⊢
  obtain ⟨p, hp⟩ : ∃ p, p = t * 2 ^ sh := ⟨_, rfl⟩
  rw [← hp] at hpl ⊢
  have hI : ((h : Int) / 2 ^ sh) = (t : Int) := by rw [ht]; push_cast; rfl
  have hJ : ((t : Int) * 2 ^ sh) = (p : Int) := by rw [hp]; push_cast; rfl
  clear hb hU hh hl hg ht hp
  by_cases hq : p = h
  · rw [if_neg (by simpa using hq)]
    have hne : ((p : Int) != (h : Int)) = false := by rw [bne_eq_false_iff_eq]; omega
    obtain ⟨cb, hcb⟩ : ∃ cb : Nat, cb = if l < g then 1 else 0 := ⟨_, rfl⟩
    obtain ⟨u, hu⟩ : ∃ u, u = h - cb := ⟨_, rfl⟩
    have hu2 : (if l < g then h - 1 else h) = u := by rw [hu, hcb]; split <;> rfl
    rw [hu2]
    have hcb1 : cb ≤ 1 := by rw [hcb]; split <;> omega
    obtain ⟨v, hv⟩ : ∃ v, v = u / 2 ^ sh := ⟨_, rfl⟩
    have hvl : v ≤ u := by rw [hv]; exact Nat.div_le_self _ _
    rw [← hv]
    have hV : ((u : Int) / 2 ^ sh) = (v : Int) := by rw [hv]; push_cast; rfl
    have hU1 : ((h : Int) - cb) = (u : Int) := by omega
    have hC1 : (if (l : Int) < g then (1 : Int) else 0) = (cb : Int) := by
      rw [hcb]
      by_cases hlg : l < g
      · rw [if_pos hlg, if_pos (by omega)]; rfl
      · rw [if_neg hlg, if_neg (by omega)]; rfl
    obtain ⟨d, hd⟩ : ∃ d, d = (l + 18446744073709551616 - g) % 18446744073709551616 := ⟨_, rfl⟩
    rw [← hd]
    have hD : IntKind.u64.wrap ((l : Int) - g) = (d : Int) := by rw [IntKind.wrap_u64, hd]; omega
    obtain ⟨e0, he0⟩ : ∃ e0 : Nat, e0 = if 1 < d then 1 else 0 := ⟨_, rfl⟩
    rw [← he0]
    have he1 : e0 ≤ 1 := by rw [he0]; split <;> omega
    have hE : (if decide (1 < d) = true then (1 : Int) else 0) = (e0 : Int) := by
      rw [he0]
      by_cases h1d : 1 < d
      · rw [if_pos h1d, if_pos (by simp; omega)]; rfl
      · rw [if_neg h1d, if_neg (by simp; omega)]; rfl
    have hC : (if decide (l < g) = true then (1 : Int) else 0) = (cb : Int) := by
      rw [← hC1]
      by_cases hlg : l < g
      · rw [if_pos (by simpa using hlg), if_pos (by omega)]
      · rw [if_neg (by simpa using hlg), if_neg (by omega)]
    have hor : bits BinOp.or IntKind.u64 (v : Int) (e0 : Int) = ((v ||| e0 : Nat) : Int) := by
      rw [u64_or _ _ (by omega) (by omega) (by omega) (by omega)]
      rfl
    have hb1' := b2u (decide (l < g)) w
    rw [hC] at hb1'
    have hb2' : ∀ w' : World, Calls Tryz.prog 170 #[.bool (decide (1 < d))] w' fun e w'' => ∃ y, e = .returned y ∧ (y = .int .u64 e0 ∧ w' = w'') := fun w' => by
      have := b2u (decide (1 < d)) w'
      rw [hE] at this
      exact this.mono fun e w'' ⟨a, b⟩ => ⟨_, a, rfl, b⟩
    clear hq hcb hu hu2 hv hC1 hd he0 hE hC
    have h1d : ((1 : Int) < (d : Int)) = (1 < d) := by apply propext; omega
    go_enter Tryz.func180, Tryz.ntmps180
    go_wp2_with fail
    refine h1.mono ?_
    rintro e w' ⟨rfl, rfl⟩
    clear h1
    go_wp2_with fail
    refine h2.mono ?_
    rintro e w' ⟨rfl, rfl⟩
    clear h2
    go_wp2_with fail
    refine hb1'.mono ?_
    rintro e w' ⟨rfl, rfl⟩
    clear hb1'
    go_wp2_with fail
    go_region_law (refine step_call rfl 170 (.tmp 56) _ rfl call170 (.bool (decide (1 < d))) (by simp [Act.eval, Act.put, hD, h1d]) (hb2' _) ?_; rintro y w1 ⟨rfl, rfl⟩)
    all_goals go_wp2_with fail
    all_goals (try go_ret)
    all_goals (try simp only [hor])
    all_goals (refine ⟨rfl, ?_⟩)
    all_goals (first | exact Below.refl _ _ | exact below_drew _)
  · rw [if_pos hq]
    have hne : ((p : Int) != (h : Int)) = true := by rw [bne_iff_ne]; omega
    have hor : bits BinOp.or IntKind.u64 (t : Int) 1 = ((t ||| 1 : Nat) : Int) := by
      rw [u64_or _ _ (by omega) (by omega) (by omega) (by omega)]
      rfl
    clear hq
    go_enter Tryz.func180, Tryz.ntmps180
    go_wp2_with fail
    refine h1.mono ?_
    rintro e w' ⟨rfl, rfl⟩
    clear h1 h2
    go_wp2
    go_ret
    exact ⟨rfl, Below.refl _ _⟩
/-! Walks: prescale. -/
theorem cell_far {w : World} {a c : Addr} (v : Value) (h : a.block ≠ c.block) : (w.setCell c v).cell? a = w.cell? a := by
  have : c.block ≠ a.block := fun e => h e.symm
  simp [World.cell?, World.setCell, Array.getElem?_modify, this]

set_option maxRecDepth 100000 in
theorem pre_any (b : Nat) (e p lp : Int) (w : World) (u v t' : Value) (hi lo : Nat) (hb22 : 22 < b) (he : -2000 ≤ e ∧ e ≤ 2000) (hp : -348 ≤ p ∧ p ≤ 347) (hlp : -2000 ≤ lp ∧ lp ≤ 2000)
    (hb : w.heap[b]? = some (.cells #[u, v, t'] 246 (0, 0)))
    (q : Nat) (hq : (q : Int) = p + 348)
    (h0 : w.cell? ⟨22, q * 2, none⟩ = some (.int .u64 hi)) (h1 : w.cell? ⟨22, q * 2 + 1, none⟩ = some (.int .u64 lo)) :
    Calls Tryz.prog 178 #[.pointer (some ⟨b, 0, none⟩), .int .i64 e, .int .i64 p, .int .i64 lp] w fun r w' => r = .returned (.tuple #[]) ∧ w'.heap[b]? = some (.cells #[.int .u64 hi, .int .u64 lo, .int .i64 (-(e + lp + 3))] 246 (0, 0)) ∧ Below b w w' := by
  obtain ⟨c0, c1, c2, f0, f1, f2⟩ := three_facts hb
  have hbs : b < w.heap.size := by
    rcases Nat.lt_or_ge b w.heap.size with h | h
    · exact h
    · rw [Array.getElem?_eq_none h] at hb; cases hb
  have hsub : p - -348 = (q : Int) := by omega
  have hadd : p + 348 = (q : Int) := by omega
  clear hq
  have h1' := (cell_far (w := w) (a := ⟨22, q * 2 + 1, none⟩) (c := ⟨b, 0, none⟩) (.int .u64 hi) (by show (22 : Nat) ≠ b; omega)).trans h1
  go_enter Tryz.func178, Tryz.ntmps178
  go_wp2_with fail
  ((try simp only [Exit.inBlock, Exit.then]); refine bodyPost_end (results_none rfl _ _ _) rfl ?_)
  exact ⟨rfl, three_set hb, (((Below.refl b w).setCell (Nat.le_refl _) _).setCell (Nat.le_refl _) _).setCell (Nat.le_refl _) _⟩
end Go.Proofs.YtghajgdiaopioaaGreatDoor
end
