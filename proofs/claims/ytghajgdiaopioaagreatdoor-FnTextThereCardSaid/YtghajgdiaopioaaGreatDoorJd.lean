/- Walks and plain laws joined (Wb, Wc). Conditions: stand in each law. -/
import Derived.Test.YtghajgdiaopioaaGreatDoorJc
set_option linter.unusedVariables false
set_option linter.unusedSimpArgs false
section
/- Walks: trimSpaceBrackets, commas, cut. Conditions: stand in each contract. -/
namespace Go.Proofs.YtghajgdiaopioaaGreatDoor
open Go.RowKit Go.Proofs Tx
theorem trim_len (l : Bs) : (trim l).length ≠ 1 := by
  unfold trim; split
  · simp
  · omega
theorem trim_le (l : Bs) : (trim l).length ≤ l.length := by
  rw [trim_cut]; split
  · simp
  · simp; omega
theorem beq40 {c : UInt8} (e : ¬ c = 40) : ((c.toNat : Int) == 40) = false := by rw [show (40 : Int) = ((40 : UInt8).toNat : Int) from rfl, u8_beq]; simpa using e
theorem beq41 {c : UInt8} (e : ¬ c = 41) : ((c.toNat : Int) == 41) = false := by rw [show (41 : Int) = ((41 : UInt8).toNat : Int) from rfl, u8_beq]; simpa using e
theorem beq44 {c : UInt8} (e : ¬ c = 44) : ((c.toNat : Int) == 44) = false := by rw [show (44 : Int) = ((44 : UInt8).toNat : Int) from rfl, u8_beq]; simpa using e
/-- trimSpaceBrackets: an error. -/
theorem trimBr_none (l : Bs) (w : World) (hl : l.length ≤ 1000000000) {B0 : Nat} (hg : Gl B0 w) (h : trimBr l = none) :
    Calls Tryz.prog 75 #[S l] w fun e w' => (∃ u v, e = .returned (.tuple #[S [], .iface u v])) ∧ Below w.heap.size w w' := by
  obtain ⟨u, v, he4⟩ := hg.e4
  unfold trimBr at h
  have h1 := trim_len l
  have h2 := trim_le l
  cases ht : trim l with
  | nil => rw [ht] at h; cases h
  | cons c m =>
    rw [ht] at h h1 h2
    simp only at h
    have hm : m ≠ [] := by rintro rfl; simp at h1
    obtain ⟨m, d, rfl⟩ := snoc_of_ne hm
    simp only [List.length_cons, List.length_append, List.length_nil] at h2
    have hcase : (c = 40 ∧ ((d.toNat : Int) == 41) = false) ∨ ((c.toNat : Int) == 40) = false := by
      by_cases e : c = 40
      · refine .inl ⟨e, beq41 ?_⟩
        rintro rfl
        simp [e] at h
      · exact .inr (beq40 e)
    clear h h1 hm
    rcases hcase with ⟨rfl, h41⟩ | h40
    all_goals
      go_enter Tryz.func75, Tryz.ntmps75
      go_wp2_with fail
      refine (trim_any l _ (by omega)).mono ?_
      rintro e w' ⟨rfl, rfl⟩
      rw [ht]
      clear ht
      go_wp2_with fail
      go_quiet (fail)
      go_wp2
      go_ret2
      exact ⟨⟨_, _, rfl⟩, below_drewN _ _⟩

/-- trimSpaceBrackets. -/
theorem trimBr_some (l t : Bs) (w : World) (hl : l.length ≤ 1000000000) (h : trimBr l = some t) :
    Calls Tryz.prog 75 #[S l] w fun e w' => e = .returned (.tuple #[S t, .nilIface]) ∧ w = w' := by
  unfold trimBr at h
  have h1 := trim_len l
  have h2 := trim_le l
  cases ht : trim l with
  | nil =>
    rw [ht] at h
    simp only [Option.some.injEq] at h
    subst h
    go_enter Tryz.func75, Tryz.ntmps75
    go_wp2_with fail
    refine (trim_any l _ (by omega)).mono ?_
    rintro e w' ⟨rfl, rfl⟩
    rw [ht]
    clear ht
    go_wp2
    go_ret2
    exact ⟨rfl, rfl⟩
  | cons c m =>
    rw [ht] at h h1 h2
    simp only at h
    have hm : m ≠ [] := by rintro rfl; simp at h1
    obtain ⟨m, d, rfl⟩ := snoc_of_ne hm
    simp only [List.length_cons, List.length_append, List.length_nil] at h2
    have hcd : c = 40 ∧ d = 41 ∧ trim m = t := by
      by_cases e : c = 40
      · by_cases e2 : d = 41
        · simp [e, e2] at h; exact ⟨e, e2, h⟩
        · simp [e, e2] at h
      · simp [e] at h
    obtain ⟨rfl, rfl, rfl⟩ := hcd
    clear h h1 hm
    go_enter Tryz.func75, Tryz.ntmps75
    go_wp2_with fail
    refine (trim_any l _ (by omega)).mono ?_
    rintro e w' ⟨rfl, rfl⟩
    rw [ht]
    clear ht
    go_wp2_with fail
    have e1 : List.take m.length (List.take (m.length + 1) (m ++ [41])) = m := by simp [List.take_take]
    simp only [e1]
    refine (trim_any m _ (by omega)).mono ?_
    rintro e w' ⟨rfl, rfl⟩
    clear e1
    go_wp2
    go_ret2
    exact ⟨rfl, rfl⟩

/-- commas: some number, not above the length. -/
theorem commas_any (l : Bs) (w : World) (hl : l.length ≤ 1000000000) :
    Calls Tryz.prog 78 #[S l] w fun e w' => (∃ n : Nat, n ≤ l.length ∧ e = .returned (.int .i64 n)) ∧ w = w' := by
  go_enter Tryz.func78, Tryz.ntmps78
  go_wp2
  go_loop [3, 4] (fun n i => ∃ k m : Nat, k ≤ l.length ∧ m ≤ k ∧ i = .int .i64 k ∧ n = .int .i64 m) (fun n i => l.length - (intOf i).toNat)
  case atStart => exact ⟨0, 0, by omega, by omega, rfl, rfl⟩
  case round =>
    obtain ⟨k, m, hk, hm, rfl, rfl⟩ := hrel
    by_cases hgo : k < l.length
    · obtain ⟨c, hc⟩ : ∃ c : UInt8, ∀ h, (ByteArray.mk l.toArray)[k]'h = c := ⟨l[k], fun _ => rfl⟩
      go_wp2
      all_goals
        simp only [intOf]
        first
        | exact ⟨⟨k+1, m+1, by omega, by omega, by go_num, by go_num⟩, by omega⟩
        | exact ⟨⟨k+1, m, by omega, by omega, by go_num, by go_num⟩, by omega⟩
    · go_wp2
      go_ret
      exact ⟨⟨m, by omega, rfl⟩, rfl⟩

theorem one_sign {l : Bs} {k : Nat} (h : k < l.length) : List.drop k (List.take (k + 1) l) = [l[k]] := by
  rw [List.take_add_one, List.drop_append, List.drop_of_length_le (by simp; omega)]
  simp [List.getElem?_eq_getElem h, show k - min k l.length = 0 by omega]
/-- The place of the first blank; -1 for none. -/
def at32 (l : Bs) : Int := if (32 : UInt8) ∈ l then ((l.takeWhile (· != 32)).length : Nat) else -1
theorem zz_any (l : Bs) (w : World) (hl : l.length ≤ 1000000000) :
    Calls Tryz.prog 113 #[S l, S [32]] w fun e w' => e = .returned (.int .i64 (at32 l)) ∧ w = w' := by
  go_enter Tryz.func113, Tryz.ntmps113
  go_wp2
  go_loop [5] (fun i => ∃ k : Nat, k ≤ (l.takeWhile (· != 32)).length ∧ i = .int .i64 k) (fun i => l.length - (intOf i).toNat)
  case atStart => exact ⟨0, by omega, rfl⟩
  case round =>
    obtain ⟨k, hk, rfl⟩ := hrel
    have hle : (l.takeWhile (· != 32)).length ≤ l.length := (List.takeWhile_sublist _).length_le
    by_cases hgo : k < l.length
    · by_cases h2 : k < (l.takeWhile (· != 32)).length
      · obtain ⟨_, hp⟩ := take_ge h2
        have hb : (List.drop k (List.take (k + 1) l) == [32]) = false := by
          rw [one_sign hgo]; simpa using hp
        clear hp hk
        go_wp2
        exact ⟨⟨k + 1, by omega, by go_num⟩, by simp [intOf]; omega⟩
      · have hk2 : k = (l.takeWhile (· != 32)).length := by omega
        have hp := take_eq (p := (· != 32)) (l := l) (by omega)
        simp only [← hk2] at hp
        have hb : (List.drop k (List.take (k + 1) l) == [32]) = true := by
          rw [one_sign hgo]; simpa using hp
        have hm : (32 : UInt8) ∈ l := by
          have : l[k] = 32 := by simpa using hp
          rw [← this]; exact List.getElem_mem hgo
        have HK := Lib.hid hk2
        clear hk2 hp hk hle
        go_wp2
        go_ret
        exact ⟨by unfold at32; rw [if_pos hm, ← HK.out]; rfl, rfl⟩
    · have hk2 : k = (l.takeWhile (· != 32)).length := by omega
      have hm : (32 : UInt8) ∉ l := by
        intro hm
        have := List.all_takeWhile (p := (· != 32)) (l := l)
        have he : l.takeWhile (· != 32) = l := (List.takeWhile_sublist _).eq_of_length (by omega)
        rw [he] at this
        have := List.all_eq_true.1 this _ hm
        simp at this
      have hkl : k ≤ l.length := by omega
      clear hk2 hle hk
      go_wp2
      go_ret
      exact ⟨by unfold at32; rw [if_neg hm]; rfl, rfl⟩

theorem cutSp_none {l : Bs} (h : cutSp l = none) : (32 : UInt8) ∉ l := by
  induction l with
  | nil => simp
  | cons c r ih =>
    unfold cutSp at h
    by_cases e : c = 32
    · simp [e] at h
    · simp only [if_neg e, Option.map_eq_none_iff] at h
      simp [ih h, Ne.symm e]
theorem cutSp_some {l a b : Bs} (h : cutSp l = some (a, b)) : l = a ++ 32 :: b ∧ (32 : UInt8) ∉ a := by
  induction l generalizing a with
  | nil => simp [cutSp] at h
  | cons c r ih =>
    unfold cutSp at h
    by_cases e : c = 32
    · simp [e] at h; obtain ⟨rfl, rfl⟩ := h; simp [e]
    · simp only [if_neg e, Option.map_eq_some_iff] at h
      obtain ⟨⟨a', b'⟩, h1, h2⟩ := h
      obtain ⟨rfl, rfl⟩ : c :: a' = a ∧ b' = b := by simpa using h2
      obtain ⟨h3, h4⟩ := ih h1
      simp [h3, h4, Ne.symm e]
theorem at32_some {a b : Bs} (h : (32 : UInt8) ∉ a) : at32 (a ++ 32 :: b) = a.length := by
  unfold at32
  rw [if_pos (by simp)]
  have : (a ++ 32 :: b).takeWhile (· != 32) = a := by
    rw [List.takeWhile_append_of_pos (by intro x hx; simp; rintro rfl; exact h hx)]
    simp
  rw [this]
theorem cut_none (l : Bs) (w : World) (hl : l.length ≤ 1000000000) (h : cutSp l = none) :
    Calls Tryz.prog 103 #[S l, S [32]] w fun e w' => e = .returned (.tuple #[S l, S [], .bool false]) ∧ w = w' := by
  have h1 : at32 l = -1 := by unfold at32; rw [if_neg (cutSp_none h)]
  go_enter Tryz.func103, Tryz.ntmps103
  go_wp2_with fail
  refine (zz_any l _ hl).mono ?_
  rintro e w' ⟨rfl, rfl⟩
  rw [h1]
  clear h1 h
  go_wp2
  go_ret3
  exact ⟨rfl, rfl⟩
theorem cut_some (a b : Bs) (w : World) (hl : (a ++ 32 :: b).length ≤ 1000000000) (h : (32 : UInt8) ∉ a) :
    Calls Tryz.prog 103 #[S (a ++ 32 :: b), S [32]] w fun e w' => e = .returned (.tuple #[S a, S b, .bool true]) ∧ Below w.heap.size w w' := by
  have h1 : at32 (a ++ 32 :: b) = a.length := at32_some h
  go_enter Tryz.func103, Tryz.ntmps103
  go_wp2_with fail
  refine (zz_any _ _ hl).mono ?_
  rintro e w' ⟨rfl, rfl⟩
  rw [h1]
  simp only [List.length_append, List.length_cons] at hl
  clear h1 h
  go_wp2_with fail
  go_quiet (fail)
  go_wp2
  go_ret3
  refine ⟨?_, below_drewN _ _⟩
  have e : List.drop (a.length + 1) (List.take (a.length + (b.length + 1)) (a ++ 32 :: b)) = b := by
    rw [List.take_of_length_le (by simp)]; simp
  show Ending.returned (.tuple #[S a, S (List.drop (a.length + 1) (List.take (a.length + (b.length + 1)) (a ++ 32 :: b))), .bool true]) = _
  rw [e]
end Go.Proofs.YtghajgdiaopioaaGreatDoor
end
section
/- Walks: parsePoint. Conditions: stand in each contract. -/
namespace Go.Proofs.YtghajgdiaopioaaGreatDoor
open Go.RowKit Go.Proofs Tx
open Go.Proofs.YtghajgdiaopioaaGreatDoorW.PrintWords
/-- What is known of strconv.ParseFloat. -/
def PfOk (pf : Bs → Rd Nat) : Prop := ∀ l, pf l ≠ .err ∧ ∀ x B0 w, pf l = .ok x → l.length ≤ 1000000000 → Gl B0 w → 
  Calls Tryz.prog 104 #[S l, .int .i64 64] w fun e w' => e = .returned (.tuple #[.float .f64 x, .nilIface]) ∧ Below w.heap.size w w'
/-- A result beside an error; z is the result of its kind where there is one. -/
def Res {α : Type} (z : Value) (r : Rd α) (ok : α → Value → World → Prop) (e : Ending) (w' : World) : Prop :=
  match r with
  | .unk => True
  | .err => ∃ u v, e = .returned (.tuple #[z, .iface u v])
  | .ok a => ∃ x, e = .returned (.tuple #[x, .nilIface]) ∧ ok a x w'
def ptV (p : Pt) : Value := .agg #[.float .f64 p.1, .float .f64 p.2]

theorem cell_lt {w : World} {k : Nat} {v : Value} (h : w.cell? ⟨k, 0, none⟩ = some v) : k < w.heap.size := World.block_lt_of_cell? w _ h
theorem cell_alloc {w : World} {k : Nat} {v : Value} (h : w.cell? ⟨k, 0, none⟩ = some v) (o : Obj) : (w.alloc o).cell? ⟨k, 0, none⟩ = some v :=
  cell_below h (Below.alloc (Below.refl _ _) (Nat.le_refl _) o) (cell_lt h)
theorem below_alloc1 (w : World) (o : Obj) : Below w.heap.size w (w.alloc o) := Below.alloc (Below.refl _ _) (Nat.le_refl _) o

theorem size61 : (Tryz.prog.info? 61).map (·.size) = some 2 := by kernel_rfl
theorem bdrew {B : Nat} {w W : World} (h : Below B w W) : Below B w W.drew := ⟨h.os, h.tape, h.output, h.size, h.block⟩

theorem parseP_none (l : Bs) (w : World) (hl : l.length ≤ 1000000000) {B0 : Nat} (hg : Gl B0 w) (hc : cutSp l = none) :
    Calls Tryz.prog 76 #[S l] w fun e w' => (∃ u v, e = .returned (.tuple #[ptV (0, 0), .iface u v])) ∧ Below w.heap.size w w' := by
  obtain ⟨u, v, he4⟩ := hg.e4
  have hc4 := cell_alloc he4 (.cells #[.float .f64 0, .float .f64 0] 61 (0, 0))
  go_enter Tryz.func76, Tryz.ntmps76
  go_wp2_with fail
  refine (cut_none l _ hl hc).mono ?_
  rintro e w' ⟨rfl, rfl⟩
  go_wp2_with fail
  have hne : 4 ≠ w.heap.size := Nat.ne_of_lt (cell_lt he4)
  go_region
  go_wp2
  refine bodyPost_ret (results_ct rfl _ _ _ _ _ _ _ rfl (blk_drew (blk_new w _)) Tryz.underlying61 rfl size61) rfl ?_
  exact ⟨⟨_, _, rfl⟩, bdrew (below_alloc1 _ _)⟩
theorem two_facts {w : World} {b : Nat} {x y : Value} {t : TypeId} (h : w.heap[b]? = some (.cells #[x, y] t (0, 0))) :
    w.cell? ⟨b, 0, none⟩ = some x ∧ w.cell? ⟨b, 1, none⟩ = some y ∧ w.frozen? ⟨b, 0, none⟩ = false ∧ w.frozen? ⟨b, 1, none⟩ = false :=
  ⟨blk_cell h 0, blk_cell h 1, blk_frozen h 0, blk_frozen h 1⟩
theorem two_set {w : World} {b : Nat} {x y u v : Value} {t : TypeId} (h : w.heap[b]? = some (.cells #[x, y] t (0, 0))) :
    ((w.setCell ⟨b, 0, none⟩ u).setCell ⟨b, 1, none⟩ v).heap[b]? = some (.cells #[u, v] t (0, 0)) := blk_set (blk_set h 0 u) 1 v
theorem info61 : (Tryz.prog.info? 61).map (fun i => (i.zero, i.size, i.bytes)) = some (some (.agg #[.float .f64 0, .float .f64 0]), 2, 16) := by kernel_rfl

theorem parseP_some (pf : Bs → Rd Nat) (hpf : PfOk pf) (a b : Bs) (w : World) (hl : (a ++ 32 :: b).length ≤ 1000000000) {B0 : Nat} (hg : Gl B0 w) (h32 : (32 : UInt8) ∉ a) (x y : Nat) (ha : pf a = .ok x) (hb : pf b = .ok y) :
    Calls Tryz.prog 76 #[S (a ++ 32 :: b)] w fun e w' => e = .returned (.tuple #[ptV (x, y), .nilIface]) ∧ Below w.heap.size w w' := by
  have hla : a.length ≤ 1000000000 := by simp at hl; omega
  have hlb : b.length ≤ 1000000000 := by simp at hl; omega
  go_enter Tryz.func76, Tryz.ntmps76
  go_wp2_with fail
  refine (cut_some a b _ hl h32).mono ?_
  rintro e w1 ⟨rfl, hb1⟩
  have hg1 : Gl B0 w1 := (hg.low (below_alloc1 _ _)).low hb1
  have hB1 : Below w.heap.size w w1 := below_then (below_alloc1 _ _) (by simp) hb1
  have hk : w1.heap[w.heap.size]? = some (.cells #[.float .f64 0, .float .f64 0] 61 (0, 0)) := box_below (blk_new w _) hb1 (by simp)
  go_wp2_with fail
  refine ((hpf a).2 x _ _ ha hla hg1).mono ?_
  rintro e w2 ⟨rfl, hb2⟩
  go_wp2_with fail
  have hg2 : Gl B0 w2 := hg1.low hb2
  have hB2 : Below w.heap.size w w2 := below_then hB1 hB1.size hb2
  have hk2 := blk_below hk hb2
  refine ((hpf b).2 y _ _ hb hlb hg2).mono ?_
  rintro e w3 ⟨rfl, hb3⟩
  have hB3 : Below w.heap.size w w3 := below_then hB2 hB2.size hb3
  have hk3 := blk_below hk2 hb3
  obtain ⟨c0, c1, f0, f1⟩ := two_facts hk3
  have HK := Lib.hid hk3
  clear hb1 hb2 hb3 hg hg1 hg2 hB1 hB2 hk hk2 hl h32 hk3
  go_wp2
  refine bodyPost_ret (results_ct rfl _ _ _ _ _ _ _ rfl (two_set HK.out) Tryz.underlying61 rfl size61) rfl ?_
  exact ⟨rfl, (hB3.setCell (Nat.le_refl _) _).setCell (Nat.le_refl _) _⟩

/-- parsePoint. -/
theorem parseP_any (pf : Bs → Rd Nat) (hpf : PfOk pf) (l : Bs) (w : World) (hl : l.length ≤ 1000000000) {B0 : Nat} (hg : Gl B0 w) (r : Rd Pt) (h : parseP pf l = r) (hr : r ≠ .unk) :
    Calls Tryz.prog 76 #[S l] w fun e w' => Res (ptV (0, 0)) r (fun p x _ => x = ptV p) e w' ∧ Below w.heap.size w w' := by
  unfold parseP at h
  cases hc : cutSp l with
  | none =>
    rw [hc] at h
    subst h
    exact parseP_none l w hl hg hc
  | some ab =>
    obtain ⟨a, b⟩ := ab
    rw [hc] at h
    obtain ⟨rfl, h32⟩ := cutSp_some hc
    simp only [Rd.bind] at h
    cases ha : pf a with
    | unk => rw [ha] at h; exact absurd h.symm hr
    | err => exact absurd ha (hpf a).1
    | ok x =>
      cases hb : pf b with
      | unk => rw [ha, hb] at h; exact absurd h.symm hr
      | err => exact absurd hb (hpf b).1
      | ok y =>
        rw [ha, hb] at h
        subst h
        refine (parseP_some pf hpf a b w hl hg h32 x y ha hb).mono ?_
        rintro e w' ⟨rfl, hb⟩
        exact ⟨⟨_, rfl, rfl⟩, hb⟩
end Go.Proofs.YtghajgdiaopioaaGreatDoor
end
