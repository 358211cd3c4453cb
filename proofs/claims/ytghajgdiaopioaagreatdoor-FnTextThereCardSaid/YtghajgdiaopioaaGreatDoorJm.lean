/- Walks and plain laws joined (Wn, Wo, Wp). Conditions: stand in each law. -/
import Derived.Test.YtghajgdiaopioaaGreatDoorJh
import Derived.Test.YtghajgdiaopioaaGreatDoorJl
set_option linter.unusedVariables false
set_option linter.unusedSimpArgs false
section
/- Walks: upperPrefix and the test of a word. Conditions: stand in each contract. -/
namespace Go.Proofs.YtghajgdiaopioaaGreatDoor
open Go.RowKit Go.Proofs Tx
open Go.Proofs.YtghajgdiaopioaaGreatDoorW.PrintWords
def byteV (c : UInt8) : Value := .int .u8 c.toNat
def cellsB (cs : Bs) : Array Value := (cs.map byteV).toArray
/-- The first twenty signs in great letters, zeros behind. -/
def upK (s : Bs) (k : Nat) : Bs := (s.take k).map up ++ List.replicate (20 - k) 0
theorem upK_len (s : Bs) (k : Nat) (h : k ≤ s.length) (hk : k ≤ 20) : (upK s k).length = 20 := by simp [upK]; omega
theorem upK_set (s : Bs) (k : Nat) (h : k < s.length) (hk : k < 20) : (upK s k).set k (up s[k]) = upK s (k + 1) := by
  unfold upK
  rw [List.set_append_right _ _ (by simp; omega)]
  have e1 : k - (List.map up (List.take k s)).length = 0 := by simp; omega
  rw [e1, show 20 - k = (20 - (k + 1)) + 1 by omega, List.replicate_succ, List.set_cons_zero, List.take_add_one, List.getElem?_eq_getElem h]
  rw [List.map_append, List.append_assoc]
  rfl
theorem cellsB_set (cs : Bs) (k : Nat) (c : UInt8) : (cellsB cs).setIfInBounds k (byteV c) = cellsB (cs.set k c) := by
  unfold cellsB
  rw [List.setIfInBounds_toArray, List.map_set]
theorem cellsB_get (cs : Bs) (k : Nat) (h : k < cs.length) : (cellsB cs)[k]? = some (byteV cs[k]) := by
  simp [cellsB, h]

theorem up_val (c : UInt8) : byteV (up c) = if (97 : Int) ≤ c.toNat ∧ (c.toNat : Int) ≤ 122 then .int .u8 ((c.toNat : Int) - 32) else .int .u8 c.toNat := by
  unfold byteV
  rw [up_nat]
  by_cases h : 97 ≤ c.toNat ∧ c.toNat ≤ 122
  · rw [if_pos h, if_pos (by omega)]
    congr 1
    omega
  · rw [if_neg h, if_neg (by omega)]
theorem info5 : (Tryz.prog.info? 5).map (fun i => (i.zero, i.size, i.bytes)) = some (some (.int .u8 0), 1, 1) := by kernel_rfl

theorem made_zero (n : Nat) : madeCells (Value.int .u8 0).cells n = cellsB (List.replicate n 0) := by
  apply Array.ext
  · simp [madeCells, cellsB]
  · intro i h1 h2
    simp [madeCells, cellsB, byteV, Value.cells, Nat.mod_one]
set_option maxRecDepth 20000 in
theorem upper_any (s : Bs) (w : World) (hl : s.length ≤ 1000000000) :
    Calls Tryz.prog 51 #[S s] w fun e w' => e = .returned (.slice (some ⟨w.heap.size, 0, none⟩) 20 20) ∧ Below w.heap.size w w' ∧ w'.heap[w.heap.size]? = some (.cells (cellsB (upK s (min 20 s.length))) 5 (0, 0)) := by
  obtain ⟨i5, hi5, hz5, hs5, hb5⟩ := info_parts info5
  have hrun := run_make (P := Tryz.prog) w 92 5 i5 _ Tryz.underlying92 hi5 hz5 .i64 .i64 20 20 (by decide) (by decide) (by rw [hb5]; decide) (by decide)
  have hmc : madeCells (Value.int .u8 0).cells ((20 : Int).toNat * i5.size) = cellsB (upK s 0) := by
    rw [hs5]
    have : upK s 0 = List.replicate 20 0 := by simp [upK]
    rw [this]
    exact made_zero 20
  rw [hmc] at hrun
  have h0 : (w.alloc (.cells (cellsB (upK s 0)) 5)).heap[w.heap.size]? = some (.cells (cellsB (upK s 0)) 5 (0, 0)) := blk_new w _
  have hb0 := below_alloc1 w (.cells (cellsB (upK s 0)) 5)
  have H0 := Lib.hid h0
  have HB0 := Lib.hid hb0
  clear hmc h0 hb0
  go_enter Tryz.func51, Tryz.ntmps51
  go_wp2
  clear hrun
  go_loopw [4] (fun v4 wr => ∃ k : Nat, k ≤ 20 ∧ k ≤ s.length ∧ v4 = .int .i64 k ∧ Below w.heap.size w wr ∧ wr.heap[w.heap.size]? = some (.cells (cellsB (upK s k)) 5 (0, 0))) (fun v4 wr => 20 - (intOf v4).toNat)
  case atStart => exact ⟨0, by omega, by omega, rfl, HB0.out, H0.out⟩
  case round =>
    obtain ⟨k, hk1, hk2, rfl, hb, hc⟩ := hrel
    by_cases h20 : k < 20
    · by_cases hlt : k < s.length
      · obtain ⟨c, hcc⟩ : ∃ c : UInt8, ∀ h, (ByteArray.mk s.toArray)[k]'h = c := ⟨s[k], fun _ => rfl⟩
        have hsk : s[k] = c := hcc (by simpa [ByteArray.size] using hlt)
        have hlen := upK_len s k (by omega) (by omega)
        obtain ⟨old, hcell⟩ : ∃ old, wr.cell? ⟨w.heap.size, k, none⟩ = some old := ⟨_, (blk_cell hc k).trans (cellsB_get _ _ (by omega))⟩
        have hfz : wr.frozen? ⟨w.heap.size, k, none⟩ = false := blk_frozen hc k
        have hnew := blk_set hc k (byteV (up c))
        rw [cellsB_set, ← hsk, upK_set s k hlt h20, hsk, up_val] at hnew
        have HN := Lib.hid hnew
        have HB := Lib.hid hb
        clear hc hb hnew hsk hlen
        go_wp2
        all_goals
          have hn := HN.out
          first
          | rw [if_pos ⟨by omega, by omega⟩] at hn
          | rw [if_neg (by omega)] at hn
          exact ⟨⟨k + 1, by omega, by omega, by go_num, HB.out.setCell (Nat.le_refl _) _, hn⟩, by simp [intOf]; omega⟩
      · have hk : k = min 20 s.length := by omega
        have HK := Lib.hid hk
        have HB := Lib.hid hb
        have HC := Lib.hid hc
        clear hb hc hk
        go_wp2
        go_ret
        exact ⟨rfl, HB.out, by rw [← HK.out]; exact HC.out⟩
    · have hk : k = min 20 s.length := by omega
      have HK := Lib.hid hk
      have HB := Lib.hid hb
      have HC := Lib.hid hc
      clear hb hc hk
      go_wp2
      go_ret
      exact ⟨rfl, HB.out, by rw [← HK.out]; exact HC.out⟩

theorem prefix_up (s : Bs) (w : Bs) (hw : w.length ≤ 20) (h0 : (0 : UInt8) ∉ w) : Lib.hasPrefix (upK s (min 20 s.length)) w = hasW s w := by
  unfold Lib.hasPrefix hasW
  rw [Bool.eq_iff_iff, List.isPrefixOf_iff_prefix, List.prefix_iff_eq_take, beq_iff_eq]
  unfold upK
  by_cases h : w.length ≤ s.length
  · have e1 : ((s.take (min 20 s.length)).map up ++ List.replicate (20 - min 20 s.length) 0).take w.length = (s.take w.length).map up := by
      rw [List.take_append_of_le_length (by simp; omega), ← List.map_take, List.take_take, show min w.length (min 20 s.length) = w.length by omega]
    rw [e1]
    exact eq_comm
  · have h1 : ((s.take w.length).map up).length < w.length := by simp; omega
    constructor
    · intro e
      exfalso
      have h2 : ((s.take (min 20 s.length)).map up ++ List.replicate (20 - min 20 s.length) (0 : UInt8))[s.length]? = some 0 := by
        rw [List.getElem?_append_right (by simp; omega), List.getElem?_replicate, if_pos (by simp; omega)]
      have h3 : w[s.length]? = some 0 := by
        rw [e, List.getElem?_take, if_pos (by omega)]
        exact h2
      exact h0 (List.mem_of_getElem? h3)
    · intro e
      rw [← e] at h1
      simp at h1
theorem word_lim (k : Nat) : (word k).length ≤ 20 ∧ (0 : UInt8) ∉ word k := by
  match k with
  | 0 => decide
  | 1 => decide
  | 2 => decide
  | 3 => decide
  | 4 => decide
  | 5 => decide
  | 6 => decide
  | 7 => decide
  | n + 8 => exact (by decide : (word 0).length ≤ 20 ∧ (0 : UInt8) ∉ word 0)
def numsB (cs : Bs) : List Int := cs.map fun c => (c.toNat : Int)
theorem bytes_numsB (cs : Bs) : Lib.bytesOf (numsB cs) = cs := by
  unfold Lib.bytesOf numsB
  rw [List.map_map]
  conv => rhs; rw [← List.map_id cs]
  apply List.map_congr_left
  intro c _
  simp
theorem cells_numsB {w : World} {b : Nat} {cs : Bs} {fr : Nat × Nat} (h : w.heap[b]? = some (.cells (cellsB cs) 5 fr)) (i : Nat) (hi : i < cs.length) : w.cell? ⟨b, 0 + i, none⟩ = some (.int .u8 ((numsB cs).getD i 0)) := by
  rw [Nat.zero_add, cell_of_row w b i _ _ fr h, cellsB_get cs i hi]
  simp [numsB, byteV, List.getD, hi]
/-- Does the text begin with the word? -/
theorem hasW_any (s : Bs) (k : Nat) (w : World) (b1 b2 : Nat) {fr : Nat × Nat} (h1 : w.heap[b1]? = some (.cells (cellsB (upK s (min 20 s.length))) 5 (0, 0))) (h2 : w.heap[b2]? = some (.cells (cellsB (word k)) 5 fr)) :
    Calls Tryz.prog 52 #[.slice (some ⟨b1, 0, none⟩) 20 20, .slice (some ⟨b2, 0, none⟩) (word k).length (word k).length] w fun e w' => e = .returned (.bool (hasW s (word k))) ∧ w = w' := by
  have hl := upK_len s (min 20 s.length) (by omega) (by omega)
  refine (Tryz.bytes_HasPrefix b1 0 20 20 b2 0 _ _ (numsB (upK s (min 20 s.length))) (numsB (word k)) w (by simp [numsB, hl]) (by simp [numsB]) (by omega) (fun i hi => cells_numsB h1 i (by omega)) (fun i hi => cells_numsB h2 i hi)).mono ?_
  rintro e w' ⟨rfl, rfl⟩
  rw [bytes_numsB, bytes_numsB, prefix_up s _ (word_lim k).1 (word_lim k).2]
  exact ⟨rfl, rfl⟩
/-! Walks: splitGeometryCollection. -/
def bsK : Kd Bs := Kd.scalar (fun l => S l) (fun _ => rfl)
theorem info9 : (Tryz.prog.info? 9).map (fun i => (i.zero, i.size, i.bytes)) = some (some (S []), 1, 16) := by kernel_rfl
/-- Where splitGeometryCollection stands. -/
structure GSt (l : Bs) (done : List Bs) (st : Nat) (d : Int) (i : Nat) : Prop where
  si : st ≤ i
  il : i ≤ l.length
  dl : done.length ≤ i
  d1 : -(i : Int) ≤ d
  d2 : d ≤ i
  eq : done ++ goG ((l.take i).drop st) d (l.drop i) = splitG l
theorem GSt.start (l : Bs) : GSt l [] 0 0 0 := ⟨by simp, by simp, by simp, by simp, by simp, by simp [splitG]⟩
theorem GSt.open_ {l : Bs} {done : List Bs} {st i : Nat} {d : Int} (h : GSt l done st d i) (hi : i < l.length) (hc : l[i] = 40) : GSt l done st (d + 1) (i + 1) := by
  obtain ⟨h1, h2, h3, h4, h5, h6⟩ := h
  refine ⟨by omega, by omega, by omega, by omega, by omega, ?_⟩
  rw [← h6, List.drop_eq_getElem_cons hi, hc]
  conv => rhs; rw [goG, if_pos rfl]
  rw [take_drop_snoc h1 hi, hc]
theorem GSt.shut {l : Bs} {done : List Bs} {st i : Nat} {d : Int} (h : GSt l done st d i) (hi : i < l.length) (hc : l[i] = 41) : GSt l done st (d - 1) (i + 1) := by
  obtain ⟨h1, h2, h3, h4, h5, h6⟩ := h
  refine ⟨by omega, by omega, by omega, by omega, by omega, ?_⟩
  rw [← h6, List.drop_eq_getElem_cons hi, hc]
  conv => rhs; rw [goG, if_neg (by decide), if_pos rfl]
  rw [take_drop_snoc h1 hi, hc]
theorem GSt.comma {l : Bs} {done : List Bs} {st i : Nat} (h : GSt l done st 0 i) (hi : i < l.length) (hc : l[i] = 44) : GSt l (done ++ [trim ((l.take i).drop st)]) (i + 1) 0 (i + 1) := by
  obtain ⟨h1, h2, h3, h4, h5, h6⟩ := h
  refine ⟨by omega, by omega, by simp; omega, by omega, by omega, ?_⟩
  rw [← h6, List.drop_eq_getElem_cons hi, hc]
  conv => rhs; rw [goG, if_neg (by decide), if_neg (by decide), if_pos rfl, if_pos rfl]
  simp
theorem GSt.inner {l : Bs} {done : List Bs} {st i : Nat} {d : Int} (h : GSt l done st d i) (hi : i < l.length) (hc : l[i] = 44) (hd : d ≠ 0) : GSt l done st d (i + 1) := by
  obtain ⟨h1, h2, h3, h4, h5, h6⟩ := h
  refine ⟨by omega, by omega, by omega, by omega, by omega, ?_⟩
  rw [← h6, List.drop_eq_getElem_cons hi, hc]
  conv => rhs; rw [goG, if_neg (by decide), if_neg (by decide), if_pos rfl, if_neg hd]
  rw [take_drop_snoc h1 hi, hc]
theorem GSt.plain {l : Bs} {done : List Bs} {st i : Nat} {d : Int} (h : GSt l done st d i) (hi : i < l.length) (h40 : l[i] ≠ 40) (h41 : l[i] ≠ 41) (h44 : l[i] ≠ 44) : GSt l done st d (i + 1) := by
  obtain ⟨h1, h2, h3, h4, h5, h6⟩ := h
  refine ⟨by omega, by omega, by omega, by omega, by omega, ?_⟩
  rw [← h6, List.drop_eq_getElem_cons hi]
  conv => rhs; rw [goG, if_neg h40, if_neg h41, if_neg h44]
  rw [take_drop_snoc h1 hi]
theorem GSt.last {l : Bs} {done : List Bs} {st i : Nat} {d : Int} (h : GSt l done st d i) (hi : ¬ i < l.length) : splitG l = done ++ [trim (l.drop st)] := by
  obtain ⟨h1, h2, h3, h4, h5, h6⟩ := h
  have : i = l.length := by omega
  subst this
  rw [← h6]
  simp [goG]

theorem sgc_none (l : Bs) (w : World) {B0 : Nat} (hl : l.length ≤ 1000000000) (hg : Gl B0 w) (hm : trimBr l = none) :
    Calls Tryz.prog 94 #[S l] w fun e w' => (∃ u v, e = .returned (.tuple #[.slice none 0 0, .iface u v])) ∧ Below w.heap.size w w' := by
  go_enter Tryz.func94, Tryz.ntmps94
  go_wp2_with fail
  refine (trimBr_none l _ hl hg hm).mono ?_
  rintro e w1 ⟨⟨u, v, rfl⟩, hb1⟩
  have HM := Lib.hid hm
  have HB1 := Lib.hid hb1
  clear hm hb1
  go_wp2
  go_ret2
  exact ⟨⟨_, _, rfl⟩, HB1.out⟩

set_option maxRecDepth 20000 in
set_option maxHeartbeats 1000000 in
theorem sgc_some (l m : Bs) (w : World) (hl : l.length ≤ 1000000000) (hm : trimBr l = some m) :
    Calls Tryz.prog 94 #[S l] w fun e w' => ∃ x, e = .returned (.tuple #[x, .nilIface]) ∧ bsK.R 9 w' w.heap.size (fun _ => True) x (splitG m) ∧ Below w.heap.size w w' := by
  have hml : m.length ≤ 1000000000 := Nat.le_trans (trimBr_le hm) hl
  have hb := trimBr_some l m w hl hm
  clear hm
  go_enter Tryz.func94, Tryz.ntmps94
  go_wp2_with fail
  refine hb.mono ?_
  rintro e w1 ⟨rfl, rfl⟩
  clear hb
  go_wp2_with (at_make; go_loud (refine make0 bsK _ rfl _ _ 46 rfl 9 _ _ Tryz.underlying46 info9 0 0 rfl rfl rfl (by omega) (by omega) ?_))
  intro w1 hsz hb1 hR
  have HR := Lib.hid (hR w.heap.size (fun _ => True) (Nat.le_refl _) trivial)
  have HB1 := Lib.hid hb1
  clear hR hb1
  go_wp2
  go_loopw [5, 6, 7, 8] (fun v5 v6 v7 v8 wr => ∃ (A : Option Addr) (k c : Nat) (d : Int) (st i : Nat) (done : List Bs), v5 = .slice A k c ∧ v6 = .int .i64 d ∧ v7 = .int .i64 st ∧ v8 = .int .i64 i ∧ GSt m done st d i ∧ bsK.R 9 wr w.heap.size (fun _ => True) (.slice A k c) done ∧ Below w.heap.size w wr) (fun v5 v6 v7 v8 wr => m.length - (intOf v8).toNat)
  case atStart => exact ⟨_, _, _, 0, 0, 0, [], rfl, rfl, rfl, rfl, GSt.start m, HR.out, HB1.out⟩
  case round =>
    obtain ⟨A, k, c, d, st, i, done, rfl, rfl, rfl, rfl, hst, hR, hb⟩ := hrel
    have h1 := hst.si
    have h2 := hst.il
    have h3 := hst.dl
    have h4 := hst.d1
    have h5 := hst.d2
    have HR2 := Lib.hid hR
    have HB2 := Lib.hid hb
    have hsz2 := hb.size
    clear hR hb
    by_cases hlt : i < m.length
    · obtain ⟨x, hx⟩ : ∃ x : UInt8, ∀ h, (ByteArray.mk m.toArray)[i]'h = x := ⟨m[i], fun _ => rfl⟩
      have hmx : m[i] = x := hx (by simpa [ByteArray.size] using hlt)
      by_cases h40 : x = 40
      · subst h40
        have HS := Lib.hid (hst.open_ hlt hmx)
        clear hst hmx
        go_wp2
        exact ⟨⟨A, k, c, d + 1, st, i + 1, done, rfl, by go_num, rfl, by go_num, HS.out, HR2.out, HB2.out⟩, by simp [intOf]; omega⟩
      · by_cases h41 : x = 41
        · subst h41
          have HS := Lib.hid (hst.shut hlt hmx)
          clear hst hmx
          go_wp2
          exact ⟨⟨A, k, c, d - 1, st, i + 1, done, rfl, by go_num, rfl, by go_num, HS.out, HR2.out, HB2.out⟩, by simp [intOf]; omega⟩
        · by_cases h44 : x = 44
          · subst h44
            by_cases hd : d = 0
            · subst hd
              have HS := Lib.hid (hst.comma hlt hmx)
              clear hst hmx
              go_wp2_with fail
              refine (trim_any ((m.take i).drop st) _ (by simp; omega)).mono ?_
              rintro e w' ⟨rfl, rfl⟩
              obtain ⟨t, ht⟩ : ∃ t, t = trim ((m.take i).drop st) := ⟨_, rfl⟩
              rw [← ht]
              have HT := Lib.hid ht
              clear ht
              go_wp2_with (at_builtin; go_loud (refine Kd.R_append bsK (w0 := w) w.heap.size rfl (.tmp 39) (.tmp 45) 46 9 (S []) 16 rfl Tryz.underlying46 info9 rfl (by decide) (by decide) (.slice A k c) done t [S t] (fun _ => True) (fun _ => False) rfl (by simp [Act.eval]) ?hp ?hokp ?hfresh ?HO ?HB ?hbase ?hl ?_))
              case hp => exact rfl
              case hokp => exact fun _ h => h.elim
              case hfresh => exact fun _ _ => trivial
              case HO => exact HR2.out
              case HB => exact HB2.out
              case hbase => omega
              case hl => omega
              intro v1 w3 hR4 hb5 hg5 hat5
              obtain ⟨A1, n1, c1, rfl⟩ := R_sl hR4
              rw [HT.out] at hR4
              have HR4 := Lib.hid hR4
              have HB5 := Lib.hid hb5
              clear hR4 hb5 hg5 hat5
              go_wp2
              exact ⟨⟨A1, n1, c1, 0, i + 1, i + 1, _, rfl, rfl, by go_num, by go_num, HS.out, HR4.out, HB5.out⟩, by simp [intOf]; omega⟩
            · have hd0 : (d == 0) = false := by rw [beq_eq_false_iff_ne]; exact hd
              have HS := Lib.hid (hst.inner hlt hmx hd)
              clear hst hmx hd
              go_wp2
              exact ⟨⟨A, k, c, d, st, i + 1, done, rfl, rfl, rfl, by go_num, HS.out, HR2.out, HB2.out⟩, by simp [intOf]; omega⟩
          · have HS := Lib.hid (hst.plain hlt (by rw [hmx]; exact h40) (by rw [hmx]; exact h41) (by rw [hmx]; exact h44))
            have t1 := beq40 h40
            have t2 := beq41 h41
            have t3 := beq44 h44
            clear hst hmx h40 h41 h44
            go_wp2
            exact ⟨⟨A, k, c, d, st, i + 1, done, rfl, rfl, rfl, by go_num, HS.out, HR2.out, HB2.out⟩, by simp [intOf]; omega⟩
    · have HL := Lib.hid (hst.last hlt)
      clear hst
      go_wp2_with fail
      refine (trim_any (m.drop st) _ (by simp; omega)).mono ?_
      rintro e w' ⟨rfl, rfl⟩
      obtain ⟨t, ht⟩ : ∃ t, t = trim (m.drop st) := ⟨_, rfl⟩
      rw [← ht]
      have HT := Lib.hid ht
      clear ht
      go_wp2_with (at_builtin; go_loud (refine Kd.R_append bsK (w0 := w) w.heap.size rfl (.tmp 49) (.tmp 54) 46 9 (S []) 16 rfl Tryz.underlying46 info9 rfl (by decide) (by decide) (.slice A k c) done t [S t] (fun _ => True) (fun _ => False) rfl (by simp [Act.eval]) ?hp ?hokp ?hfresh ?HO ?HB ?hbase ?hl ?_))
      case hp => exact rfl
      case hokp => exact fun _ h => h.elim
      case hfresh => exact fun _ _ => trivial
      case HO => exact HR2.out
      case HB => exact HB2.out
      case hbase => omega
      case hl => omega
      intro v1 w3 hR4 hb5 hg5 hat5
      obtain ⟨A1, n1, c1, rfl⟩ := R_sl hR4
      rw [HT.out, ← HL.out] at hR4
      have HR4 := Lib.hid hR4
      have HB5 := Lib.hid hb5
      clear hR4 hb5 hg5 hat5
      go_wp2
      go_ret2
      exact ⟨_, rfl, HR4.out, HB5.out⟩
/-! The kind of a geometry's value; walks: unmarshalCollection, Unmarshal. -/
/-- A value of one cell behind an interface. -/
def ifK {α : Type} (t : TypeId) (d : Kd α) : Kd α where
  sz := 1
  E := d.E
  K := fun w x cs => ∃ v, cs = [.iface t v] ∧ d.K w x [v]
  M := fun w base ok x cs => ∃ v, cs = [.iface t v] ∧ d.M w base ok x [v]
  K_len := by
    rintro w x cs ⟨v, rfl, _⟩
    rfl
  K_one := by
    rintro w x cs ⟨v, rfl, _⟩ u hu
    rw [List.mem_singleton.1 hu]
    rfl
  K_below := by
    rintro w w1 x cs hb ⟨v, rfl, h⟩
    exact ⟨v, rfl, d.K_below hb h⟩
  K_of_M := by
    rintro w base ok x cs ⟨v, rfl, h⟩
    exact ⟨v, rfl, d.K_of_M h⟩
  M_mono := by
    rintro w base ok ok' x cs hok ⟨v, rfl, h⟩
    exact ⟨v, rfl, d.M_mono hok h⟩
  M_bound := by
    rintro w base ok x cs ⟨v, rfl, h⟩
    exact ⟨v, rfl, d.M_bound h⟩
  M_move := by
    rintro w w1 base ok x cs hm ⟨v, rfl, h⟩
    exact ⟨v, rfl, d.M_move hm h⟩
  M_lower := by
    rintro w base base' ok x cs hb ⟨v, rfl, h⟩
    exact ⟨v, rfl, d.M_lower hb h⟩
/-- A point behind an interface. -/
def ptI : Kd Pt := Kd.scalar (fun p => .iface 61 (ptV p)) (fun _ => rfl)
def ringsK : Kd (List (List Pt)) := Kd.slice 65 lineK
def polysK : Kd (List (List (List Pt))) := Kd.slice 69 polyK
def geoE : List Nat := [61, 65, 117, 69, 52]
def geoF (sub : Kd Geo) : Kd Geo where
  sz := 1
  E := geoE ++ sub.E
  K := fun w g cs => match g with
    | .point p => ptI.K w p cs
    | .line ps => (ifK 65 lineK).K w ps cs
    | .poly rs => (ifK 69 polyK).K w rs cs
    | .mpoint ps => (ifK 72 lineK).K w ps cs
    | .mline ls => (ifK 76 ringsK).K w ls cs
    | .mpoly qs => (ifK 80 polysK).K w qs cs
    | .coll gs => (ifK 84 (Kd.slice 52 sub)).K w gs cs
  M := fun w base ok g cs => match g with
    | .point p => ptI.M w base ok p cs
    | .line ps => (ifK 65 lineK).M w base ok ps cs
    | .poly rs => (ifK 69 polyK).M w base ok rs cs
    | .mpoint ps => (ifK 72 lineK).M w base ok ps cs
    | .mline ls => (ifK 76 ringsK).M w base ok ls cs
    | .mpoly qs => (ifK 80 polysK).M w base ok qs cs
    | .coll gs => (ifK 84 (Kd.slice 52 sub)).M w base ok gs cs
  K_len := by
    intro w g cs h
    cases g with
    | point p => exact ptI.K_len h
    | line ps => exact (ifK 65 lineK).K_len h
    | poly ps => exact (ifK 69 polyK).K_len h
    | mpoint ps => exact (ifK 72 lineK).K_len h
    | mline ps => exact (ifK 76 ringsK).K_len h
    | mpoly ps => exact (ifK 80 polysK).K_len h
    | coll gs => exact (ifK 84 (Kd.slice 52 sub)).K_len h
  K_one := by
    intro w g cs h
    cases g with
    | point p => exact ptI.K_one h
    | line ps => exact (ifK 65 lineK).K_one h
    | poly ps => exact (ifK 69 polyK).K_one h
    | mpoint ps => exact (ifK 72 lineK).K_one h
    | mline ps => exact (ifK 76 ringsK).K_one h
    | mpoly ps => exact (ifK 80 polysK).K_one h
    | coll gs => exact (ifK 84 (Kd.slice 52 sub)).K_one h
  K_below := by
    intro w w1 g cs hb h
    cases g with
    | point p => exact ptI.K_below hb h
    | line ps => exact (ifK 65 lineK).K_below hb h
    | poly ps => exact (ifK 69 polyK).K_below hb h
    | mpoint ps => exact (ifK 72 lineK).K_below hb h
    | mline ps => exact (ifK 76 ringsK).K_below hb h
    | mpoly ps => exact (ifK 80 polysK).K_below hb h
    | coll gs => exact (ifK 84 (Kd.slice 52 sub)).K_below hb h
  K_of_M := by
    intro w base ok g cs h
    cases g with
    | point p => exact ptI.K_of_M h
    | line ps => exact (ifK 65 lineK).K_of_M h
    | poly ps => exact (ifK 69 polyK).K_of_M h
    | mpoint ps => exact (ifK 72 lineK).K_of_M h
    | mline ps => exact (ifK 76 ringsK).K_of_M h
    | mpoly ps => exact (ifK 80 polysK).K_of_M h
    | coll gs => exact (ifK 84 (Kd.slice 52 sub)).K_of_M h
  M_mono := by
    intro w base ok ok' g cs hok h
    cases g with
    | point p => exact ptI.M_mono hok h
    | line ps => exact (ifK 65 lineK).M_mono hok h
    | poly ps => exact (ifK 69 polyK).M_mono hok h
    | mpoint ps => exact (ifK 72 lineK).M_mono hok h
    | mline ps => exact (ifK 76 ringsK).M_mono hok h
    | mpoly ps => exact (ifK 80 polysK).M_mono hok h
    | coll gs => exact (ifK 84 (Kd.slice 52 sub)).M_mono hok h
  M_bound := by
    intro w base ok g cs h
    have wide : ∀ (E : List Nat), (∀ q, q ∈ E → q ∈ geoE ++ sub.E) → ∀ k, (ok k ∧ base ≤ k ∧ k < w.heap.size ∧ ∃ q, q ∈ E ∧ ∃ cells, w.heap[k]? = some (.cells cells q (0, 0))) → (ok k ∧ base ≤ k ∧ k < w.heap.size ∧ ∃ q, q ∈ geoE ++ sub.E ∧ ∃ cells, w.heap[k]? = some (.cells cells q (0, 0))) :=
      fun E hE k ⟨h1, h2, h3, q, hq, hc⟩ => ⟨h1, h2, h3, q, hE q hq, hc⟩
    cases g with
    | point p => exact ptI.M_mono (wide ptI.E (by intro q hq; cases hq)) (ptI.M_bound h)
    | line ps => exact (ifK 65 lineK).M_mono (wide (ifK 65 lineK).E (by intro q hq; simp [ifK, lineK, Kd.slice, ptK, Kd.pair, floK, Kd.scalar, geoE] at hq ⊢; omega)) ((ifK 65 lineK).M_bound h)
    | poly ps => exact (ifK 69 polyK).M_mono (wide (ifK 69 polyK).E (by intro q hq; simp [ifK, polyK, lineK, Kd.slice, ptK, Kd.pair, floK, Kd.scalar, geoE] at hq ⊢; omega)) ((ifK 69 polyK).M_bound h)
    | mpoint ps => exact (ifK 72 lineK).M_mono (wide (ifK 72 lineK).E (by intro q hq; simp [ifK, lineK, Kd.slice, ptK, Kd.pair, floK, Kd.scalar, geoE] at hq ⊢; omega)) ((ifK 72 lineK).M_bound h)
    | mline ps => exact (ifK 76 ringsK).M_mono (wide (ifK 76 ringsK).E (by intro q hq; simp [ifK, ringsK, lineK, Kd.slice, ptK, Kd.pair, floK, Kd.scalar, geoE] at hq ⊢; omega)) ((ifK 76 ringsK).M_bound h)
    | mpoly ps => exact (ifK 80 polysK).M_mono (wide (ifK 80 polysK).E (by intro q hq; simp [ifK, polysK, polyK, lineK, Kd.slice, ptK, Kd.pair, floK, Kd.scalar, geoE] at hq ⊢; omega)) ((ifK 80 polysK).M_bound h)
    | coll gs => exact (ifK 84 (Kd.slice 52 sub)).M_mono (wide (ifK 84 (Kd.slice 52 sub)).E (by
        intro q hq
        rcases List.mem_cons.1 hq with rfl | hq
        · simp [geoE]
        · exact List.mem_append_right _ hq)) ((ifK 84 (Kd.slice 52 sub)).M_bound h)
  M_move := by
    intro w w1 base ok g cs hm h
    cases g with
    | point p => exact ptI.M_move hm h
    | line ps => exact (ifK 65 lineK).M_move hm h
    | poly ps => exact (ifK 69 polyK).M_move hm h
    | mpoint ps => exact (ifK 72 lineK).M_move hm h
    | mline ps => exact (ifK 76 ringsK).M_move hm h
    | mpoly ps => exact (ifK 80 polysK).M_move hm h
    | coll gs => exact (ifK 84 (Kd.slice 52 sub)).M_move hm h
  M_lower := by
    intro w base base' ok g cs hb h
    cases g with
    | point p => exact ptI.M_lower hb h
    | line ps => exact (ifK 65 lineK).M_lower hb h
    | poly ps => exact (ifK 69 polyK).M_lower hb h
    | mpoint ps => exact (ifK 72 lineK).M_lower hb h
    | mline ps => exact (ifK 76 ringsK).M_lower hb h
    | mpoly ps => exact (ifK 80 polysK).M_lower hb h
    | coll gs => exact (ifK 84 (Kd.slice 52 sub)).M_lower hb h
/-- Geometries nested at most n deep. -/
def geoK : Nat → Kd Geo
  | 0 => Kd.bot 1 []
  | n + 1 => geoF (geoK n)
theorem geoK_sz (n : Nat) : (geoK n).sz = 1 := by cases n <;> rfl

theorem info52 : (Tryz.prog.info? 52).map (fun i => (i.zero, i.size, i.bytes)) = some (some .nilIface, 1, 16) := by kernel_rfl
/-- What is known of Unmarshal at depth n. -/
def UnmOk (pf : Bs → Rd Nat) (n : Nat) : Prop := ∀ (s : Bs) (w : World) (B0 : Nat) (r : Rd Geo), Gl B0 w → s.length ≤ 1000000000 → Asc s → readG pf n s = r → r ≠ .unk →
  Calls Tryz.prog 32 #[S s] w fun e w' => Res .nilIface r (fun g x w' => (geoK n).M w' w.heap.size (fun _ => True) g [x]) e w' ∧ Below w.heap.size w w'
/-- Where the loop over the members stands. -/
structure CoSt {α : Type} (f : Bs → Rd α) (ps : List Bs) (R : Rd (List α)) (done : List α) (j : Nat) : Prop where
  jm : j ≤ ps.length
  dl : done.length = j
  eq : (mapR f (ps.drop j)).map (done ++ ·) = R
theorem CoSt.start {α : Type} {f : Bs → Rd α} {ps : List Bs} {R : Rd (List α)} (h : mapR f ps = R) : CoSt f ps R [] 0 := ⟨Nat.zero_le _, rfl, by rw [List.drop_zero, h]; cases R <;> simp [Rd.map]⟩
theorem CoSt.next {α : Type} {f : Bs → Rd α} {ps : List Bs} {R : Rd (List α)} {done : List α} {j : Nat} (h : CoSt f ps R done j) (hj : j < ps.length) (hR : R ≠ .unk) :
    f ps[j] ≠ .unk ∧ (f ps[j] = .err → R = .err) ∧ ∀ a, f ps[j] = .ok a → CoSt f ps R (done ++ [a]) (j + 1) := by
  obtain ⟨h1, h2, h4⟩ := h
  rw [List.drop_eq_getElem_cons hj] at h4
  simp only [mapR] at h4
  refine ⟨?_, ?_, ?_⟩
  · intro e0; rw [e0] at h4; exact hR h4.symm
  · intro e0; rw [e0] at h4; exact h4.symm
  · intro a e0
    rw [e0] at h4
    simp only [Rd.bind, map_map] at h4
    refine ⟨by omega, by simp; omega, ?_⟩
    rw [← h4]
    simp [Function.comp_def]
theorem CoSt.last {α : Type} {f : Bs → Rd α} {ps : List Bs} {R : Rd (List α)} {done : List α} {j : Nat} (h : CoSt f ps R done j) (hj : ¬ j < ps.length) : R = .ok done := by
  obtain ⟨h1, h2, h4⟩ := h
  have : j = ps.length := by omega
  subst this
  rw [List.drop_length] at h4
  rw [← h4]
  simp [mapR, Rd.map]
theorem trim_mem {l : Bs} {x : UInt8} (h : x ∈ trim l) : x ∈ l := by
  rw [trim_cut] at h
  split at h
  · cases h
  · exact List.mem_of_mem_take (List.mem_of_mem_drop h)
theorem trimBr_mem {l m : Bs} (h : trimBr l = some m) {x : UInt8} (hx : x ∈ m) : x ∈ l := by
  unfold trimBr at h
  cases ht : trim l with
  | nil => rw [ht] at h; simp at h; subst h; cases hx
  | cons c r =>
    rw [ht] at h
    simp only at h
    split at h
    · split at h
      · simp only [Option.some.injEq] at h
        subst h
        have h1 := trim_mem hx
        have h2 : x ∈ trim l := by rw [ht]; exact List.mem_cons_of_mem _ (List.dropLast_subset _ h1)
        exact trim_mem h2
      · cases h
    · cases h
theorem goG_asc : ∀ (l : Bs) (cur : Bs) (d : Int), Asc cur → Asc l → ∀ p ∈ goG cur d l, Asc p ∧ p.length ≤ cur.length + l.length
  | [], cur, d, hc, hl, p, hp => by
    unfold goG at hp
    rw [List.mem_singleton.1 hp]
    exact ⟨fun x hx => hc x (trim_mem hx), by have := trim_le cur; simp; omega⟩
  | c :: r, cur, d, hc, hl, p, hp => by
    have hr : Asc r := fun x hx => hl x (List.mem_cons_of_mem _ hx)
    have hcc : Asc (cur ++ [c]) := fun x hx => by
      rcases List.mem_append.1 hx with hx | hx
      · exact hc x hx
      · rw [List.mem_singleton.1 hx]; exact hl c List.mem_cons_self
    have st : ∀ d', p ∈ goG (cur ++ [c]) d' r → Asc p ∧ p.length ≤ cur.length + (c :: r).length := fun d' h => by
      have := goG_asc r (cur ++ [c]) d' hcc hr p h
      simp at this ⊢
      exact ⟨this.1, by omega⟩
    unfold goG at hp
    split at hp
    · exact st _ hp
    · split at hp
      · exact st _ hp
      · split at hp
        · split at hp
          · rcases List.mem_cons.1 hp with rfl | hp
            · exact ⟨fun x hx => hc x (trim_mem hx), by have := trim_le cur; simp; omega⟩
            · have := goG_asc r [] 0 (fun x hx => by cases hx) hr p hp
              simp at this ⊢
              exact ⟨this.1, by omega⟩
          · exact st _ hp
        · exact st _ hp
end Go.Proofs.YtghajgdiaopioaaGreatDoor
end
