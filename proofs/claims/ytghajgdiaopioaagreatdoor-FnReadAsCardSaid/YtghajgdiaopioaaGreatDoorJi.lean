/- Walks and plain laws joined (Wo, Wp, Wq). Conditions: stand in each law. -/
import Derived.Test.YtghajgdiaopioaaGreatDoorJf
import Derived.Test.YtghajgdiaopioaaGreatDoorJh
/- Walks: splitGeometryCollection. Conditions: stand in each contract. -/
section
set_option linter.unusedVariables false
set_option linter.unusedSimpArgs false
namespace Go.Proofs.YtghajgdiaopioaaGreatDoor
open Go.RowKit Go.Proofs Tx
open Go.Proofs.YtghajgdiaopioaaGreatDoorW.PrintWords

theorem take_drop_snoc' {l : Bs} {e i : Nat} (he : e ≤ i) (hi : i < l.length) : (l.take (i + 1)).drop e = (l.take i).drop e ++ [l[i]] := take_drop_snoc he hi
def bsK : Kd Bs := Kd.scalar (fun l => S l) (fun _ => rfl)
theorem info9 : (Tryz.prog.info? 9).map (fun i => (i.zero, i.size, i.bytes)) = some (some (S []), 1, 16) := by kernel_rfl
/-- Where splitGeometryCollection stands. -/
structure GSt (l : Bs) (done : List Bs) (st : Nat) (d : Int) (i : Nat) : Prop where
  si : st ≤ i
  il : i ≤ l.length
  dl : done.length ≤ i
  d1 : -(i : Int) ≤ d
  d2 : d ≤ i
  eq : done ++ goG ((l.take i).drop st) d (l.drop i) = splitG l
theorem GSt.start (l : Bs) : GSt l [] 0 0 0 := ⟨by simp, by simp, by simp, by simp, by simp, by simp [splitG]⟩
theorem GSt.open_ {l : Bs} {done : List Bs} {st i : Nat} {d : Int} (h : GSt l done st d i) (hi : i < l.length) (hc : l[i] = 40) : GSt l done st (d + 1) (i + 1) := by
  obtain ⟨h1, h2, h3, h4, h5, h6⟩ := h
  refine ⟨by omega, by omega, by omega, by omega, by omega, ?_⟩
  rw [← h6, List.drop_eq_getElem_cons hi, hc]
  conv => rhs; rw [goG, if_pos rfl]
  rw [take_drop_snoc h1 hi, hc]
theorem GSt.shut {l : Bs} {done : List Bs} {st i : Nat} {d : Int} (h : GSt l done st d i) (hi : i < l.length) (hc : l[i] = 41) : GSt l done st (d - 1) (i + 1) := by
  obtain ⟨h1, h2, h3, h4, h5, h6⟩ := h
  refine ⟨by omega, by omega, by omega, by omega, by omega, ?_⟩
  rw [← h6, List.drop_eq_getElem_cons hi, hc]
  conv => rhs; rw [goG, if_neg (by decide), if_pos rfl]
  rw [take_drop_snoc h1 hi, hc]
theorem GSt.comma {l : Bs} {done : List Bs} {st i : Nat} (h : GSt l done st 0 i) (hi : i < l.length) (hc : l[i] = 44) : GSt l (done ++ [trim ((l.take i).drop st)]) (i + 1) 0 (i + 1) := by
  obtain ⟨h1, h2, h3, h4, h5, h6⟩ := h
  refine ⟨by omega, by omega, by simp; omega, by omega, by omega, ?_⟩
  rw [← h6, List.drop_eq_getElem_cons hi, hc]
  conv => rhs; rw [goG, if_neg (by decide), if_neg (by decide), if_pos rfl, if_pos rfl]
  simp
theorem GSt.inner {l : Bs} {done : List Bs} {st i : Nat} {d : Int} (h : GSt l done st d i) (hi : i < l.length) (hc : l[i] = 44) (hd : d ≠ 0) : GSt l done st d (i + 1) := by
  obtain ⟨h1, h2, h3, h4, h5, h6⟩ := h
  refine ⟨by omega, by omega, by omega, by omega, by omega, ?_⟩
  rw [← h6, List.drop_eq_getElem_cons hi, hc]
  conv => rhs; rw [goG, if_neg (by decide), if_neg (by decide), if_pos rfl, if_neg hd]
  rw [take_drop_snoc h1 hi, hc]
theorem GSt.plain {l : Bs} {done : List Bs} {st i : Nat} {d : Int} (h : GSt l done st d i) (hi : i < l.length) (h40 : l[i] ≠ 40) (h41 : l[i] ≠ 41) (h44 : l[i] ≠ 44) : GSt l done st d (i + 1) := by
  obtain ⟨h1, h2, h3, h4, h5, h6⟩ := h
  refine ⟨by omega, by omega, by omega, by omega, by omega, ?_⟩
  rw [← h6, List.drop_eq_getElem_cons hi]
  conv => rhs; rw [goG, if_neg h40, if_neg h41, if_neg h44]
  rw [take_drop_snoc h1 hi]
theorem GSt.last {l : Bs} {done : List Bs} {st i : Nat} {d : Int} (h : GSt l done st d i) (hi : ¬ i < l.length) : splitG l = done ++ [trim (l.drop st)] := by
  obtain ⟨h1, h2, h3, h4, h5, h6⟩ := h
  have : i = l.length := by omega
  subst this
  rw [← h6]
  simp [goG]

theorem sgc_none (l : Bs) (w : World) {B0 : Nat} (hl : l.length ≤ 1000000000) (hg : Gl B0 w) (hm : trimBr l = none) :
    Calls Tryz.prog 94 #[S l] w fun e w' => (∃ u v, e = .returned (.tuple #[.slice none 0 0, .iface u v])) ∧ Below w.heap.size w w' := by
  go_enter Tryz.func94, Tryz.ntmps94
  go_wp2_with fail
  refine (trimBr_none l _ hl hg hm).mono ?_
  rintro e w1 ⟨⟨u, v, rfl⟩, hb1⟩
  have HM := Lib.hid hm
  have HB1 := Lib.hid hb1
  clear hm hb1
  go_wp2
  go_ret2
  exact ⟨⟨_, _, rfl⟩, HB1.out⟩

set_option maxRecDepth 20000 in
set_option maxHeartbeats 1000000 in
theorem sgc_some (l m : Bs) (w : World) (hl : l.length ≤ 1000000000) (hm : trimBr l = some m) :
    Calls Tryz.prog 94 #[S l] w fun e w' => ∃ x, e = .returned (.tuple #[x, .nilIface]) ∧ bsK.R 9 w' w.heap.size (fun _ => True) x (splitG m) ∧ Below w.heap.size w w' := by
  have hml : m.length ≤ 1000000000 := Nat.le_trans (trimBr_le hm) hl
  have hb := trimBr_some l m w hl hm
  clear hm
  go_enter Tryz.func94, Tryz.ntmps94
  go_wp2_with fail
  refine hb.mono ?_
  rintro e w1 ⟨rfl, rfl⟩
  clear hb
  go_wp2_with (at_make; go_loud (refine make0 bsK _ rfl _ _ 46 rfl 9 _ _ Tryz.underlying46 info9 0 0 rfl rfl rfl (by omega) (by omega) ?_))
  intro w1 hsz hb1 hR
  have HR := Lib.hid (hR w.heap.size (fun _ => True) (Nat.le_refl _) trivial)
  have HB1 := Lib.hid hb1
  clear hR hb1
  go_wp2
  go_loopw [5, 6, 7, 8] (fun v5 v6 v7 v8 wr => ∃ (A : Option Addr) (k c : Nat) (d : Int) (st i : Nat) (done : List Bs), v5 = .slice A k c ∧ v6 = .int .i64 d ∧ v7 = .int .i64 st ∧ v8 = .int .i64 i ∧ GSt m done st d i ∧ bsK.R 9 wr w.heap.size (fun _ => True) (.slice A k c) done ∧ Below w.heap.size w wr) (fun v5 v6 v7 v8 wr => m.length - (intOf v8).toNat)
  case atStart => exact ⟨_, _, _, 0, 0, 0, [], rfl, rfl, rfl, rfl, GSt.start m, HR.out, HB1.out⟩
  case round =>
    obtain ⟨A, k, c, d, st, i, done, rfl, rfl, rfl, rfl, hst, hR, hb⟩ := hrel
    have h1 := hst.si
    have h2 := hst.il
    have h3 := hst.dl
    have h4 := hst.d1
    have h5 := hst.d2
    have HR2 := Lib.hid hR
    have HB2 := Lib.hid hb
    have hsz2 := hb.size
    clear hR hb
    by_cases hlt : i < m.length
    · obtain ⟨x, hx⟩ : ∃ x : UInt8, ∀ h, (ByteArray.mk m.toArray)[i]'h = x := ⟨m[i], fun _ => rfl⟩
      have hmx : m[i] = x := hx (by simpa [ByteArray.size] using hlt)
      by_cases h40 : x = 40
      · subst h40
        have HS := Lib.hid (hst.open_ hlt hmx)
        clear hst hmx
        go_wp2
        exact ⟨⟨A, k, c, d + 1, st, i + 1, done, rfl, by go_num, rfl, by go_num, HS.out, HR2.out, HB2.out⟩, by simp [intOf]; omega⟩
      · by_cases h41 : x = 41
        · subst h41
          have HS := Lib.hid (hst.shut hlt hmx)
          clear hst hmx
          go_wp2
          exact ⟨⟨A, k, c, d - 1, st, i + 1, done, rfl, by go_num, rfl, by go_num, HS.out, HR2.out, HB2.out⟩, by simp [intOf]; omega⟩
        · by_cases h44 : x = 44
          · subst h44
            by_cases hd : d = 0
            · subst hd
              have HS := Lib.hid (hst.comma hlt hmx)
              clear hst hmx
              go_wp2_with fail
              refine (trim_any ((m.take i).drop st) _ (by simp; omega)).mono ?_
              rintro e w' ⟨rfl, rfl⟩
              obtain ⟨t, ht⟩ : ∃ t, t = trim ((m.take i).drop st) := ⟨_, rfl⟩
              rw [← ht]
              have HT := Lib.hid ht
              clear ht
              go_wp2_with (at_builtin; go_loud (refine Kd.R_append bsK (w0 := w) w.heap.size rfl (.tmp 39) (.tmp 45) 46 9 (S []) 16 rfl Tryz.underlying46 info9 rfl (by decide) (by decide) (.slice A k c) done t [S t] (fun _ => True) (fun _ => False) rfl (by simp [Act.eval]) ?hp ?hokp ?hfresh ?HO ?HB ?hbase ?hl ?_))
              case hp => exact rfl
              case hokp => exact fun _ h => h.elim
              case hfresh => exact fun _ _ => trivial
              case HO => exact HR2.out
              case HB => exact HB2.out
              case hbase => omega
              case hl => omega
              intro v1 w3 hR4 hb5 hg5 hat5
              obtain ⟨A1, n1, c1, rfl⟩ := R_sl hR4
              rw [HT.out] at hR4
              have HR4 := Lib.hid hR4
              have HB5 := Lib.hid hb5
              clear hR4 hb5 hg5 hat5
              go_wp2
              exact ⟨⟨A1, n1, c1, 0, i + 1, i + 1, _, rfl, rfl, by go_num, by go_num, HS.out, HR4.out, HB5.out⟩, by simp [intOf]; omega⟩
            · have hd0 : (d == 0) = false := by rw [beq_eq_false_iff_ne]; exact hd
              have HS := Lib.hid (hst.inner hlt hmx hd)
              clear hst hmx hd
              go_wp2
              exact ⟨⟨A, k, c, d, st, i + 1, done, rfl, rfl, rfl, by go_num, HS.out, HR2.out, HB2.out⟩, by simp [intOf]; omega⟩
          · have HS := Lib.hid (hst.plain hlt (by rw [hmx]; exact h40) (by rw [hmx]; exact h41) (by rw [hmx]; exact h44))
            have t1 := beq40 h40
            have t2 := beq41 h41
            have t3 := beq44 h44
            clear hst hmx h40 h41 h44
            go_wp2
            exact ⟨⟨A, k, c, d, st, i + 1, done, rfl, rfl, rfl, by go_num, HS.out, HR2.out, HB2.out⟩, by simp [intOf]; omega⟩
    · have HL := Lib.hid (hst.last hlt)
      clear hst
      go_wp2_with fail
      refine (trim_any (m.drop st) _ (by simp; omega)).mono ?_
      rintro e w' ⟨rfl, rfl⟩
      obtain ⟨t, ht⟩ : ∃ t, t = trim (m.drop st) := ⟨_, rfl⟩
      rw [← ht]
      have HT := Lib.hid ht
      clear ht
      go_wp2_with (at_builtin; go_loud (refine Kd.R_append bsK (w0 := w) w.heap.size rfl (.tmp 49) (.tmp 54) 46 9 (S []) 16 rfl Tryz.underlying46 info9 rfl (by decide) (by decide) (.slice A k c) done t [S t] (fun _ => True) (fun _ => False) rfl (by simp [Act.eval]) ?hp ?hokp ?hfresh ?HO ?HB ?hbase ?hl ?_))
      case hp => exact rfl
      case hokp => exact fun _ h => h.elim
      case hfresh => exact fun _ _ => trivial
      case HO => exact HR2.out
      case HB => exact HB2.out
      case hbase => omega
      case hl => omega
      intro v1 w3 hR4 hb5 hg5 hat5
      obtain ⟨A1, n1, c1, rfl⟩ := R_sl hR4
      rw [HT.out, ← HL.out] at hR4
      have HR4 := Lib.hid hR4
      have HB5 := Lib.hid hb5
      clear hR4 hb5 hg5 hat5
      go_wp2
      go_ret2
      exact ⟨_, rfl, HR4.out, HB5.out⟩
end Go.Proofs.YtghajgdiaopioaaGreatDoor
end

/- The kind of a geometry's value; walks: unmarshalCollection, Unmarshal. Conditions: stand in each contract. -/
section
set_option linter.unusedVariables false
set_option linter.unusedSimpArgs false
namespace Go.Proofs.YtghajgdiaopioaaGreatDoor
open Go.RowKit Go.Proofs Tx
open Go.Proofs.YtghajgdiaopioaaGreatDoorW.PrintWords

/-- A value of one cell behind an interface. -/
def ifK {α : Type} (t : TypeId) (d : Kd α) : Kd α where
  sz := 1
  E := d.E
  K := fun w x cs => ∃ v, cs = [.iface t v] ∧ d.K w x [v]
  M := fun w base ok x cs => ∃ v, cs = [.iface t v] ∧ d.M w base ok x [v]
  K_len := by
    rintro w x cs ⟨v, rfl, _⟩
    rfl
  K_one := by
    rintro w x cs ⟨v, rfl, _⟩ u hu
    rw [List.mem_singleton.1 hu]
    rfl
  K_below := by
    rintro w w1 x cs hb ⟨v, rfl, h⟩
    exact ⟨v, rfl, d.K_below hb h⟩
  K_of_M := by
    rintro w base ok x cs ⟨v, rfl, h⟩
    exact ⟨v, rfl, d.K_of_M h⟩
  M_mono := by
    rintro w base ok ok' x cs hok ⟨v, rfl, h⟩
    exact ⟨v, rfl, d.M_mono hok h⟩
  M_bound := by
    rintro w base ok x cs ⟨v, rfl, h⟩
    exact ⟨v, rfl, d.M_bound h⟩
  M_move := by
    rintro w w1 base ok x cs hm ⟨v, rfl, h⟩
    exact ⟨v, rfl, d.M_move hm h⟩
  M_lower := by
    rintro w base base' ok x cs hb ⟨v, rfl, h⟩
    exact ⟨v, rfl, d.M_lower hb h⟩
/-- A point behind an interface. -/
def ptI : Kd Pt := Kd.scalar (fun p => .iface 61 (ptV p)) (fun _ => rfl)
def ringsK : Kd (List (List Pt)) := Kd.slice 65 lineK
def polysK : Kd (List (List (List Pt))) := Kd.slice 69 polyK
def geoE : List Nat := [61, 65, 117, 69, 52]
def geoF (sub : Kd Geo) : Kd Geo where
  sz := 1
  E := geoE ++ sub.E
  K := fun w g cs => match g with
    | .point p => ptI.K w p cs
    | .line ps => (ifK 65 lineK).K w ps cs
    | .poly rs => (ifK 69 polyK).K w rs cs
    | .mpoint ps => (ifK 72 lineK).K w ps cs
    | .mline ls => (ifK 76 ringsK).K w ls cs
    | .mpoly qs => (ifK 80 polysK).K w qs cs
    | .coll gs => (ifK 84 (Kd.slice 52 sub)).K w gs cs
  M := fun w base ok g cs => match g with
    | .point p => ptI.M w base ok p cs
    | .line ps => (ifK 65 lineK).M w base ok ps cs
    | .poly rs => (ifK 69 polyK).M w base ok rs cs
    | .mpoint ps => (ifK 72 lineK).M w base ok ps cs
    | .mline ls => (ifK 76 ringsK).M w base ok ls cs
    | .mpoly qs => (ifK 80 polysK).M w base ok qs cs
    | .coll gs => (ifK 84 (Kd.slice 52 sub)).M w base ok gs cs
  K_len := by
    intro w g cs h
    cases g with
    | point p => exact ptI.K_len h
    | line ps => exact (ifK 65 lineK).K_len h
    | poly ps => exact (ifK 69 polyK).K_len h
    | mpoint ps => exact (ifK 72 lineK).K_len h
    | mline ps => exact (ifK 76 ringsK).K_len h
    | mpoly ps => exact (ifK 80 polysK).K_len h
    | coll gs => exact (ifK 84 (Kd.slice 52 sub)).K_len h
  K_one := by
    intro w g cs h
    cases g with
    | point p => exact ptI.K_one h
    | line ps => exact (ifK 65 lineK).K_one h
    | poly ps => exact (ifK 69 polyK).K_one h
    | mpoint ps => exact (ifK 72 lineK).K_one h
    | mline ps => exact (ifK 76 ringsK).K_one h
    | mpoly ps => exact (ifK 80 polysK).K_one h
    | coll gs => exact (ifK 84 (Kd.slice 52 sub)).K_one h
  K_below := by
    intro w w1 g cs hb h
    cases g with
    | point p => exact ptI.K_below hb h
    | line ps => exact (ifK 65 lineK).K_below hb h
    | poly ps => exact (ifK 69 polyK).K_below hb h
    | mpoint ps => exact (ifK 72 lineK).K_below hb h
    | mline ps => exact (ifK 76 ringsK).K_below hb h
    | mpoly ps => exact (ifK 80 polysK).K_below hb h
    | coll gs => exact (ifK 84 (Kd.slice 52 sub)).K_below hb h
  K_of_M := by
    intro w base ok g cs h
    cases g with
    | point p => exact ptI.K_of_M h
    | line ps => exact (ifK 65 lineK).K_of_M h
    | poly ps => exact (ifK 69 polyK).K_of_M h
    | mpoint ps => exact (ifK 72 lineK).K_of_M h
    | mline ps => exact (ifK 76 ringsK).K_of_M h
    | mpoly ps => exact (ifK 80 polysK).K_of_M h
    | coll gs => exact (ifK 84 (Kd.slice 52 sub)).K_of_M h
  M_mono := by
    intro w base ok ok' g cs hok h
    cases g with
    | point p => exact ptI.M_mono hok h
    | line ps => exact (ifK 65 lineK).M_mono hok h
    | poly ps => exact (ifK 69 polyK).M_mono hok h
    | mpoint ps => exact (ifK 72 lineK).M_mono hok h
    | mline ps => exact (ifK 76 ringsK).M_mono hok h
    | mpoly ps => exact (ifK 80 polysK).M_mono hok h
    | coll gs => exact (ifK 84 (Kd.slice 52 sub)).M_mono hok h
  M_bound := by
    intro w base ok g cs h
    have wide : ∀ (E : List Nat), (∀ q, q ∈ E → q ∈ geoE ++ sub.E) → ∀ k, (ok k ∧ base ≤ k ∧ k < w.heap.size ∧ ∃ q, q ∈ E ∧ ∃ cells, w.heap[k]? = some (.cells cells q (0, 0))) → (ok k ∧ base ≤ k ∧ k < w.heap.size ∧ ∃ q, q ∈ geoE ++ sub.E ∧ ∃ cells, w.heap[k]? = some (.cells cells q (0, 0))) :=
      fun E hE k ⟨h1, h2, h3, q, hq, hc⟩ => ⟨h1, h2, h3, q, hE q hq, hc⟩
    cases g with
    | point p => exact ptI.M_mono (wide ptI.E (by intro q hq; cases hq)) (ptI.M_bound h)
    | line ps => exact (ifK 65 lineK).M_mono (wide (ifK 65 lineK).E (by intro q hq; simp [ifK, lineK, Kd.slice, ptK, Kd.pair, floK, Kd.scalar, geoE] at hq ⊢; omega)) ((ifK 65 lineK).M_bound h)
    | poly ps => exact (ifK 69 polyK).M_mono (wide (ifK 69 polyK).E (by intro q hq; simp [ifK, polyK, lineK, Kd.slice, ptK, Kd.pair, floK, Kd.scalar, geoE] at hq ⊢; omega)) ((ifK 69 polyK).M_bound h)
    | mpoint ps => exact (ifK 72 lineK).M_mono (wide (ifK 72 lineK).E (by intro q hq; simp [ifK, lineK, Kd.slice, ptK, Kd.pair, floK, Kd.scalar, geoE] at hq ⊢; omega)) ((ifK 72 lineK).M_bound h)
    | mline ps => exact (ifK 76 ringsK).M_mono (wide (ifK 76 ringsK).E (by intro q hq; simp [ifK, ringsK, lineK, Kd.slice, ptK, Kd.pair, floK, Kd.scalar, geoE] at hq ⊢; omega)) ((ifK 76 ringsK).M_bound h)
    | mpoly ps => exact (ifK 80 polysK).M_mono (wide (ifK 80 polysK).E (by intro q hq; simp [ifK, polysK, polyK, lineK, Kd.slice, ptK, Kd.pair, floK, Kd.scalar, geoE] at hq ⊢; omega)) ((ifK 80 polysK).M_bound h)
    | coll gs => exact (ifK 84 (Kd.slice 52 sub)).M_mono (wide (ifK 84 (Kd.slice 52 sub)).E (by
        intro q hq
        rcases List.mem_cons.1 hq with rfl | hq
        · simp [geoE]
        · exact List.mem_append_right _ hq)) ((ifK 84 (Kd.slice 52 sub)).M_bound h)
  M_move := by
    intro w w1 base ok g cs hm h
    cases g with
    | point p => exact ptI.M_move hm h
    | line ps => exact (ifK 65 lineK).M_move hm h
    | poly ps => exact (ifK 69 polyK).M_move hm h
    | mpoint ps => exact (ifK 72 lineK).M_move hm h
    | mline ps => exact (ifK 76 ringsK).M_move hm h
    | mpoly ps => exact (ifK 80 polysK).M_move hm h
    | coll gs => exact (ifK 84 (Kd.slice 52 sub)).M_move hm h
  M_lower := by
    intro w base base' ok g cs hb h
    cases g with
    | point p => exact ptI.M_lower hb h
    | line ps => exact (ifK 65 lineK).M_lower hb h
    | poly ps => exact (ifK 69 polyK).M_lower hb h
    | mpoint ps => exact (ifK 72 lineK).M_lower hb h
    | mline ps => exact (ifK 76 ringsK).M_lower hb h
    | mpoly ps => exact (ifK 80 polysK).M_lower hb h
    | coll gs => exact (ifK 84 (Kd.slice 52 sub)).M_lower hb h
/-- Geometries nested at most n deep. -/
def geoK : Nat → Kd Geo
  | 0 => Kd.bot 1 []
  | n + 1 => geoF (geoK n)
theorem geoK_sz (n : Nat) : (geoK n).sz = 1 := by cases n <;> rfl

theorem info52 : (Tryz.prog.info? 52).map (fun i => (i.zero, i.size, i.bytes)) = some (some .nilIface, 1, 16) := by kernel_rfl
/-- What is known of Unmarshal at depth n. -/
def UnmOk (pf : Bs → Rd Nat) (n : Nat) : Prop := ∀ (s : Bs) (w : World) (B0 : Nat) (r : Rd Geo), Gl B0 w → s.length ≤ 1000000000 → Asc s → readG pf n s = r → r ≠ .unk →
  Calls Tryz.prog 32 #[S s] w fun e w' => Res .nilIface r (fun g x w' => (geoK n).M w' w.heap.size (fun _ => True) g [x]) e w' ∧ Below w.heap.size w w'
/-- Where the loop over the members stands. -/
structure CoSt {α : Type} (f : Bs → Rd α) (ps : List Bs) (R : Rd (List α)) (done : List α) (j : Nat) : Prop where
  jm : j ≤ ps.length
  dl : done.length = j
  eq : (mapR f (ps.drop j)).map (done ++ ·) = R
theorem CoSt.start {α : Type} {f : Bs → Rd α} {ps : List Bs} {R : Rd (List α)} (h : mapR f ps = R) : CoSt f ps R [] 0 := ⟨Nat.zero_le _, rfl, by rw [List.drop_zero, h]; cases R <;> simp [Rd.map]⟩
theorem CoSt.next {α : Type} {f : Bs → Rd α} {ps : List Bs} {R : Rd (List α)} {done : List α} {j : Nat} (h : CoSt f ps R done j) (hj : j < ps.length) (hR : R ≠ .unk) :
    f ps[j] ≠ .unk ∧ (f ps[j] = .err → R = .err) ∧ ∀ a, f ps[j] = .ok a → CoSt f ps R (done ++ [a]) (j + 1) := by
  obtain ⟨h1, h2, h4⟩ := h
  rw [List.drop_eq_getElem_cons hj] at h4
  simp only [mapR] at h4
  refine ⟨?_, ?_, ?_⟩
  · intro e0; rw [e0] at h4; exact hR h4.symm
  · intro e0; rw [e0] at h4; exact h4.symm
  · intro a e0
    rw [e0] at h4
    simp only [Rd.bind, map_map] at h4
    refine ⟨by omega, by simp; omega, ?_⟩
    rw [← h4]
    simp [Function.comp_def]
theorem CoSt.last {α : Type} {f : Bs → Rd α} {ps : List Bs} {R : Rd (List α)} {done : List α} {j : Nat} (h : CoSt f ps R done j) (hj : ¬ j < ps.length) : R = .ok done := by
  obtain ⟨h1, h2, h4⟩ := h
  have : j = ps.length := by omega
  subst this
  rw [List.drop_length] at h4
  rw [← h4]
  simp [mapR, Rd.map]
theorem trim_mem {l : Bs} {x : UInt8} (h : x ∈ trim l) : x ∈ l := by
  rw [trim_cut] at h
  split at h
  · cases h
  · exact List.mem_of_mem_take (List.mem_of_mem_drop h)
theorem trimBr_mem {l m : Bs} (h : trimBr l = some m) {x : UInt8} (hx : x ∈ m) : x ∈ l := by
  unfold trimBr at h
  cases ht : trim l with
  | nil => rw [ht] at h; simp at h; subst h; cases hx
  | cons c r =>
    rw [ht] at h
    simp only at h
    split at h
    · split at h
      · simp only [Option.some.injEq] at h
        subst h
        have h1 := trim_mem hx
        have h2 : x ∈ trim l := by rw [ht]; exact List.mem_cons_of_mem _ (List.dropLast_subset _ h1)
        exact trim_mem h2
      · cases h
    · cases h
theorem goG_asc : ∀ (l : Bs) (cur : Bs) (d : Int), Asc cur → Asc l → ∀ p ∈ goG cur d l, Asc p ∧ p.length ≤ cur.length + l.length
  | [], cur, d, hc, hl, p, hp => by
    unfold goG at hp
    rw [List.mem_singleton.1 hp]
    exact ⟨fun x hx => hc x (trim_mem hx), by have := trim_le cur; simp; omega⟩
  | c :: r, cur, d, hc, hl, p, hp => by
    have hr : Asc r := fun x hx => hl x (List.mem_cons_of_mem _ hx)
    have hcc : Asc (cur ++ [c]) := fun x hx => by
      rcases List.mem_append.1 hx with hx | hx
      · exact hc x hx
      · rw [List.mem_singleton.1 hx]; exact hl c List.mem_cons_self
    have st : ∀ d', p ∈ goG (cur ++ [c]) d' r → Asc p ∧ p.length ≤ cur.length + (c :: r).length := fun d' h => by
      have := goG_asc r (cur ++ [c]) d' hcc hr p h
      simp at this ⊢
      exact ⟨this.1, by omega⟩
    unfold goG at hp
    split at hp
    · exact st _ hp
    · split at hp
      · exact st _ hp
      · split at hp
        · split at hp
          · rcases List.mem_cons.1 hp with rfl | hp
            · exact ⟨fun x hx => hc x (trim_mem hx), by have := trim_le cur; simp; omega⟩
            · have := goG_asc r [] 0 (fun x hx => by cases hx) hr p hp
              simp at this ⊢
              exact ⟨this.1, by omega⟩
          · exact st _ hp
        · exact st _ hp
end Go.Proofs.YtghajgdiaopioaaGreatDoor
end

/- Walks: unmarshalCollection. Conditions: stand in each contract. -/
section
set_option linter.unusedVariables false
set_option linter.unusedSimpArgs false
namespace Go.Proofs.YtghajgdiaopioaaGreatDoor
open Go.RowKit Go.Proofs Tx
open Go.Proofs.YtghajgdiaopioaaGreatDoorW.PrintWords

theorem goG_len : ∀ (l cur : Bs) (d : Int), (goG cur d l).length ≤ l.length + 1
  | [], cur, d => by simp [goG]
  | c :: r, cur, d => by
    unfold goG
    have h1 := goG_len r (cur ++ [c]) (d + 1)
    have h2 := goG_len r (cur ++ [c]) (d - 1)
    have h3 := goG_len r (cur ++ [c]) d
    have h4 := goG_len r [] 0
    simp only [List.length_cons]
    split
    · omega
    · split
      · omega
      · split
        · split
          · simp only [List.length_cons]; omega
          · omega
        · omega
theorem geo_iface {n : Nat} {w : World} {g : Geo} {cs : List Value} (h : (geoK n).K w g cs) : ∃ t v, cs = [.iface t v] := by
  cases n with
  | zero => exact h.elim
  | succ n =>
    cases g with
    | point p => exact ⟨_, _, h⟩
    | line ps => obtain ⟨v, h, _⟩ := h; exact ⟨_, _, h⟩
    | poly ps => obtain ⟨v, h, _⟩ := h; exact ⟨_, _, h⟩
    | mpoint ps => obtain ⟨v, h, _⟩ := h; exact ⟨_, _, h⟩
    | mline ps => obtain ⟨v, h, _⟩ := h; exact ⟨_, _, h⟩
    | mpoly ps => obtain ⟨v, h, _⟩ := h; exact ⟨_, _, h⟩
    | coll gs => obtain ⟨v, h, _⟩ := h; exact ⟨_, _, h⟩
theorem um59_e (s : Bs) (w : World) (hl : s.length ≤ 1000000000) (ha : Asc s) (he : eqF s (word 7 ++ emptyW) = true) (n : Nat) :
    Calls Tryz.prog 59 #[S s] w fun e w' => ∃ x, e = .returned (.tuple #[x, .nilIface]) ∧ (geoK n).R 52 w' w.heap.size (fun _ => True) x [] ∧ Below w.heap.size w w' := by
  have hf := fold_any s (word 7 ++ emptyW) w hl ha (size_asc 7)
  rw [he] at hf
  go_enter Tryz.func59, Tryz.ntmps59
  go_wp2_with fail
  refine hf.mono ?_
  rintro e w' ⟨rfl, rfl⟩
  clear he hf
  go_wp2
  go_ret2
  exact ⟨_, rfl, R_empty _ _ _, below_alloc1 _ _⟩
theorem um59_18 (s : Bs) (w : World) {B0 : Nat} (hg : Gl B0 w) (hl : s.length = 18) (ha : Asc s) (he : eqF s (word 7 ++ emptyW) = false) :
    Calls Tryz.prog 59 #[S s] w fun e w' => (∃ u v, e = .returned (.tuple #[.slice none 0 0, .iface u v])) ∧ Below w.heap.size w w' := by
  obtain ⟨u, v, he4⟩ := hg.e4
  have hf := fold_any s (word 7 ++ emptyW) w (by omega) ha (size_asc 7)
  rw [he] at hf
  go_enter Tryz.func59, Tryz.ntmps59
  go_wp2_with fail
  refine hf.mono ?_
  rintro e w' ⟨rfl, rfl⟩
  have h18 : ((s.length : Int) == 18) = true := by rw [hl]; rfl
  clear he hf hl
  go_wp2_with fail
  go_quiet (fail)
  go_wp2
  go_ret2
  exact ⟨⟨_, _, rfl⟩, below_drewN _ _⟩
theorem um59_b (s : Bs) (w : World) {B0 : Nat} (hg : Gl B0 w) (hl : s.length ≤ 1000000000) (h18 : 18 ≤ s.length) (hne : s.length ≠ 18) (ha : Asc s) (he : eqF s (word 7 ++ emptyW) = false) (hm : trimBr (s.drop 18) = none) :
    Calls Tryz.prog 59 #[S s] w fun e w' => (∃ u v, e = .returned (.tuple #[.slice none 0 0, .iface u v])) ∧ Below w.heap.size w w' := by
  have hf := fold_any s (word 7 ++ emptyW) w hl ha (size_asc 7)
  rw [he] at hf
  have hd : (s.drop 18).length ≤ 1000000000 := by simp; omega
  have hb := sgc_none (s.drop 18) w hd hg hm
  have hn18 : ((s.length : Int) == 18) = false := by rw [beq_eq_false_iff_ne]; omega
  clear he hm hne
  go_enter Tryz.func59, Tryz.ntmps59
  go_wp2_with fail
  refine hf.mono ?_
  rintro e w' ⟨rfl, rfl⟩
  clear hf
  go_wp2_with fail
  refine hb.mono ?_
  rintro e w1 ⟨⟨u, v, rfl⟩, hb1⟩
  clear hb
  have HB := Lib.hid hb1
  clear hb1
  go_wp2
  go_ret2
  exact ⟨⟨_, _, rfl⟩, HB.out⟩
theorem get_str {w : World} {A : Option Addr} {n : Nat} {ps : List Bs} (h : bsK.C w A n ps) (hn : n = ps.length) (j : Nat) (hj : j < ps.length) : ∃ ad, A = some ad ∧ w.cell? (ad.add j) = some (S ps[j]) := by
  obtain ⟨ad, cs, hA, hlen, hK, hc⟩ := Kd.C_get h [] j (by omega) (by omega)
  have hx : ps.getD (j : Int).toNat [] = ps[j] := by simp [List.getD, hj]
  rw [hx] at hK
  have hK' : cs = [S ps[j]] := hK
  subst hK'
  have h0 := hc 0 _ rfl
  refine ⟨ad, hA, ?_⟩
  have e1 : ad.add ((j : Int).toNat * bsK.sz + 0) = ad.add j := by
    congr 1
    show (j : Int).toNat * 1 + 0 = j
    omega
  rw [← e1]; exact h0

set_option maxRecDepth 20000 in
set_option maxHeartbeats 1000000 in
theorem um59_r (pf : Bs → Rd Nat) (n : Nat) (hU : UnmOk pf n) (s m : Bs) (w : World) {B0 : Nat} (hg : Gl B0 w) (hl : s.length ≤ 1000000000) (h18 : 18 ≤ s.length) (hne : s.length ≠ 18) (ha : Asc s) (he : eqF s (word 7 ++ emptyW) = false) (hm : trimBr (s.drop 18) = some m)
    (R : Rd (List Geo)) (hr : mapR (readG pf n) (splitG m) = R) (hn : R ≠ .unk) :
    Calls Tryz.prog 59 #[S s] w fun e w' => Res (.slice none 0 0) R (fun gs x w' => (geoK n).R 52 w' w.heap.size (fun _ => True) x gs) e w' ∧ Below w.heap.size w w' := by
  have hf := fold_any s (word 7 ++ emptyW) w hl ha (size_asc 7)
  rw [he] at hf
  have hd : (s.drop 18).length ≤ 1000000000 := by simp; omega
  have hb := sgc_some (s.drop 18) m w hd hm
  have hn18 : ((s.length : Int) == 18) = false := by rw [beq_eq_false_iff_ne]; omega
  have hma : Asc m := fun x hx => ha x (List.mem_of_mem_drop (trimBr_mem hm hx))
  have hml : m.length ≤ 1000000000 := Nat.le_trans (trimBr_le hm) hd
  have hps : ∀ p ∈ splitG m, Asc p ∧ p.length ≤ 1000000000 := fun p hp => by
    have := goG_asc m [] 0 (fun x hx => by cases hx) hma p hp
    simp at this
    exact ⟨this.1, by omega⟩
  have hst := CoSt.start hr
  have hpl : (splitG m).length ≤ 1000000001 := by have := goG_len m [] 0; unfold splitG; omega
  obtain ⟨ps, hpsd⟩ : ∃ ps, ps = splitG m := ⟨_, rfl⟩
  rw [← hpsd] at hst hps hb hpl
  have HST := Lib.hid hst
  have HPS := Lib.hid hps
  have HU := Lib.hid hU
  clear he hm hne hst hps hpsd hr hma hU
  go_enter Tryz.func59, Tryz.ntmps59
  go_wp2_with fail
  refine hf.mono ?_
  rintro e w' ⟨rfl, rfl⟩
  clear hf
  go_wp2_with fail
  refine hb.mono ?_
  rintro e w1 ⟨x, rfl, hR1, hb1⟩
  clear hb
  obtain ⟨A, c, rfl, hlc, hC1⟩ := Kd.R_reads hR1
  have HC1 := Lib.hid hC1
  have HB1 := Lib.hid hb1
  have hsz1 := hb1.size
  clear hC1 hR1 hb1
  go_wp2_with (at_make; go_loud (refine make0 (geoK n) _ rfl _ _ 84 rfl 52 _ _ Tryz.underlying84 (by rw [geoK_sz]; exact info52) _ ps.length rfl rfl rfl (by omega) (by omega) ?_))
  intro w2 hsz hb2 hR2
  have HR2 := Lib.hid (hR2 w1.heap.size (fun _ => True) (Nat.le_refl _) trivial)
  have HB2 := Lib.hid hb2
  clear hR2 hb2
  go_wp2
  go_loopw [6, 32] (fun v6 v32 wr => ∃ (A' : Option Addr) (k c' j : Nat) (done : List Geo), v6 = .slice A' k c' ∧ v32 = .int .i64 j ∧ CoSt (readG pf n) ps R done j ∧ (geoK n).R 52 wr w1.heap.size (fun _ => True) (.slice A' k c') done ∧ Below w1.heap.size w1 wr) (fun v6 v32 wr => ps.length - (intOf v32).toNat)
  case atStart => exact ⟨_, _, _, 0, [], rfl, rfl, HST.out, HR2.out, HB2.out⟩
  case round =>
    obtain ⟨A', k, c', j, done, rfl, rfl, hst, hR, hb⟩ := hrel
    have hjm := hst.jm
    have hdl := hst.dl
    have HR := Lib.hid hR
    have HB := Lib.hid hb
    have hszr := hb.size
    by_cases hlt : j < ps.length
    · obtain ⟨p2, p3, p4⟩ := hst.next hlt hn
      obtain ⟨ad, rfl, hcell⟩ := get_str (Kd.C_below HC1.out hb) rfl j hlt
      obtain ⟨p, hp⟩ : ∃ p, p = ps[j] := ⟨_, rfl⟩
      rw [← hp] at p2 p3 p4 hcell
      obtain ⟨hpa, hpl2⟩ := HPS.out p (by rw [hp]; exact List.getElem_mem hlt)
      have hgr : Gl B0 wr := (hg.low HB1.out).low hb
      have hcall := HU.out p wr B0 _ hgr hpl2 hpa rfl p2
      have HP2 := Lib.hid p2
      have HP3 := Lib.hid p3
      have HP4 := Lib.hid p4
      clear hst hR hb p2 p3 p4 hp hgr
      go_wp2_with fail
      refine hcall.mono ?_
      clear hcall
      cases hr : readG pf n p with
      | unk => exact absurd hr HP2.out
      | err =>
        rintro e3 w3 ⟨⟨u, v, rfl⟩, hb3⟩
        have hRe := HP3.out hr
        subst hRe
        have HF3 := Lib.hid (HB1.out.trans ((HB.out.trans (hb3.mono hszr)).mono hsz1))
        clear hr hb3
        go_wp2
        go_ret2
        exact ⟨⟨_, _, rfl⟩, HF3.out⟩
      | ok g =>
        rintro e3 w3 ⟨⟨gx, rfl, hgM⟩, hb3⟩
        obtain ⟨gt, gv, hge⟩ := geo_iface ((geoK n).K_of_M hgM)
        cases hge
        have HC := Lib.hid (HP4.out g hr)
        have hgB := (geoK n).M_lower hszr ((geoK n).M_mono (fun k hk => hk.2.1) ((geoK n).M_bound hgM))
        have HG := Lib.hid hgB
        have hlt0 : ∀ q, (Value.slice A' k c').ownBlock = some q → q < wr.heap.size := Kd.R_lt HR.out
        have HRw := Lib.hid (Kd.R_below HR.out hb3)
        have HF3 := Lib.hid (HB.out.trans (hb3.mono hszr))
        have hsz3 := hb3.size
        clear hr hb3 hgM hgB hcell
        go_wp2_with (at_builtin; go_loud (refine Kd.R_append (geoK n) (w0 := w1) w1.heap.size rfl (.tmp 44) (.tmp 46) 84 52 .nilIface 16 rfl Tryz.underlying84 (by rw [geoK_sz]; exact info52) (by rw [geoK_sz]; rfl) (by rw [geoK_sz]; decide) (by decide) (.slice A' k c') done g [.iface gt gv] (fun _ => True) (fun q => wr.heap.size ≤ q) rfl (by simp [Act.eval]) ?hp ?hokp ?hfresh ?HO ?HB ?hbase ?hl ?_))
        case hp => exact HG.out
        case hokp => exact fun q hq => ⟨trivial, fun e => by have := hlt0 q e.symm; omega⟩
        case hfresh => exact fun _ _ => trivial
        case HO => exact HRw.out
        case HB => exact HF3.out
        case hbase => omega
        case hl => omega
        intro v1 w4 hR4 hb5 hg5 hat5
        obtain ⟨A1, n1, c1, rfl⟩ := R_sl hR4
        have HR4 := Lib.hid hR4
        have HB5 := Lib.hid hb5
        clear hR4 hb5 hg5 hat5 hlt0
        go_wp2
        exact ⟨⟨A1, n1, c1, j + 1, done ++ [g], rfl, by go_num, HC.out, HR4.out, HB5.out⟩, by simp [intOf]; omega⟩
    · have hlast := hst.last hlt
      subst hlast
      have HF := Lib.hid (HB1.out.trans (HB.out.mono hsz1))
      clear hst hR hb
      go_wp2
      go_ret2
      exact ⟨⟨_, rfl, Kd.R_lower HR.out hsz1⟩, HF.out⟩
/-- unmarshalCollection. -/
theorem um59_any (pf : Bs → Rd Nat) (n : Nat) (hU : UnmOk pf n) (s : Bs) (w : World) {B0 : Nat} (hg : Gl B0 w) (hl : s.length ≤ 1000000000) (h18 : 18 ≤ s.length) (ha : Asc s)
    (R : Rd (List Geo)) (hr : (if eqF s (word 7 ++ emptyW) then .ok [] else if s.length = 18 then .err else inBr (fun t => mapR (readG pf n) (splitG t)) (s.drop 18)) = R) (hn : R ≠ .unk) :
    Calls Tryz.prog 59 #[S s] w fun e w' => Res (.slice none 0 0) R (fun gs x w' => (geoK n).R 52 w' w.heap.size (fun _ => True) x gs) e w' ∧ Below w.heap.size w w' := by
  cases he : eqF s (word 7 ++ emptyW) with
  | true =>
    rw [he] at hr
    subst hr
    exact (um59_e s w hl ha he n).mono fun e w' ⟨x, h1, h2, h3⟩ => ⟨⟨x, h1, h2⟩, h3⟩
  | false =>
    rw [he] at hr
    simp only [Bool.false_eq_true, if_false] at hr
    by_cases hne : s.length = 18
    · rw [if_pos hne] at hr
      subst hr
      exact um59_18 s w hg hne ha he
    · rw [if_neg hne] at hr
      unfold inBr at hr
      cases hm : trimBr (s.drop 18) with
      | none =>
        rw [hm] at hr
        subst hr
        exact um59_b s w hg hl h18 hne ha he hm
      | some m =>
        rw [hm] at hr
        exact um59_r pf n hU s m w hg hl h18 hne ha he hm R hr hn
end Go.Proofs.YtghajgdiaopioaaGreatDoor
end
