/- Walks and plain laws joined (Wq). Conditions: stand in each law. -/
import Derived.Test.YtghajgdiaopioaaGreatDoorJm
set_option linter.unusedVariables false
set_option linter.unusedSimpArgs false
section
/- Walks: unmarshalCollection. Conditions: stand in each contract. -/
namespace Go.Proofs.YtghajgdiaopioaaGreatDoor
open Go.RowKit Go.Proofs Tx
open Go.Proofs.YtghajgdiaopioaaGreatDoorW.PrintWords
theorem goG_len : ∀ (l cur : Bs) (d : Int), (goG cur d l).length ≤ l.length + 1
  | [], cur, d => by simp [goG]
  | c :: r, cur, d => by
    unfold goG
    have h1 := goG_len r (cur ++ [c]) (d + 1)
    have h2 := goG_len r (cur ++ [c]) (d - 1)
    have h3 := goG_len r (cur ++ [c]) d
    have h4 := goG_len r [] 0
    simp only [List.length_cons]
    split
    · omega
    · split
      · omega
      · split
        · split
          · simp only [List.length_cons]; omega
          · omega
        · omega
theorem geo_iface {n : Nat} {w : World} {g : Geo} {cs : List Value} (h : (geoK n).K w g cs) : ∃ t v, cs = [.iface t v] := by
  cases n with
  | zero => exact h.elim
  | succ n =>
    cases g with
    | point p => exact ⟨_, _, h⟩
    | line ps => obtain ⟨v, h, _⟩ := h; exact ⟨_, _, h⟩
    | poly ps => obtain ⟨v, h, _⟩ := h; exact ⟨_, _, h⟩
    | mpoint ps => obtain ⟨v, h, _⟩ := h; exact ⟨_, _, h⟩
    | mline ps => obtain ⟨v, h, _⟩ := h; exact ⟨_, _, h⟩
    | mpoly ps => obtain ⟨v, h, _⟩ := h; exact ⟨_, _, h⟩
    | coll gs => obtain ⟨v, h, _⟩ := h; exact ⟨_, _, h⟩
theorem um59_e (s : Bs) (w : World) (hl : s.length ≤ 1000000000) (ha : Asc s) (he : eqF s (word 7 ++ emptyW) = true) (n : Nat) :
    Calls Tryz.prog 59 #[S s] w fun e w' => ∃ x, e = .returned (.tuple #[x, .nilIface]) ∧ (geoK n).R 52 w' w.heap.size (fun _ => True) x [] ∧ Below w.heap.size w w' := by
  have hf := fold_any s (word 7 ++ emptyW) w hl ha (size_asc 7)
  rw [he] at hf
  go_enter Tryz.func59, Tryz.ntmps59
  go_wp2_with fail
  refine hf.mono ?_
  rintro e w' ⟨rfl, rfl⟩
  clear he hf
  go_wp2
  go_ret2
  exact ⟨_, rfl, R_empty _ _ _, below_alloc1 _ _⟩
theorem um59_18 (s : Bs) (w : World) {B0 : Nat} (hg : Gl B0 w) (hl : s.length = 18) (ha : Asc s) (he : eqF s (word 7 ++ emptyW) = false) :
    Calls Tryz.prog 59 #[S s] w fun e w' => (∃ u v, e = .returned (.tuple #[.slice none 0 0, .iface u v])) ∧ Below w.heap.size w w' := by
  obtain ⟨u, v, he4⟩ := hg.e4
  have hf := fold_any s (word 7 ++ emptyW) w (by omega) ha (size_asc 7)
  rw [he] at hf
  go_enter Tryz.func59, Tryz.ntmps59
  go_wp2_with fail
  refine hf.mono ?_
  rintro e w' ⟨rfl, rfl⟩
  have h18 : ((s.length : Int) == 18) = true := by rw [hl]; rfl
  clear he hf hl
  go_wp2_with fail
  go_quiet (fail)
  go_wp2
  go_ret2
  exact ⟨⟨_, _, rfl⟩, below_drewN _ _⟩
theorem um59_b (s : Bs) (w : World) {B0 : Nat} (hg : Gl B0 w) (hl : s.length ≤ 1000000000) (h18 : 18 ≤ s.length) (hne : s.length ≠ 18) (ha : Asc s) (he : eqF s (word 7 ++ emptyW) = false) (hm : trimBr (s.drop 18) = none) :
    Calls Tryz.prog 59 #[S s] w fun e w' => (∃ u v, e = .returned (.tuple #[.slice none 0 0, .iface u v])) ∧ Below w.heap.size w w' := by
  have hf := fold_any s (word 7 ++ emptyW) w hl ha (size_asc 7)
  rw [he] at hf
  have hd : (s.drop 18).length ≤ 1000000000 := by simp; omega
  have hb := sgc_none (s.drop 18) w hd hg hm
  have hn18 : ((s.length : Int) == 18) = false := by rw [beq_eq_false_iff_ne]; omega
  clear he hm hne
  go_enter Tryz.func59, Tryz.ntmps59
  go_wp2_with fail
  refine hf.mono ?_
  rintro e w' ⟨rfl, rfl⟩
  clear hf
  go_wp2_with fail
  refine hb.mono ?_
  rintro e w1 ⟨⟨u, v, rfl⟩, hb1⟩
  clear hb
  have HB := Lib.hid hb1
  clear hb1
  go_wp2
  go_ret2
  exact ⟨⟨_, _, rfl⟩, HB.out⟩
theorem get_str {w : World} {A : Option Addr} {n : Nat} {ps : List Bs} (h : bsK.C w A n ps) (hn : n = ps.length) (j : Nat) (hj : j < ps.length) : ∃ ad, A = some ad ∧ w.cell? (ad.add j) = some (S ps[j]) := by
  obtain ⟨ad, cs, hA, hlen, hK, hc⟩ := Kd.C_get h [] j (by omega) (by omega)
  have hx : ps.getD (j : Int).toNat [] = ps[j] := by simp [List.getD, hj]
  rw [hx] at hK
  have hK' : cs = [S ps[j]] := hK
  subst hK'
  have h0 := hc 0 _ rfl
  refine ⟨ad, hA, ?_⟩
  have e1 : ad.add ((j : Int).toNat * bsK.sz + 0) = ad.add j := by
    congr 1
    show (j : Int).toNat * 1 + 0 = j
    omega
  rw [← e1]; exact h0

set_option maxRecDepth 20000 in
set_option maxHeartbeats 1000000 in
theorem um59_r (pf : Bs → Rd Nat) (n : Nat) (hU : UnmOk pf n) (s m : Bs) (w : World) {B0 : Nat} (hg : Gl B0 w) (hl : s.length ≤ 1000000000) (h18 : 18 ≤ s.length) (hne : s.length ≠ 18) (ha : Asc s) (he : eqF s (word 7 ++ emptyW) = false) (hm : trimBr (s.drop 18) = some m)
    (R : Rd (List Geo)) (hr : mapR (readG pf n) (splitG m) = R) (hn : R ≠ .unk) :
    Calls Tryz.prog 59 #[S s] w fun e w' => Res (.slice none 0 0) R (fun gs x w' => (geoK n).R 52 w' w.heap.size (fun _ => True) x gs) e w' ∧ Below w.heap.size w w' := by
  have hf := fold_any s (word 7 ++ emptyW) w hl ha (size_asc 7)
  rw [he] at hf
  have hd : (s.drop 18).length ≤ 1000000000 := by simp; omega
  have hb := sgc_some (s.drop 18) m w hd hm
  have hn18 : ((s.length : Int) == 18) = false := by rw [beq_eq_false_iff_ne]; omega
  have hma : Asc m := fun x hx => ha x (List.mem_of_mem_drop (trimBr_mem hm hx))
  have hml : m.length ≤ 1000000000 := Nat.le_trans (trimBr_le hm) hd
  have hps : ∀ p ∈ splitG m, Asc p ∧ p.length ≤ 1000000000 := fun p hp => by
    have := goG_asc m [] 0 (fun x hx => by cases hx) hma p hp
    simp at this
    exact ⟨this.1, by omega⟩
  have hst := CoSt.start hr
  have hpl : (splitG m).length ≤ 1000000001 := by have := goG_len m [] 0; unfold splitG; omega
  obtain ⟨ps, hpsd⟩ : ∃ ps, ps = splitG m := ⟨_, rfl⟩
  rw [← hpsd] at hst hps hb hpl
  have HST := Lib.hid hst
  have HPS := Lib.hid hps
  have HU := Lib.hid hU
  clear he hm hne hst hps hpsd hr hma hU
  go_enter Tryz.func59, Tryz.ntmps59
  go_wp2_with fail
  refine hf.mono ?_
  rintro e w' ⟨rfl, rfl⟩
  clear hf
  go_wp2_with fail
  refine hb.mono ?_
  rintro e w1 ⟨x, rfl, hR1, hb1⟩
  clear hb
  obtain ⟨A, c, rfl, hlc, hC1⟩ := Kd.R_reads hR1
  have HC1 := Lib.hid hC1
  have HB1 := Lib.hid hb1
  have hsz1 := hb1.size
  clear hC1 hR1 hb1
  go_wp2_with (at_make; go_loud (refine make0 (geoK n) _ rfl _ _ 84 rfl 52 _ _ Tryz.underlying84 (by rw [geoK_sz]; exact info52) _ ps.length rfl rfl rfl (by omega) (by omega) ?_))
  intro w2 hsz hb2 hR2
  have HR2 := Lib.hid (hR2 w1.heap.size (fun _ => True) (Nat.le_refl _) trivial)
  have HB2 := Lib.hid hb2
  clear hR2 hb2
  go_wp2
  go_loopw [6, 32] (fun v6 v32 wr => ∃ (A' : Option Addr) (k c' j : Nat) (done : List Geo), v6 = .slice A' k c' ∧ v32 = .int .i64 j ∧ CoSt (readG pf n) ps R done j ∧ (geoK n).R 52 wr w1.heap.size (fun _ => True) (.slice A' k c') done ∧ Below w1.heap.size w1 wr) (fun v6 v32 wr => ps.length - (intOf v32).toNat)
  case atStart => exact ⟨_, _, _, 0, [], rfl, rfl, HST.out, HR2.out, HB2.out⟩
  case round =>
    obtain ⟨A', k, c', j, done, rfl, rfl, hst, hR, hb⟩ := hrel
    have hjm := hst.jm
    have hdl := hst.dl
    have HR := Lib.hid hR
    have HB := Lib.hid hb
    have hszr := hb.size
    by_cases hlt : j < ps.length
    · obtain ⟨p2, p3, p4⟩ := hst.next hlt hn
      obtain ⟨ad, rfl, hcell⟩ := get_str (Kd.C_below HC1.out hb) rfl j hlt
      obtain ⟨p, hp⟩ : ∃ p, p = ps[j] := ⟨_, rfl⟩
      rw [← hp] at p2 p3 p4 hcell
      obtain ⟨hpa, hpl2⟩ := HPS.out p (by rw [hp]; exact List.getElem_mem hlt)
      have hgr : Gl B0 wr := (hg.low HB1.out).low hb
      have hcall := HU.out p wr B0 _ hgr hpl2 hpa rfl p2
      have HP2 := Lib.hid p2
      have HP3 := Lib.hid p3
      have HP4 := Lib.hid p4
      clear hst hR hb p2 p3 p4 hp hgr
      go_wp2_with fail
      refine hcall.mono ?_
      clear hcall
      cases hr : readG pf n p with
      | unk => exact absurd hr HP2.out
      | err =>
        rintro e3 w3 ⟨⟨u, v, rfl⟩, hb3⟩
        have hRe := HP3.out hr
        subst hRe
        have HF3 := Lib.hid (HB1.out.trans ((HB.out.trans (hb3.mono hszr)).mono hsz1))
        clear hr hb3
        go_wp2
        go_ret2
        exact ⟨⟨_, _, rfl⟩, HF3.out⟩
      | ok g =>
        rintro e3 w3 ⟨⟨gx, rfl, hgM⟩, hb3⟩
        obtain ⟨gt, gv, hge⟩ := geo_iface ((geoK n).K_of_M hgM)
        cases hge
        have HC := Lib.hid (HP4.out g hr)
        have hgB := (geoK n).M_lower hszr ((geoK n).M_mono (fun k hk => hk.2.1) ((geoK n).M_bound hgM))
        have HG := Lib.hid hgB
        have hlt0 : ∀ q, (Value.slice A' k c').ownBlock = some q → q < wr.heap.size := Kd.R_lt HR.out
        have HRw := Lib.hid (Kd.R_below HR.out hb3)
        have HF3 := Lib.hid (HB.out.trans (hb3.mono hszr))
        have hsz3 := hb3.size
        clear hr hb3 hgM hgB hcell
        go_wp2_with (at_builtin; go_loud (refine Kd.R_append (geoK n) (w0 := w1) w1.heap.size rfl (.tmp 44) (.tmp 46) 84 52 .nilIface 16 rfl Tryz.underlying84 (by rw [geoK_sz]; exact info52) (by rw [geoK_sz]; rfl) (by rw [geoK_sz]; decide) (by decide) (.slice A' k c') done g [.iface gt gv] (fun _ => True) (fun q => wr.heap.size ≤ q) rfl (by simp [Act.eval]) ?hp ?hokp ?hfresh ?HO ?HB ?hbase ?hl ?_))
        case hp => exact HG.out
        case hokp => exact fun q hq => ⟨trivial, fun e => by have := hlt0 q e.symm; omega⟩
        case hfresh => exact fun _ _ => trivial
        case HO => exact HRw.out
        case HB => exact HF3.out
        case hbase => omega
        case hl => omega
        intro v1 w4 hR4 hb5 hg5 hat5
        obtain ⟨A1, n1, c1, rfl⟩ := R_sl hR4
        have HR4 := Lib.hid hR4
        have HB5 := Lib.hid hb5
        clear hR4 hb5 hg5 hat5 hlt0
        go_wp2
        exact ⟨⟨A1, n1, c1, j + 1, done ++ [g], rfl, by go_num, HC.out, HR4.out, HB5.out⟩, by simp [intOf]; omega⟩
    · have hlast := hst.last hlt
      subst hlast
      have HF := Lib.hid (HB1.out.trans (HB.out.mono hsz1))
      clear hst hR hb
      go_wp2
      go_ret2
      exact ⟨⟨_, rfl, Kd.R_lower HR.out hsz1⟩, HF.out⟩
/-- unmarshalCollection. -/
theorem um59_any (pf : Bs → Rd Nat) (n : Nat) (hU : UnmOk pf n) (s : Bs) (w : World) {B0 : Nat} (hg : Gl B0 w) (hl : s.length ≤ 1000000000) (h18 : 18 ≤ s.length) (ha : Asc s)
    (R : Rd (List Geo)) (hr : (if eqF s (word 7 ++ emptyW) then .ok [] else if s.length = 18 then .err else inBr (fun t => mapR (readG pf n) (splitG t)) (s.drop 18)) = R) (hn : R ≠ .unk) :
    Calls Tryz.prog 59 #[S s] w fun e w' => Res (.slice none 0 0) R (fun gs x w' => (geoK n).R 52 w' w.heap.size (fun _ => True) x gs) e w' ∧ Below w.heap.size w w' := by
  cases he : eqF s (word 7 ++ emptyW) with
  | true =>
    rw [he] at hr
    subst hr
    exact (um59_e s w hl ha he n).mono fun e w' ⟨x, h1, h2, h3⟩ => ⟨⟨x, h1, h2⟩, h3⟩
  | false =>
    rw [he] at hr
    simp only [Bool.false_eq_true, if_false] at hr
    by_cases hne : s.length = 18
    · rw [if_pos hne] at hr
      subst hr
      exact um59_18 s w hg hne ha he
    · rw [if_neg hne] at hr
      unfold inBr at hr
      cases hm : trimBr (s.drop 18) with
      | none =>
        rw [hm] at hr
        subst hr
        exact um59_b s w hg hl h18 hne ha he hm
      | some m =>
        rw [hm] at hr
        exact um59_r pf n hU s m w hg hl h18 hne ha he hm R hr hn
end Go.Proofs.YtghajgdiaopioaaGreatDoor
end
