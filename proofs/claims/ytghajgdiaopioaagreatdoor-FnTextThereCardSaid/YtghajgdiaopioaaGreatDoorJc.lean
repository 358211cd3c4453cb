/- Walks and plain laws joined (Tz, Tw, Ba, Wa). Conditions: stand in each law. -/
import Derived.Test.YtghajgdiaopioaaGreatDoorJb
import Derived.Test.YtghajgdiaopioaaGreatDoorProg
import Derived.Test.YtghajgdiaopioaaGreatDoorWz
import Derived.WalkKit
import GoSem.PinnedTables
import Derived.LoopTactic
import Derived.Outline
import Derived.Below
import Derived.Deep.LoopGhost
import Derived.Lib.Hide
import Derived.KernelRfl
import Derived.Deep.QuietTactic
import Derived.BigQuiet
import Derived.WideLaws
import Derived.RegionTactic
import Derived.WalkSpells
import Derived.WalkLawsBesides
set_option linter.unusedVariables false
set_option linter.unusedSimpArgs false
section
/- Plain laws: the text of a shape is read back as the shape; without its last bracket, or with a sign ahead, it is an error. Conditions: stand in each law. -/
namespace Go.Proofs.YtghajgdiaopioaaGreatDoor.Tx
/-! ### Words -/
theorem kindOf_word (small : Bool) (r : Bs) : ∀ k, 1 ≤ k → k ≤ 7 → kindOf (low small (word k) ++ r) = k := by
  intro k h1 h7
  have hk : k = 1 ∨ k = 2 ∨ k = 3 ∨ k = 4 ∨ k = 5 ∨ k = 6 ∨ k = 7 := by omega
  rcases hk with rfl | rfl | rfl | rfl | rfl | rfl | rfl <;> cases small <;> simp [kindOf, hasW, word, low, up]
theorem low_length (small : Bool) (l : Bs) : (low small l).length = l.length := by unfold low; split <;> simp
theorem drop_word (small : Bool) (k : Nat) (r : Bs) {n : Nat} (h : (word k).length = n) : (low small (word k) ++ r).drop n = r := by
  rw [List.drop_append_of_le_length (by rw [low_length]; omega), List.drop_eq_nil_of_le (by rw [low_length]; omega)]; rfl
theorem eqF_br {s : Bs} (h : (40 : UInt8) ∈ s) : ∀ k, eqF s (word k ++ emptyW) = false := by
  intro k
  have h40 : (40 : UInt8) ∈ s.map up := List.mem_map.2 ⟨40, h, rfl⟩
  unfold eqF
  rw [beq_eq_false_iff_ne]
  intro he
  rw [he] at h40
  have hno : ∀ k, (40 : UInt8) ∉ (word k ++ emptyW).map up := by
    intro k
    match k with
    | 0 | 1 | 2 | 3 | 4 | 5 | 6 | 7 => simp [word, emptyW, up]
    | n + 8 => simp [word, emptyW, up]
  exact hno k h40
theorem low_head (small : Bool) : ∀ k, 1 ≤ k → k ≤ 7 → ∃ a m, low small (word k) = a :: m ∧ isSp a = false := by
  intro k h1 h7
  have hk : k = 1 ∨ k = 2 ∨ k = 3 ∨ k = 4 ∨ k = 5 ∨ k = 6 ∨ k = 7 := by omega
  rcases hk with rfl | rfl | rfl | rfl | rfl | rfl | rfl <;> cases small <;> exact ⟨_, _, rfl, rfl⟩
theorem low_plain (small : Bool) : ∀ k, ∀ c ∈ low small (word k), c ≠ 40 ∧ c ≠ 41 ∧ c ≠ 44 := by
  intro k
  match k with
  | 0 | 1 | 2 | 3 | 4 | 5 | 6 | 7 => cases small <;> simp [low, word]
  | n + 8 => cases small <;> simp [low, word]

/-! ### Rows of readings -/
theorem mapR_ok {α β γ : Type} {f : β → Rd γ} {g : α → β} {h : α → γ} : ∀ l : List α, (∀ x ∈ l, f (g x) = .ok (h x)) → mapR f (l.map g) = .ok (l.map h)
  | [], _ => rfl
  | a :: l, hf => by
    have ih := mapR_ok l fun x hx => hf x (List.mem_cons_of_mem _ hx)
    simp only [List.map_cons, mapR, hf a List.mem_cons_self, Rd.bind, ih, Rd.map]
theorem mapR_id {α β : Type} {f : β → Rd α} {g : α → β} (l : List α) (hf : ∀ x ∈ l, f (g x) = .ok x) : mapR f (l.map g) = .ok l := by
  have := mapR_ok (h := id) l hf
  simpa using this
theorem ends_join {sep : Bs} : ∀ ps : List Bs, ps ≠ [] → (∀ p ∈ ps, Ends p) → Ends (joinS sep ps)
  | [], h, _ => absurd rfl h
  | [p], _, hp => hp p List.mem_cons_self
  | p :: q :: l, _, hp => by
    obtain ⟨a, m, b, rfl, ha, hb⟩ := hp p List.mem_cons_self
    obtain ⟨a', m', b', he, _, hb'⟩ := ends_join (sep := sep) (q :: l) (by simp) fun r hr => hp r (List.mem_cons_of_mem _ hr)
    rw [joinS, he]
    exact ⟨a, m ++ [b] ++ sep ++ a' :: m', b', by simp, ha, hb'⟩
theorem joinS_snoc {sep : Bs} {p : Bs} {c : UInt8} : ∀ ps : List Bs, joinS sep (ps ++ [p ++ [c]]) = joinS sep (ps ++ [p]) ++ [c]
  | [] => rfl
  | [q] => by simp [joinS]
  | q :: r :: l => by
    have := joinS_snoc (sep := sep) (p := p) (c := c) (r :: l)
    simp only [List.cons_append] at this ⊢
    simp only [joinS, this, List.append_assoc]
theorem snoc_cases {α : Type} {l : List α} (h : l ≠ []) : ∃ m b, l = m ++ [b] := ⟨l.dropLast, l.getLast h, (List.dropLast_concat_getLast h).symm⟩

theorem inBr_br {α : Type} {f : Bs → Rd α} {sp l : Bs} (hsp : ∀ c ∈ sp, isSp c = true) (h : Ends l) : inBr f (sp ++ br l) = f l := by
  unfold inBr; rw [trimBr_br hsp, trim_ends h]
theorem inBr_br0 {α : Type} {f : Bs → Rd α} {l : Bs} (h : Ends l) : inBr f (br l) = f l := inBr_br (sp := []) (by simp) h
section
variable {pf : Bs → Rd Nat} {nf : Nat → Bs} {sp : Bs}

def PtOk (pf : Bs → Rd Nat) (nf : Nat → Bs) (p : Pt) : Prop := NumOk pf nf p.1 ∧ NumOk pf nf p.2

theorem ends_pts {ps : List Pt} (h0 : ps ≠ []) (h : ∀ p ∈ ps, PtOk pf nf p) : Ends (joinS (44 :: sp) (ps.map (ptT nf))) := by
  refine ends_join _ (by simpa using h0) fun q hq => ?_
  obtain ⟨p, hp, rfl⟩ := List.mem_map.1 hq
  exact ends_pt (h p hp).1 (h p hp).2
theorem no41_pts (hsp : ∀ c ∈ sp, isSp c = true) : ∀ {ps : List Pt}, (∀ p ∈ ps, PtOk pf nf p) → ∀ c ∈ joinS (44 :: sp) (ps.map (ptT nf)), c ≠ 41 ∧ c ≠ 40
  | [], _, c, hc => by simp [joinS] at hc
  | [p], h, c, hc => no41_pt (h p (by simp)).1 (h p (by simp)).2 c (by simpa [joinS] using hc)
  | p :: q :: l, h, c, hc => by
    simp only [List.map_cons, joinS, List.mem_append, List.mem_cons] at hc
    rcases hc with (hc | rfl | hc) | hc
    · exact no41_pt (h p (by simp)).1 (h p (by simp)).2 c hc
    · decide
    · have := hsp c hc; constructor <;> (rintro rfl; simp [isSp] at this)
    · exact no41_pts hsp (fun r hr => h r (List.mem_cons_of_mem _ hr)) c hc

theorem readPts_join (hsp : ∀ c ∈ sp, isSp c = true) {ps : List Pt} (h0 : ps ≠ []) (h : ∀ p ∈ ps, PtOk pf nf p) : readPts pf (joinS (44 :: sp) (ps.map (ptT nf))) = .ok ps := by
  unfold readPts
  rw [splitC_join hsp _ (by simpa using h0) fun q hq => ?_]
  · exact mapR_id _ fun p hp => parseP_pt (h p hp).1 (h p hp).2
  · obtain ⟨p, hp, rfl⟩ := List.mem_map.1 hq
    exact pieceC_pt (h p hp).1 (h p hp).2
theorem pieceP_pts (hsp : ∀ c ∈ sp, isSp c = true) {ps : List Pt} (h : ∀ p ∈ ps, PtOk pf nf p) : PieceP (ptsT nf sp ps) := ⟨_, rfl, fun c hc => (no41_pts hsp h c hc).1⟩
theorem ring_ok (hsp : ∀ c ∈ sp, isSp c = true) {ps : List Pt} (h0 : ps ≠ []) (h : ∀ p ∈ ps, PtOk pf nf p) : inBr (readPts pf) (ptsT nf sp ps) = .ok ps := by
  unfold ptsT; rw [inBr_br0 (ends_pts h0 h), readPts_join hsp h0 h]
theorem ends_rings {rs : List (List Pt)} (h0 : rs ≠ []) : Ends (joinS (44 :: sp) (rs.map (ptsT nf sp))) := by
  refine ends_join _ (by simpa using h0) fun q hq => ?_
  obtain ⟨p, hp, rfl⟩ := List.mem_map.1 hq
  exact ends_br _
theorem readRings_join (hsp : ∀ c ∈ sp, isSp c = true) {rs : List (List Pt)} (h0 : rs ≠ []) (h1 : ∀ r ∈ rs, r ≠ []) (h : ∀ r ∈ rs, ∀ p ∈ r, PtOk pf nf p) : readRings pf (joinS (44 :: sp) (rs.map (ptsT nf sp))) = .ok rs := by
  unfold readRings
  have hs : splitP false (joinS (44 :: sp) (rs.map (ptsT nf sp))) = rs.map (ptsT nf sp) := by
    obtain ⟨l, r, rfl⟩ := snoc_cases h0
    rw [List.map_append, List.map_singleton]
    refine splitP_single hsp (.inl (pieceP_pts hsp (h r (by simp)))) _ fun q hq => ?_
    obtain ⟨p, hp, rfl⟩ := List.mem_map.1 hq
    exact pieceP_pts hsp (h p (by simp [hp]))
  rw [hs]
  exact mapR_id _ fun r hr => ring_ok hsp (h1 r hr) (h r hr)
theorem pieceD_rings (hsp : ∀ c ∈ sp, isSp c = true) {rs : List (List Pt)} (h0 : rs ≠ []) (h : ∀ r ∈ rs, ∀ p ∈ r, PtOk pf nf p) : PieceD (ringsT nf sp rs) := by
  obtain ⟨i, hi, hs⟩ := join_rings hsp (rs.map (ptsT nf sp)) (by simpa using h0) fun q hq => by
    obtain ⟨p, hp, rfl⟩ := List.mem_map.1 hq
    exact pieceP_pts hsp (h p hp)
  exact ⟨i, by simp [ringsT, br, hi], hs⟩
theorem readPolys_join (hsp : ∀ c ∈ sp, isSp c = true) {qs : List (List (List Pt))} (h0 : qs ≠ []) (h1 : ∀ q ∈ qs, q ≠ [] ∧ ∀ r ∈ q, r ≠ []) (h : ∀ q ∈ qs, ∀ r ∈ q, ∀ p ∈ r, PtOk pf nf p) : readPolys pf (joinS (44 :: sp) (qs.map (ringsT nf sp))) = .ok qs := by
  unfold readPolys
  have hs : splitP true (joinS (44 :: sp) (qs.map (ringsT nf sp))) = qs.map (ringsT nf sp) := by
    obtain ⟨l, r, rfl⟩ := snoc_cases h0
    rw [List.map_append, List.map_singleton]
    refine splitP_double hsp (.inl (pieceD_rings hsp (h1 r (by simp)).1 (h r (by simp)))) _ fun q hq => ?_
    obtain ⟨p, hp, rfl⟩ := List.mem_map.1 hq
    exact pieceD_rings hsp (h1 p (by simp [hp])).1 (h p (by simp [hp]))
  rw [hs]
  refine mapR_id _ fun q hq => ?_
  unfold ringsT
  rw [inBr_br0 (ends_rings (h1 q hq).1), readRings_join hsp (h1 q hq).1 (h1 q hq).2 (h q hq)]
theorem pieceC_brpt {p : Pt} (h : PtOk pf nf p) : PieceC (br (ptT nf p)) :=
  ⟨⟨40, ptT nf p ++ [41], rfl, rfl⟩, ⟨40 :: ptT nf p, 41, rfl, rfl⟩, fun c hc => by
    simp only [br, List.cons_append, List.mem_cons, List.mem_append, List.mem_singleton] at hc
    rcases hc with rfl | hc | rfl | hc
    · decide
    · exact (pieceC_pt h.1 h.2).comma c hc
    · decide
    · cases hc⟩
theorem readMP_join (hsp : ∀ c ∈ sp, isSp c = true) {ps : List Pt} (h0 : ps ≠ []) (h : ∀ p ∈ ps, PtOk pf nf p) : readMP pf (joinS (44 :: sp) (ps.map fun p => br (ptT nf p))) = .ok ps := by
  unfold readMP
  rw [splitC_join hsp _ (by simpa using h0) fun q hq => ?_]
  · refine mapR_id _ fun p hp => ?_
    rw [inBr_br0 (ends_pt (h p hp).1 (h p hp).2)]
    exact parseP_pt (h p hp).1 (h p hp).2
  · obtain ⟨p, hp, rfl⟩ := List.mem_map.1 hq
    exact pieceC_brpt (h p hp)
end
end Go.Proofs.YtghajgdiaopioaaGreatDoor.Tx
end
section
/- Plain laws: the text of a shape in whose lists something is, is read as it; without its last bracket it is an error; so are texts of no kind. Conditions: the numbers' texts are read as the numbers. -/
namespace Go.Proofs.YtghajgdiaopioaaGreatDoor.Tx
section
variable {pf : Bs → Rd Nat} {nf : Nat → Bs} {sp : Bs} {small : Bool}

theorem texts_eq (gs : List Geo) : text.texts nf sp small gs = gs.map (text nf sp small) := by
  induction gs with
  | nil => rfl
  | cons g l ih => rw [text.texts, ih]; rfl
theorem deeps_le {gs : List Geo} {n : Nat} (h : Geo.deep.deeps gs ≤ n) : ∀ g ∈ gs, g.deep ≤ n := by
  induction gs with
  | nil => intro g hg; cases hg
  | cons a l ih =>
    rw [Geo.deep.deeps] at h
    intro g hg
    rcases List.mem_cons.1 hg with rfl | hg
    · omega
    · exact ih (by omega) g hg

/-- The word, the blank, and what stands in the outermost brackets. -/
def core (nf : Nat → Bs) (sp : Bs) (small : Bool) : Geo → Bs
  | .point p => ptT nf p
  | .line ps => joinS (44 :: sp) (ps.map (ptT nf))
  | .poly rs => joinS (44 :: sp) (rs.map (ptsT nf sp))
  | .mpoint ps => joinS (44 :: sp) (ps.map fun p => br (ptT nf p))
  | .mline ls => joinS (44 :: sp) (ls.map (ptsT nf sp))
  | .mpoly qs => joinS (44 :: sp) (qs.map (ringsT nf sp))
  | .coll gs => joinS (44 :: sp) (gs.map (text nf sp small))
theorem text_core (g : Geo) : text nf sp small g = low small (word g.kind) ++ sp ++ br (core nf sp small g) := by
  cases g <;> simp only [text, core, Geo.kind, ptsT, ringsT, texts_eq]
theorem kind_range (g : Geo) : 1 ≤ g.kind ∧ g.kind ≤ 7 := by cases g <;> simp [Geo.kind]
theorem ends_text (g : Geo) : Ends (text nf sp small g) := by
  obtain ⟨a, m, h, ha⟩ := low_head small g.kind (kind_range g).1 (kind_range g).2
  rw [text_core, h]
  exact ⟨a, m ++ sp ++ 40 :: core nf sp small g, 41, by simp [br], ha, rfl⟩
theorem text_has (g : Geo) : (40 : UInt8) ∈ text nf sp small g := by rw [text_core]; simp [br]

theorem pass_pt {p : Pt} (h : PtOk pf nf p) {d : Int} : Pass d (ptT nf p) d := .plains d fun c hc => ⟨(no41_pt h.1 h.2 c hc).2, (no41_pt h.1 h.2 c hc).1, (pieceC_pt h.1 h.2).comma c hc⟩
theorem pass_pts (hsp : ∀ c ∈ sp, isSp c = true) {ps : List Pt} (h : ∀ p ∈ ps, PtOk pf nf p) {d : Int} (hd : d ≠ 0) : Pass d (joinS (44 :: sp) (ps.map (ptT nf))) d := by
  refine .join hsp hd _ fun q hq => ?_
  obtain ⟨p, hp, rfl⟩ := List.mem_map.1 hq
  exact pass_pt (h p hp)
theorem pass_rings (hsp : ∀ c ∈ sp, isSp c = true) {rs : List (List Pt)} (h : ∀ r ∈ rs, ∀ p ∈ r, PtOk pf nf p) {d : Int} (hd : 0 < d) : Pass d (joinS (44 :: sp) (rs.map (ptsT nf sp))) d := by
  refine .join hsp (by omega) _ fun q hq => ?_
  obtain ⟨r, hr, rfl⟩ := List.mem_map.1 hq
  exact .br (pass_pts hsp (h r hr) (by omega))
theorem pass_core (hsp : ∀ c ∈ sp, isSp c = true) : ∀ (n : Nat) (g : Geo), g.deep ≤ n → AllC (NumOk pf nf) g → ∀ d : Int, 0 < d → Pass d (core nf sp small g) d ∧ ∀ d : Int, 0 ≤ d → Pass d (text nf sp small g) d := by
  intro n
  induction n with
  | zero => intro g hg; exfalso; cases g <;> simp [Geo.deep] at hg
  | succ n ih =>
    intro g hg ha d hd
    have hcore : ∀ d : Int, 0 < d → Pass d (core nf sp small g) d := by
      intro d hd
      cases ha with
      | point h => exact pass_pt h
      | line h => exact pass_pts hsp h (by omega)
      | poly h => exact pass_rings hsp h hd
      | mpoint h =>
        refine .join hsp (by omega) _ fun q hq => ?_
        obtain ⟨p, hp, rfl⟩ := List.mem_map.1 hq
        exact .br (pass_pt (h p hp))
      | mline h => exact pass_rings hsp h hd
      | mpoly h =>
        refine .join hsp (by omega) _ fun q hq => ?_
        obtain ⟨p, hp, rfl⟩ := List.mem_map.1 hq
        exact .br (pass_rings hsp (h p hp) (by omega))
      | @coll gs h =>
        refine .join hsp (by omega) _ fun q hq => ?_
        obtain ⟨x, hx, rfl⟩ := List.mem_map.1 hq
        exact (ih x (deeps_le (by simp [Geo.deep] at hg; exact hg) x hx) (h x hx) d hd).2 d (by omega)
    refine ⟨hcore d hd, fun d hd => ?_⟩
    rw [text_core]
    exact ((Pass.plains d (low_plain small g.kind)).append (Pass.sps hsp d)).append (.br (hcore (d + 1) (by omega)))

/-- How what stands in the outermost brackets begins and ends. -/
theorem ends_core {g : Geo} (hf : Full g) (ha : AllC (NumOk pf nf) g) : Ends (core nf sp small g) := by
  cases hf with
  | point p => cases ha with | point h => exact ends_pt h.1 h.2
  | line h0 => cases ha with | line h => exact ends_pts h0 h
  | poly h0 _ => exact ends_rings h0
  | mpoint h0 =>
    refine ends_join _ (by simpa using h0) fun q hq => ?_
    obtain ⟨p, hp, rfl⟩ := List.mem_map.1 hq
    exact ends_br _
  | mline h0 _ => exact ends_rings h0
  | mpoly h0 _ =>
    refine ends_join _ (by simpa using h0) fun q hq => ?_
    obtain ⟨p, hp, rfl⟩ := List.mem_map.1 hq
    exact ends_br _
  | coll h0 _ =>
    refine ends_join _ (by simpa using h0) fun q hq => ?_
    obtain ⟨g, _, rfl⟩ := List.mem_map.1 hq
    exact ends_text g
theorem drop_text {n : Nat} (g : Geo) (h : (word g.kind).length = n) : (text nf sp small g).drop n = sp ++ br (core nf sp small g) := by
  rw [text_core, List.append_assoc, drop_word small g.kind _ h]
/-- What unmarshalX makes of the text of a shape of its kind. -/
theorem um_text (hsp : ∀ c ∈ sp, isSp c = true) {sub : Bs → Rd Geo} {g : Geo} (hf : Full g) (ha : AllC (NumOk pf nf) g) (hsub : ∀ gs, g = .coll gs → ∀ x ∈ gs, sub (text nf sp small x) = .ok x) :
    um pf sub g.kind (text nf sp small g) = .ok g := by
  have h40 := text_has (nf := nf) (sp := sp) (small := small) g
  have he := ends_core (sp := sp) (small := small) hf ha
  have hp := pass_core (small := small) hsp g.deep g (Nat.le_refl _) ha
  cases g with
  | point p =>
    cases ha with | point h =>
    simp only [um, Geo.kind]
    rw [drop_text (n := 5) (.point p) rfl, inBr_br hsp he]
    simp only [core]
    rw [parseP_pt h.1 h.2]; rfl
  | line ps =>
    cases ha with | line h =>
    cases hf with | line h0 =>
    simp only [um, Geo.kind]
    rw [eqF_br h40, drop_text (n := 10) (.line ps) rfl, inBr_br hsp he]
    simp only [core, Bool.false_eq_true, if_false]
    rw [readPts_join hsp h0 h]; rfl
  | poly rs =>
    cases ha with | poly h =>
    cases hf with | poly h0 h1 =>
    simp only [um, Geo.kind]
    rw [eqF_br h40, drop_text (n := 7) (.poly rs) rfl, inBr_br hsp he]
    simp only [core, Bool.false_eq_true, if_false]
    rw [readRings_join hsp h0 h1 h]; rfl
  | mpoint ps =>
    cases ha with | mpoint h =>
    cases hf with | mpoint h0 =>
    simp only [um, Geo.kind]
    rw [eqF_br h40, drop_text (n := 10) (.mpoint ps) rfl, inBr_br hsp he]
    simp only [core, Bool.false_eq_true, if_false]
    rw [readMP_join hsp h0 h]; rfl
  | mline rs =>
    cases ha with | mline h =>
    cases hf with | mline h0 h1 =>
    simp only [um, Geo.kind]
    rw [eqF_br h40, drop_text (n := 15) (.mline rs) rfl, inBr_br hsp he]
    simp only [core, Bool.false_eq_true, if_false]
    rw [readRings_join hsp h0 h1 h]; rfl
  | mpoly qs =>
    cases ha with | mpoly h =>
    cases hf with | mpoly h0 h1 =>
    simp only [um, Geo.kind]
    rw [eqF_br h40, drop_text (n := 12) (.mpoly qs) rfl, inBr_br hsp he]
    simp only [core, Bool.false_eq_true, if_false]
    rw [readPolys_join hsp h0 h1 h]; rfl
  | coll gs =>
    cases ha with | coll h =>
    cases hf with | coll h0 h1 =>
    simp only [um, Geo.kind]
    have hlen : ¬ (text nf sp small (.coll gs)).length = 18 := by
      rw [text_core]; simp only [Geo.kind, List.length_append, low_length, br, List.length_cons]
      have : (word 7).length = 18 := rfl
      omega
    rw [eqF_br h40, drop_text (n := 18) (.coll gs) rfl, inBr_br hsp he, if_neg hlen]
    simp only [core, Bool.false_eq_true, if_false]
    have hpass : ∀ x ∈ gs, Pass 0 (text nf sp small x) 0 := fun x hx => ((pass_core (small := small) hsp x.deep x (Nat.le_refl _) (h x hx)) 1 (by omega)).2 0 (by omega)
    have hs : splitG (joinS (44 :: sp) (gs.map (text nf sp small))) = gs.map (text nf sp small) := by
      obtain ⟨l, r, rfl⟩ := snoc_cases h0
      rw [List.map_append, List.map_singleton, splitG_join hsp ⟨0, hpass r (by simp)⟩ _ fun q hq => by
        obtain ⟨p, hp, rfl⟩ := List.mem_map.1 hq
        exact hpass p (by simp [hp])]
      rw [List.map_append, List.map_singleton, trim_ends (ends_text r), List.map_map]
      congr 1
      exact List.map_congr_left fun x _ => trim_ends (ends_text x)
    rw [hs, mapR_id gs fun x hx => hsub gs rfl x hx]; rfl

/-- ████ What is written in the well known way is read as the shape. ████ -/
theorem read_text (hsp : ∀ c ∈ sp, isSp c = true) : ∀ (n : Nat) (g : Geo), g.deep ≤ n → Full g → AllC (NumOk pf nf) g → readG pf n (text nf sp small g) = .ok g := by
  intro n
  induction n with
  | zero => intro g hg; exfalso; cases g <;> simp [Geo.deep] at hg
  | succ n ih =>
    intro g hg hf ha
    rw [readG, trim_ends (ends_text g)]
    have hk : kindOf (text nf sp small g) = g.kind := by rw [text_core, List.append_assoc]; exact kindOf_word small _ _ (kind_range g).1 (kind_range g).2
    rw [hk]
    refine um_text hsp hf ha fun gs he x hx => ?_
    subst he
    cases hf with | coll h0 h1 =>
    cases ha with | coll h =>
    exact ih x (deeps_le (by simp [Geo.deep] at hg; exact hg) x hx) (h1 x hx) (h x hx)
/-! ### Other texts -/
/-- "LINESTRING(1 2,3". -/
theorem read_open (n : Nat) : readG pf (n + 1) [76, 73, 78, 69, 83, 84, 82, 73, 78, 71, 40, 49, 32, 50, 44, 51] = .err := rfl
/-- An empty shape of a kind. -/
def emptyOf : Nat → Geo
  | 2 => .line [] | 3 => .poly [] | 4 => .mpoint [] | 5 => .mline [] | 6 => .mpoly [] | _ => .coll []
theorem read_empty (n : Nat) : ∀ k, 2 ≤ k → k ≤ 7 → readG pf (n + 1) (word k ++ emptyW) = .ok (emptyOf k) := by
  intro k h1 h7
  have hk : k = 2 ∨ k = 3 ∨ k = 4 ∨ k = 5 ∨ k = 6 ∨ k = 7 := by omega
  rcases hk with rfl | rfl | rfl | rfl | rfl | rfl <;> rfl
end
end Go.Proofs.YtghajgdiaopioaaGreatDoor.Tx
end
section
/- What all walks over this program share: kinds of data in memory, the listed variables, small laws. Conditions: none. -/
namespace Go.Proofs.YtghajgdiaopioaaGreatDoor
open Go.RowKit Go.Proofs Tx
/-- A string of bytes as a value. -/
abbrev S (l : Bs) : Value := .string ⟨l.toArray⟩
theorem ret_int {k : IntKind} {a b : Int} (h : a = b) : Ending.returned (.int k a) = .returned (.int k b) := by rw [h]
theorem ret_bool {a b : Bool} (h : a = b) : Ending.returned (.bool a) = .returned (.bool b) := by rw [h]
theorem ret_S {a b : Bs} (h : a = b) : Ending.returned (S a) = .returned (S b) := by rw [h]
theorem size_S (l : Bs) : (ByteArray.mk l.toArray).size = l.length := by simp [ByteArray.size]
theorem u8_beq (c d : UInt8) : ((c.toNat : Int) == (d.toNat : Int)) = (c == d) := by
  rw [Bool.eq_iff_iff, beq_iff_eq, beq_iff_eq, ← UInt8.toNat_inj]; omega
theorem sp_tests (c : UInt8) : isSp c = ((c.toNat : Int) == 32 || (c.toNat : Int) == 9 || (c.toNat : Int) == 10) := by
  unfold isSp
  rw [← u8_beq c 32, ← u8_beq c 9, ← u8_beq c 10]; rfl
theorem nsp_tests {c : UInt8} (h : isSp c = false) : (((c.toNat : Int) == 32) = false ∧ ((c.toNat : Int) == 9) = false ∧ ((c.toNat : Int) == 10) = false) ∧ ((c.toNat : Int) != 32) = true ∧ ((c.toNat : Int) != 9) = true ∧ ((c.toNat : Int) != 10) = true := by
  rw [sp_tests] at h
  simp only [Bool.or_eq_false_iff] at h
  obtain ⟨⟨h1, h2⟩, h3⟩ := h
  exact ⟨⟨h1, h2, h3⟩, by simp [bne, h1], by simp [bne, h2], by simp [bne, h3]⟩
theorem take_ge {p : UInt8 → Bool} {l : Bs} {k : Nat} (hk : k < (l.takeWhile p).length) : ∃ h : k < l.length, p l[k] = true := by
  have hle : (l.takeWhile p).length ≤ l.length := (List.takeWhile_sublist _).length_le
  refine ⟨by omega, ?_⟩
  have h1 : (l.takeWhile p)[k] = l[k] := by
    have := List.takeWhile_prefix (p := p) (l := l)
    exact this.getElem hk
  have := List.all_takeWhile (p := p) (l := l)
  rw [← h1]
  exact List.all_eq_true.1 this _ (List.getElem_mem hk)
theorem take_eq {p : UInt8 → Bool} {l : Bs} (h : (l.takeWhile p).length < l.length) : p (l[(l.takeWhile p).length]'h) = false := by
  induction l with
  | nil => simp at h
  | cons c l ih =>
    by_cases hc : p c = true
    · simp only [List.takeWhile_cons_of_pos hc, List.length_cons, List.getElem_cons_succ] at h ⊢
      exact ih (by omega)
    · simp only [List.takeWhile_cons_of_neg hc, List.length_nil, List.getElem_cons_zero]
      simpa using hc

@[go_sem] theorem extract_S (l : Bs) (a b : Nat) : (ByteArray.mk l.toArray).extract a b = ⟨((l.take b).drop a).toArray⟩ := by
  apply ByteArray.ext
  rw [ByteArray.data_extract]
  simp [List.drop_take]

@[go_sem] theorem byte_S (l : Bs) (k : Nat) (h : k < (ByteArray.mk l.toArray).size) : (ByteArray.mk l.toArray)[k]'h = l[k]'(by simpa [ByteArray.size] using h) := rfl
@[go_sem] theorem run_store_float (P : Program) (w : World) (a : Addr) (m : Mode) (k : FloatKind) (b : Nat) : (Go.store a (.float k b) m).run P w = stored P w a (.float k b) m := run_store P w a _ m rfl

/-! ### The kinds of data -/
open Go.Proofs.YtghajgdiaopioaaGreatDoorW.PrintWords
/-- A float by its bits; a point, of either package. -/
def floK : Kd Nat := Kd.scalar (Value.float .f64) (fun _ => rfl)
def ptK : Kd Pt := Kd.pair floK floK
theorem ptK_M (w : World) (base : Nat) (ok : Nat → Prop) (p : Pt) : ptK.M w base ok p [.float .f64 p.1, .float .f64 p.2] := ⟨[.float .f64 p.1], [.float .f64 p.2], rfl, rfl, rfl⟩
theorem R_sl {α : Type} {d : Kd α} {e : Nat} {w : World} {base : Nat} {ok : Nat → Prop} {v : Value} {xs : List α} (h : d.R e w base ok v xs) : ∃ A n c, v = .slice A n c := by
  obtain ⟨A, c, rfl⟩ := Kd.R_slice h; exact ⟨A, _, c, rfl⟩

/-! ### Blocks of one cell -/
theorem box_cell {w : World} {b : Nat} {v : Value} {t : TypeId} (h : w.heap[b]? = some (.cells #[v] t (0, 0))) : w.cell? ⟨b, 0, none⟩ = some v := by simp [World.cell?, h]
theorem box_free {w : World} {b : Nat} {v : Value} {t : TypeId} (h : w.heap[b]? = some (.cells #[v] t (0, 0))) : w.frozen? ⟨b, 0, none⟩ = false := by simp [World.frozen?, h]
theorem box_lt {w : World} {b : Nat} {o : Obj} (h : w.heap[b]? = some o) : b < w.heap.size := (Array.getElem?_eq_some_iff.1 h).1
theorem box_set {w : World} {b : Nat} {v u : Value} {t : TypeId} (h : w.heap[b]? = some (.cells #[v] t (0, 0))) : (w.setCell ⟨b, 0, none⟩ u).heap[b]? = some (.cells #[u] t (0, 0)) := by
  simp [World.setCell, Array.getElem?_modify, h]
theorem box_below {w w' : World} {B b : Nat} {o : Obj} (h : w.heap[b]? = some o) (hb : Below B w w') (hB : b < B) : w'.heap[b]? = some o := (hb.block b hB).trans h

/-! ### The listed variables -/
theorem cell_below {w w' : World} {B : Nat} {a : Addr} {v : Value} (h : w.cell? a = some v) (hb : Below B w w') (hB : a.block < B) : w'.cell? a = some v := (hb.cell hB).trans h
/-- What the listed variables hold, all of it in blocks under B0. -/
def f10L : List Nat := [4607182418800017408, 4621819117588971520, 4636737291354636288, 4652007308841189376, 4666723172467343360, 4681608360884174848, 4696837146684686336, 4711630319722168320, 4726483295884279808, 4741671816366391296, 4756540486875873280, 4771362005757984768, 4786511204640096256, 4801453603149578240, 4816244402031689728, 4831355200913801216, 4846369599423283200, 4861130398305394688, 4876203697187506176, 4891288408196988160, 4906019910204099648, 4921056587992461136, 4936209963552724370]
/-- The table of 10^0 .. 10^22 as floats. -/
def F10 (B0 : Nat) (w : World) : Prop := ∃ (a : Addr) (c : Nat), a.block < B0 ∧ w.cell? ⟨21, 0, none⟩ = some (.slice (some a) 23 c) ∧ 23 ≤ c ∧ ∀ k x, f10L[k]? = some x → w.cell? (a.add k) = some (.float .f64 x)
structure Gl (B0 : Nat) (w : World) : Prop where
  le : B0 ≤ w.heap.size
  big : 24 ≤ B0
  e1 : ∃ u v, w.cell? ⟨1, 0, none⟩ = some (.iface u v)
  e4 : ∃ u v, w.cell? ⟨4, 0, none⟩ = some (.iface u v)
  opt : w.cell? ⟨14, 0, none⟩ = some (.bool true)
  fi0 : w.cell? ⟨16, 0, none⟩ = some (.int .u64 52)
  fi1 : w.cell? ⟨16, 1, none⟩ = some (.int .u64 11)
  fi2 : w.cell? ⟨16, 2, none⟩ = some (.int .i64 (-1023))
  tens : ∀ q x, Go.Pinned.pow10Rows[q]? = some x → w.cell? ⟨22, q * 2, none⟩ = some (.int .u64 x.1) ∧ w.cell? ⟨22, q * 2 + 1, none⟩ = some (.int .u64 x.2)
  f10 : F10 B0 w
theorem Gl.below {B0 B : Nat} {w w' : World} (h : Gl B0 w) (hb : Below B w w') (hB : B0 ≤ B) : Gl B0 w' where
  le := Nat.le_trans h.le hb.size
  big := h.big
  e1 := let ⟨u, v, e⟩ := h.e1; ⟨u, v, cell_below e hb (by have := h.big; show 1 < B; omega)⟩
  e4 := let ⟨u, v, e⟩ := h.e4; ⟨u, v, cell_below e hb (by have := h.big; show 4 < B; omega)⟩
  opt := cell_below h.opt hb (by have := h.big; show 14 < B; omega)
  fi0 := cell_below h.fi0 hb (by have := h.big; show 16 < B; omega)
  fi1 := cell_below h.fi1 hb (by have := h.big; show 16 < B; omega)
  fi2 := cell_below h.fi2 hb (by have := h.big; show 16 < B; omega)
  tens := fun q x hx => ⟨cell_below (h.tens q x hx).1 hb (by have := h.big; show 22 < B; omega), cell_below (h.tens q x hx).2 hb (by have := h.big; show 22 < B; omega)⟩
  f10 := by
    obtain ⟨a, c, h1, h2, h3, h4⟩ := h.f10
    have hBB : a.block < B := Nat.lt_of_lt_of_le h1 hB
    refine ⟨a, c, h1, cell_below h2 hb (by have := h.big; show 21 < B; omega), h3, fun k x hx => cell_below (h4 k x hx) hb ?_⟩
    rw [show (a.add k).block = a.block by unfold Addr.add; split <;> rfl]
    exact hBB
theorem Gl.low {B0 : Nat} {w w' : World} (h : Gl B0 w) (hb : Below w.heap.size w w') : Gl B0 w' := h.below hb h.le

theorem below_drewN (w : World) (n : Nat) : Below w.heap.size w (w.drewN n) := ⟨rfl, rfl, rfl, Nat.le_refl _, fun _ _ => rfl⟩
theorem below_drew (w : World) : Below w.heap.size w w.drew := ⟨rfl, rfl, rfl, Nat.le_refl _, fun _ _ => rfl⟩
end Go.Proofs.YtghajgdiaopioaaGreatDoor
end
section
/- Walks: the reader's steps on a text: blanks, brackets. Conditions: stand in each contract. -/
namespace Go.Proofs.YtghajgdiaopioaaGreatDoor
open Go.RowKit Go.Proofs Tx
set_option maxHeartbeats 1000000 in
theorem trim_ne (l : Bs) (w : World) (hl : l.length ≤ 9223372036854775807) (h0 : l ≠ []) :
    Calls Tryz.prog 50 #[S l] w fun e w' => e = .returned (S (trim l)) ∧ w = w' := by
  have hpos : 0 < l.length := List.length_pos_iff.2 h0
  have hlen0 : ((l.length : Int) == 0) = false := by rw [beq_eq_false_iff_ne]; omega
  have HT := Lib.hid (trim_cut l)
  obtain ⟨a, ha⟩ : ∃ a, a = (l.takeWhile isSp).length := ⟨_, rfl⟩
  obtain ⟨b, hb⟩ : ∃ b, b = (l.reverse.takeWhile isSp).length := ⟨_, rfl⟩
  have hal : a ≤ l.length := by rw [ha]; exact (List.takeWhile_sublist _).length_le
  have hbl : b ≤ l.length := by rw [hb]; have := (List.takeWhile_sublist (p := isSp) (l := l.reverse)).length_le; simpa using this
  have HA := Lib.hid ha
  have HB := Lib.hid hb
  clear ha hb h0
  go_enter Tryz.func50, Tryz.ntmps50
  go_wp2
  go_loop [3] (fun i => ∃ k : Nat, k ≤ a ∧ i = .int .i64 k) (fun i => l.length - (intOf i).toNat)
  case atStart => exact ⟨0, Nat.zero_le _, rfl⟩
  case round =>
    obtain ⟨k, hk, rfl⟩ := hrel
    by_cases hgo : k < a
    · obtain ⟨hlt, hsp⟩ := take_ge (p := isSp) (l := l) (k := k) (by rw [← HA.out]; exact hgo)
      obtain ⟨c, hc⟩ : ∃ c : UInt8, ∀ h, (ByteArray.mk l.toArray)[k]'h = c := ⟨l[k], fun _ => rfl⟩
      have hsp2 : ((c.toNat : Int) == 32 || (c.toNat : Int) == 9 || (c.toNat : Int) == 10) = true := by
        rw [← sp_tests, ← hc (by simpa [ByteArray.size] using hlt)]; exact hsp
      have HS := Lib.hid hsp2
      clear hsp2 hsp
      go_wp2
      all_goals first
        | (refine ⟨⟨k + 1, by omega, by go_num⟩, by simp [intOf]; omega⟩)
        | (exfalso; have := HS.out; simp_all; done)
    · obtain rfl : k = a := by omega
      have hcase : (∃ c : UInt8, (∀ h, (ByteArray.mk l.toArray)[k]'h = c) ∧ k < l.length ∧ isSp c = false) ∨ ¬ k < l.length := by
        by_cases hlt : k < l.length
        · have := take_eq (p := isSp) (l := l) (by rw [← HA.out]; exact hlt)
          refine .inl ⟨l[k], fun _ => rfl, hlt, ?_⟩
          have e := HA.out
          simp only [← e] at this
          exact this
        · exact .inr hlt
      rcases hcase with ⟨c, hc, hlt, hsp⟩ | hlt
      case' inl =>
        obtain ⟨⟨t1, t2, t3⟩, t4, t5, t6⟩ := nsp_tests hsp
        clear hsp
        go_wp2
        clear t1 t2 t3 t4 t5 t6 hc
      case' inr => go_wp2
      all_goals
        clear hgo hk
        have hkl : k ≤ l.length := hal
        go_loop [4] (fun i => ∃ j : Int, -1 ≤ j ∧ (l.length : Int) - 1 - b ≤ j ∧ j ≤ l.length - 1 ∧ i = .int .i64 j) (fun i => (intOf i + 1).toNat)
        case atStart => exact ⟨_, by omega, by omega, by omega, rfl⟩
        case round =>
          obtain ⟨j, hj1, hj2, hj3, rfl⟩ := hrel
          by_cases hgo : (l.length : Int) - 1 - b < j
          · obtain ⟨r, rfl⟩ : ∃ r : Nat, j = r := ⟨j.toNat, by omega⟩
            have hrl : r < l.length := by omega
            have hsp : isSp l[r] = true := by
              obtain ⟨h1, h2⟩ := take_ge (p := isSp) (l := l.reverse) (k := l.length - 1 - r) (by rw [← HB.out]; omega)
              rw [List.getElem_reverse] at h2
              have e : l.length - 1 - (l.length - 1 - r) = r := by omega
              simp only [e] at h2
              exact h2
            obtain ⟨c, hc⟩ : ∃ c : UInt8, ∀ h, (ByteArray.mk l.toArray)[r]'h = c := ⟨l[r], fun _ => rfl⟩
            have hsp2 : ((c.toNat : Int) == 32 || (c.toNat : Int) == 9 || (c.toNat : Int) == 10) = true := by
              rw [← sp_tests, ← hc (by simpa [ByteArray.size] using hrl)]; exact hsp
            have HS := Lib.hid hsp2
            clear hsp2 hsp
            go_wp2
            all_goals first
              | (refine ⟨⟨(r : Int) - 1, by omega, by omega, by omega, rfl⟩, by simp [intOf]⟩)
              | (exfalso; have := HS.out; simp_all; done)
          · have hj : j = (l.length : Int) - 1 - b := by omega
            have hcase : (∃ r : Nat, j = r ∧ ∃ c : UInt8, (∀ h, (ByteArray.mk l.toArray)[r]'h = c) ∧ r < l.length ∧ isSp c = false) ∨ j < 0 := by
              by_cases hlt : b < l.length
              · have := take_eq (p := isSp) (l := l.reverse) (by rw [← HB.out]; simpa using hlt)
                have e := HB.out
                simp only [← e] at this
                rw [List.getElem_reverse] at this
                exact .inl ⟨l.length - 1 - b, by omega, l[l.length - 1 - b], fun _ => rfl, by omega, this⟩
              · exact .inr (by omega)
            have HJ := Lib.hid hj
            clear hj
            rcases hcase with ⟨r, rfl, c, hc, hlt, hsp⟩ | hneg
            case' inl =>
              obtain ⟨⟨t1, t2, t3⟩, t4, t5, t6⟩ := nsp_tests hsp
              clear hsp
            all_goals
              by_cases hge : l.length ≤ k + b + 1
              · have g1 := Int.le_of_eq HJ.out
                have g2 := Int.le_of_eq HJ.out.symm
                go_wp2
                go_ret
                exact ⟨ret_S (by rw [HT.out, ← HA.out, ← HB.out, if_pos hge]), rfl⟩
              · have g1 := Int.le_of_eq HJ.out
                have g2 := Int.le_of_eq HJ.out.symm
                first
                  | (exfalso; omega)
                  | (go_wp2
                     go_ret
                     refine ⟨?_, rfl⟩
                     rw [HT.out, ← HA.out, ← HB.out, if_neg hge]
                     refine ret_S ?_
                     rw [show r + 1 = l.length - b by omega])

/-- trimSpace. -/
theorem trim_any (l : Bs) (w : World) (hl : l.length ≤ 9223372036854775807) :
    Calls Tryz.prog 50 #[S l] w fun e w' => e = .returned (S (trim l)) ∧ w = w' := by
  by_cases h0 : l = []
  · subst h0
    go_enter Tryz.func50, Tryz.ntmps50
    go_wp2
    go_ret
    exact ⟨rfl, rfl⟩
  · exact trim_ne l w hl h0
end Go.Proofs.YtghajgdiaopioaaGreatDoor
end
