/- Walks and plain laws joined (Tz, Tw, Ba). Conditions: stand in each law. -/
import Derived.Test.YtghajgdiaopioaaGreatDoorJa
import Derived.Test.YtghajgdiaopioaaGreatDoorProg
import Derived.Test.YtghajgdiaopioaaGreatDoorWWords
import Derived.WalkKit
import Derived.LoopTactic
import Derived.Outline
import Derived.Below
import Derived.Deep.LoopGhost
import Derived.Lib.Hide
import Derived.KernelRfl
import Derived.Deep.QuietTactic
import Derived.BigQuiet
import Derived.WideLaws
import Derived.RegionTactic
import Derived.WalkSpells
import Derived.WalkLawsBesides
/- Plain laws: the text of a shape is read back as the shape; without its last bracket, or with a sign ahead, it is an error. Conditions: stand in each law. -/
section
set_option linter.unusedVariables false
set_option linter.unusedSimpArgs false
namespace Go.Proofs.YtghajgdiaopioaaGreatDoor.Tx

/-! ### Words -/
theorem kindOf_word (small : Bool) (r : Bs) : ∀ k, 1 ≤ k → k ≤ 7 → kindOf (low small (word k) ++ r) = k := by
  intro k h1 h7
  have hk : k = 1 ∨ k = 2 ∨ k = 3 ∨ k = 4 ∨ k = 5 ∨ k = 6 ∨ k = 7 := by omega
  rcases hk with rfl | rfl | rfl | rfl | rfl | rfl | rfl <;> cases small <;> simp [kindOf, hasW, word, low, up]
theorem hasW_word (small : Bool) (r : Bs) : ∀ k j, 1 ≤ k → k ≤ 7 → 1 ≤ j → j ≤ 7 → hasW (low small (word k) ++ r) (word j) = decide (j = k) := by
  intro k j h1 h7 j1 j7
  have hk : k = 1 ∨ k = 2 ∨ k = 3 ∨ k = 4 ∨ k = 5 ∨ k = 6 ∨ k = 7 := by omega
  have hj : j = 1 ∨ j = 2 ∨ j = 3 ∨ j = 4 ∨ j = 5 ∨ j = 6 ∨ j = 7 := by omega
  rcases hk with rfl | rfl | rfl | rfl | rfl | rfl | rfl <;> rcases hj with rfl | rfl | rfl | rfl | rfl | rfl | rfl <;> cases small <;> simp [hasW, word, low, up]
theorem kindOf_x (r : Bs) : kindOf (88 :: r) = 0 := by simp [kindOf, hasW, word, up]
theorem low_length (small : Bool) (l : Bs) : (low small l).length = l.length := by unfold low; split <;> simp
theorem drop_word (small : Bool) (k : Nat) (r : Bs) {n : Nat} (h : (word k).length = n) : (low small (word k) ++ r).drop n = r := by
  rw [List.drop_append_of_le_length (by rw [low_length]; omega), List.drop_eq_nil_of_le (by rw [low_length]; omega)]; rfl
theorem eqF_br {s : Bs} (h : (40 : UInt8) ∈ s) : ∀ k, eqF s (word k ++ emptyW) = false := by
  intro k
  have h40 : (40 : UInt8) ∈ s.map up := List.mem_map.2 ⟨40, h, rfl⟩
  unfold eqF
  rw [beq_eq_false_iff_ne]
  intro he
  rw [he] at h40
  have hno : ∀ k, (40 : UInt8) ∉ (word k ++ emptyW).map up := by
    intro k
    match k with
    | 0 | 1 | 2 | 3 | 4 | 5 | 6 | 7 => simp [word, emptyW, up]
    | n + 8 => simp [word, emptyW, up]
  exact hno k h40
theorem low_head (small : Bool) : ∀ k, 1 ≤ k → k ≤ 7 → ∃ a m, low small (word k) = a :: m ∧ isSp a = false := by
  intro k h1 h7
  have hk : k = 1 ∨ k = 2 ∨ k = 3 ∨ k = 4 ∨ k = 5 ∨ k = 6 ∨ k = 7 := by omega
  rcases hk with rfl | rfl | rfl | rfl | rfl | rfl | rfl <;> cases small <;> exact ⟨_, _, rfl, rfl⟩
theorem low_plain (small : Bool) : ∀ k, ∀ c ∈ low small (word k), c ≠ 40 ∧ c ≠ 41 ∧ c ≠ 44 := by
  intro k
  match k with
  | 0 | 1 | 2 | 3 | 4 | 5 | 6 | 7 => cases small <;> simp [low, word]
  | n + 8 => cases small <;> simp [low, word]

/-! ### Rows of readings -/
theorem mapR_ok {α β γ : Type} {f : β → Rd γ} {g : α → β} {h : α → γ} : ∀ l : List α, (∀ x ∈ l, f (g x) = .ok (h x)) → mapR f (l.map g) = .ok (l.map h)
  | [], _ => rfl
  | a :: l, hf => by
    have ih := mapR_ok l fun x hx => hf x (List.mem_cons_of_mem _ hx)
    simp only [List.map_cons, mapR, hf a List.mem_cons_self, Rd.bind, ih, Rd.map]
theorem mapR_id {α β : Type} {f : β → Rd α} {g : α → β} (l : List α) (hf : ∀ x ∈ l, f (g x) = .ok x) : mapR f (l.map g) = .ok l := by
  have := mapR_ok (h := id) l hf
  simpa using this
theorem mapR_last {β γ : Type} {f : β → Rd γ} {x : β} (hx : f x = .err) : ∀ l : List β, (∀ y ∈ l, ∃ z, f y = .ok z) → mapR f (l ++ [x]) = .err
  | [], _ => by simp [mapR, hx, Rd.bind]
  | a :: l, hf => by
    have ih := mapR_last hx l fun y hy => hf y (List.mem_cons_of_mem _ hy)
    obtain ⟨z, hz⟩ := hf a List.mem_cons_self
    simp only [List.cons_append, mapR, hz, Rd.bind, ih, Rd.map]

theorem ends_join {sep : Bs} : ∀ ps : List Bs, ps ≠ [] → (∀ p ∈ ps, Ends p) → Ends (joinS sep ps)
  | [], h, _ => absurd rfl h
  | [p], _, hp => hp p List.mem_cons_self
  | p :: q :: l, _, hp => by
    obtain ⟨a, m, b, rfl, ha, hb⟩ := hp p List.mem_cons_self
    obtain ⟨a', m', b', he, _, hb'⟩ := ends_join (sep := sep) (q :: l) (by simp) fun r hr => hp r (List.mem_cons_of_mem _ hr)
    rw [joinS, he]
    exact ⟨a, m ++ [b] ++ sep ++ a' :: m', b', by simp, ha, hb'⟩
theorem joinS_snoc {sep : Bs} {p : Bs} {c : UInt8} : ∀ ps : List Bs, joinS sep (ps ++ [p ++ [c]]) = joinS sep (ps ++ [p]) ++ [c]
  | [] => rfl
  | [q] => by simp [joinS]
  | q :: r :: l => by
    have := joinS_snoc (sep := sep) (p := p) (c := c) (r :: l)
    simp only [List.cons_append] at this ⊢
    simp only [joinS, this, List.append_assoc]
theorem snoc_cases {α : Type} {l : List α} (h : l ≠ []) : ∃ m b, l = m ++ [b] := ⟨l.dropLast, l.getLast h, (List.dropLast_concat_getLast h).symm⟩

theorem inBr_br {α : Type} {f : Bs → Rd α} {sp l : Bs} (hsp : ∀ c ∈ sp, isSp c = true) (h : Ends l) : inBr f (sp ++ br l) = f l := by
  unfold inBr; rw [trimBr_br hsp, trim_ends h]
theorem inBr_br0 {α : Type} {f : Bs → Rd α} {l : Bs} (h : Ends l) : inBr f (br l) = f l := inBr_br (sp := []) (by simp) h
theorem inBr_open {α : Type} {f : Bs → Rd α} {sp l : Bs} (hsp : ∀ c ∈ sp, isSp c = true) (h : ∃ m b, l = m ++ [b] ∧ isSp b = false ∧ b ≠ 41) : inBr f (sp ++ 40 :: l) = .err := by
  obtain ⟨m, b, rfl, hb, h1⟩ := h
  unfold inBr; rw [trimBr_open hsp hb h1]
theorem inBr_open0 {α : Type} {f : Bs → Rd α} {l : Bs} (h : ∃ m b, l = m ++ [b] ∧ isSp b = false ∧ b ≠ 41) : inBr f (40 :: l) = .err := inBr_open (sp := []) (by simp) h

section
variable {pf : Bs → Rd Nat} {nf : Nat → Bs} {sp : Bs}

def PtOk (pf : Bs → Rd Nat) (nf : Nat → Bs) (p : Pt) : Prop := NumOk pf nf p.1 ∧ NumOk pf nf p.2

/-- How a row of points ends. -/
theorem join_pts_end {ps : List Pt} (h0 : ps ≠ []) (h : ∀ p ∈ ps, PtOk pf nf p) : ∃ m b, joinS (44 :: sp) (ps.map (ptT nf)) = m ++ [b] ∧ isSp b = false ∧ b ≠ 41 := by
  obtain ⟨l, p, rfl⟩ := snoc_cases h0
  have hp := h p (by simp)
  obtain ⟨m, b, he⟩ := snoc_of_ne hp.2.ne
  have hb := hp.2.tok b (by rw [he]; simp)
  refine ⟨joinS (44 :: sp) (l.map (ptT nf) ++ [nf p.1 ++ 32 :: m]), b, ?_, hb.sp, hb.2.2.2⟩
  rw [← joinS_snoc]
  simp [ptT, he]
theorem ends_pts {ps : List Pt} (h0 : ps ≠ []) (h : ∀ p ∈ ps, PtOk pf nf p) : Ends (joinS (44 :: sp) (ps.map (ptT nf))) := by
  refine ends_join _ (by simpa using h0) fun q hq => ?_
  obtain ⟨p, hp, rfl⟩ := List.mem_map.1 hq
  exact ends_pt (h p hp).1 (h p hp).2
theorem no41_pts (hsp : ∀ c ∈ sp, isSp c = true) : ∀ {ps : List Pt}, (∀ p ∈ ps, PtOk pf nf p) → ∀ c ∈ joinS (44 :: sp) (ps.map (ptT nf)), c ≠ 41 ∧ c ≠ 40
  | [], _, c, hc => by simp [joinS] at hc
  | [p], h, c, hc => no41_pt (h p (by simp)).1 (h p (by simp)).2 c (by simpa [joinS] using hc)
  | p :: q :: l, h, c, hc => by
    simp only [List.map_cons, joinS, List.mem_append, List.mem_cons] at hc
    rcases hc with (hc | rfl | hc) | hc
    · exact no41_pt (h p (by simp)).1 (h p (by simp)).2 c hc
    · decide
    · have := hsp c hc; constructor <;> (rintro rfl; simp [isSp] at this)
    · exact no41_pts hsp (fun r hr => h r (List.mem_cons_of_mem _ hr)) c hc

theorem readPts_join (hsp : ∀ c ∈ sp, isSp c = true) {ps : List Pt} (h0 : ps ≠ []) (h : ∀ p ∈ ps, PtOk pf nf p) : readPts pf (joinS (44 :: sp) (ps.map (ptT nf))) = .ok ps := by
  unfold readPts
  rw [splitC_join hsp _ (by simpa using h0) fun q hq => ?_]
  · exact mapR_id _ fun p hp => parseP_pt (h p hp).1 (h p hp).2
  · obtain ⟨p, hp, rfl⟩ := List.mem_map.1 hq
    exact pieceC_pt (h p hp).1 (h p hp).2
theorem pieceP_pts (hsp : ∀ c ∈ sp, isSp c = true) {ps : List Pt} (h : ∀ p ∈ ps, PtOk pf nf p) : PieceP (ptsT nf sp ps) := ⟨_, rfl, fun c hc => (no41_pts hsp h c hc).1⟩
theorem ring_ok (hsp : ∀ c ∈ sp, isSp c = true) {ps : List Pt} (h0 : ps ≠ []) (h : ∀ p ∈ ps, PtOk pf nf p) : inBr (readPts pf) (ptsT nf sp ps) = .ok ps := by
  unfold ptsT; rw [inBr_br0 (ends_pts h0 h), readPts_join hsp h0 h]
theorem ends_rings {rs : List (List Pt)} (h0 : rs ≠ []) : Ends (joinS (44 :: sp) (rs.map (ptsT nf sp))) := by
  refine ends_join _ (by simpa using h0) fun q hq => ?_
  obtain ⟨p, hp, rfl⟩ := List.mem_map.1 hq
  exact ends_br _
theorem readRings_join (hsp : ∀ c ∈ sp, isSp c = true) {rs : List (List Pt)} (h0 : rs ≠ []) (h1 : ∀ r ∈ rs, r ≠ []) (h : ∀ r ∈ rs, ∀ p ∈ r, PtOk pf nf p) : readRings pf (joinS (44 :: sp) (rs.map (ptsT nf sp))) = .ok rs := by
  unfold readRings
  have hs : splitP false (joinS (44 :: sp) (rs.map (ptsT nf sp))) = rs.map (ptsT nf sp) := by
    obtain ⟨l, r, rfl⟩ := snoc_cases h0
    rw [List.map_append, List.map_singleton]
    refine splitP_single hsp (.inl (pieceP_pts hsp (h r (by simp)))) _ fun q hq => ?_
    obtain ⟨p, hp, rfl⟩ := List.mem_map.1 hq
    exact pieceP_pts hsp (h p (by simp [hp]))
  rw [hs]
  exact mapR_id _ fun r hr => ring_ok hsp (h1 r hr) (h r hr)
theorem pieceD_rings (hsp : ∀ c ∈ sp, isSp c = true) {rs : List (List Pt)} (h0 : rs ≠ []) (h : ∀ r ∈ rs, ∀ p ∈ r, PtOk pf nf p) : PieceD (ringsT nf sp rs) := by
  obtain ⟨i, hi, hs⟩ := join_rings hsp (rs.map (ptsT nf sp)) (by simpa using h0) fun q hq => by
    obtain ⟨p, hp, rfl⟩ := List.mem_map.1 hq
    exact pieceP_pts hsp (h p hp)
  exact ⟨i, by simp [ringsT, br, hi], hs⟩
theorem readPolys_join (hsp : ∀ c ∈ sp, isSp c = true) {qs : List (List (List Pt))} (h0 : qs ≠ []) (h1 : ∀ q ∈ qs, q ≠ [] ∧ ∀ r ∈ q, r ≠ []) (h : ∀ q ∈ qs, ∀ r ∈ q, ∀ p ∈ r, PtOk pf nf p) : readPolys pf (joinS (44 :: sp) (qs.map (ringsT nf sp))) = .ok qs := by
  unfold readPolys
  have hs : splitP true (joinS (44 :: sp) (qs.map (ringsT nf sp))) = qs.map (ringsT nf sp) := by
    obtain ⟨l, r, rfl⟩ := snoc_cases h0
    rw [List.map_append, List.map_singleton]
    refine splitP_double hsp (.inl (pieceD_rings hsp (h1 r (by simp)).1 (h r (by simp)))) _ fun q hq => ?_
    obtain ⟨p, hp, rfl⟩ := List.mem_map.1 hq
    exact pieceD_rings hsp (h1 p (by simp [hp])).1 (h p (by simp [hp]))
  rw [hs]
  refine mapR_id _ fun q hq => ?_
  unfold ringsT
  rw [inBr_br0 (ends_rings (h1 q hq).1), readRings_join hsp (h1 q hq).1 (h1 q hq).2 (h q hq)]
theorem pieceC_brpt {p : Pt} (h : PtOk pf nf p) : PieceC (br (ptT nf p)) :=
  ⟨⟨40, ptT nf p ++ [41], rfl, rfl⟩, ⟨40 :: ptT nf p, 41, rfl, rfl⟩, fun c hc => by
    simp only [br, List.cons_append, List.mem_cons, List.mem_append, List.mem_singleton] at hc
    rcases hc with rfl | hc | rfl | hc
    · decide
    · exact (pieceC_pt h.1 h.2).comma c hc
    · decide
    · cases hc⟩
theorem readMP_join (hsp : ∀ c ∈ sp, isSp c = true) {ps : List Pt} (h0 : ps ≠ []) (h : ∀ p ∈ ps, PtOk pf nf p) : readMP pf (joinS (44 :: sp) (ps.map fun p => br (ptT nf p))) = .ok ps := by
  unfold readMP
  rw [splitC_join hsp _ (by simpa using h0) fun q hq => ?_]
  · refine mapR_id _ fun p hp => ?_
    rw [inBr_br0 (ends_pt (h p hp).1 (h p hp).2)]
    exact parseP_pt (h p hp).1 (h p hp).2
  · obtain ⟨p, hp, rfl⟩ := List.mem_map.1 hq
    exact pieceC_brpt (h p hp)
end

end Go.Proofs.YtghajgdiaopioaaGreatDoor.Tx
end

/- Plain laws: the text of a shape in whose lists something is, is read as it; without its last bracket it is an error; so are texts of no kind. Conditions: the numbers' texts are read as the numbers. -/
section
set_option linter.unusedVariables false
set_option linter.unusedSimpArgs false
namespace Go.Proofs.YtghajgdiaopioaaGreatDoor.Tx
section
variable {pf : Bs → Rd Nat} {nf : Nat → Bs} {sp : Bs} {small : Bool}

theorem texts_eq (gs : List Geo) : text.texts nf sp small gs = gs.map (text nf sp small) := by
  induction gs with
  | nil => rfl
  | cons g l ih => rw [text.texts, ih]; rfl
theorem deeps_le {gs : List Geo} {n : Nat} (h : Geo.deep.deeps gs ≤ n) : ∀ g ∈ gs, g.deep ≤ n := by
  induction gs with
  | nil => intro g hg; cases hg
  | cons a l ih =>
    rw [Geo.deep.deeps] at h
    intro g hg
    rcases List.mem_cons.1 hg with rfl | hg
    · omega
    · exact ih (by omega) g hg

/-- The word, the blank, and what stands in the outermost brackets. -/
def core (nf : Nat → Bs) (sp : Bs) (small : Bool) : Geo → Bs
  | .point p => ptT nf p
  | .line ps => joinS (44 :: sp) (ps.map (ptT nf))
  | .poly rs => joinS (44 :: sp) (rs.map (ptsT nf sp))
  | .mpoint ps => joinS (44 :: sp) (ps.map fun p => br (ptT nf p))
  | .mline ls => joinS (44 :: sp) (ls.map (ptsT nf sp))
  | .mpoly qs => joinS (44 :: sp) (qs.map (ringsT nf sp))
  | .coll gs => joinS (44 :: sp) (gs.map (text nf sp small))
theorem text_core (g : Geo) : text nf sp small g = low small (word g.kind) ++ sp ++ br (core nf sp small g) := by
  cases g <;> simp only [text, core, Geo.kind, ptsT, ringsT, texts_eq]
theorem kind_range (g : Geo) : 1 ≤ g.kind ∧ g.kind ≤ 7 := by cases g <;> simp [Geo.kind]
theorem ends_text (g : Geo) : Ends (text nf sp small g) := by
  obtain ⟨a, m, h, ha⟩ := low_head small g.kind (kind_range g).1 (kind_range g).2
  rw [text_core, h]
  exact ⟨a, m ++ sp ++ 40 :: core nf sp small g, 41, by simp [br], ha, rfl⟩
theorem text_has (g : Geo) : (40 : UInt8) ∈ text nf sp small g := by rw [text_core]; simp [br]

/-- The text without its last bracket. -/
def cutT (nf : Nat → Bs) (sp : Bs) (small : Bool) (g : Geo) : Bs := low small (word g.kind) ++ sp ++ 40 :: core nf sp small g
theorem text_cut (g : Geo) : text nf sp small g = cutT nf sp small g ++ [41] := by rw [text_core, cutT]; simp [br]
theorem cut_has (g : Geo) : (40 : UInt8) ∈ cutT nf sp small g := by unfold cutT; simp

theorem pass_pt {p : Pt} (h : PtOk pf nf p) {d : Int} : Pass d (ptT nf p) d := .plains d fun c hc => ⟨(no41_pt h.1 h.2 c hc).2, (no41_pt h.1 h.2 c hc).1, (pieceC_pt h.1 h.2).comma c hc⟩
theorem pass_pts (hsp : ∀ c ∈ sp, isSp c = true) {ps : List Pt} (h : ∀ p ∈ ps, PtOk pf nf p) {d : Int} (hd : d ≠ 0) : Pass d (joinS (44 :: sp) (ps.map (ptT nf))) d := by
  refine .join hsp hd _ fun q hq => ?_
  obtain ⟨p, hp, rfl⟩ := List.mem_map.1 hq
  exact pass_pt (h p hp)
theorem pass_rings (hsp : ∀ c ∈ sp, isSp c = true) {rs : List (List Pt)} (h : ∀ r ∈ rs, ∀ p ∈ r, PtOk pf nf p) {d : Int} (hd : 0 < d) : Pass d (joinS (44 :: sp) (rs.map (ptsT nf sp))) d := by
  refine .join hsp (by omega) _ fun q hq => ?_
  obtain ⟨r, hr, rfl⟩ := List.mem_map.1 hq
  exact .br (pass_pts hsp (h r hr) (by omega))
theorem pass_core (hsp : ∀ c ∈ sp, isSp c = true) : ∀ (n : Nat) (g : Geo), g.deep ≤ n → AllC (NumOk pf nf) g → ∀ d : Int, 0 < d → Pass d (core nf sp small g) d ∧ ∀ d : Int, 0 ≤ d → Pass d (text nf sp small g) d := by
  intro n
  induction n with
  | zero => intro g hg; exfalso; cases g <;> simp [Geo.deep] at hg
  | succ n ih =>
    intro g hg ha d hd
    have hcore : ∀ d : Int, 0 < d → Pass d (core nf sp small g) d := by
      intro d hd
      cases ha with
      | point h => exact pass_pt h
      | line h => exact pass_pts hsp h (by omega)
      | poly h => exact pass_rings hsp h hd
      | mpoint h =>
        refine .join hsp (by omega) _ fun q hq => ?_
        obtain ⟨p, hp, rfl⟩ := List.mem_map.1 hq
        exact .br (pass_pt (h p hp))
      | mline h => exact pass_rings hsp h hd
      | mpoly h =>
        refine .join hsp (by omega) _ fun q hq => ?_
        obtain ⟨p, hp, rfl⟩ := List.mem_map.1 hq
        exact .br (pass_rings hsp (h p hp) (by omega))
      | @coll gs h =>
        refine .join hsp (by omega) _ fun q hq => ?_
        obtain ⟨x, hx, rfl⟩ := List.mem_map.1 hq
        exact (ih x (deeps_le (by simp [Geo.deep] at hg; exact hg) x hx) (h x hx) d hd).2 d (by omega)
    refine ⟨hcore d hd, fun d hd => ?_⟩
    rw [text_core]
    exact ((Pass.plains d (low_plain small g.kind)).append (Pass.sps hsp d)).append (.br (hcore (d + 1) (by omega)))

/-- How what stands in the outermost brackets begins and ends. -/
theorem ends_core {g : Geo} (hf : Full g) (ha : AllC (NumOk pf nf) g) : Ends (core nf sp small g) := by
  cases hf with
  | point p => cases ha with | point h => exact ends_pt h.1 h.2
  | line h0 => cases ha with | line h => exact ends_pts h0 h
  | poly h0 _ => exact ends_rings h0
  | mpoint h0 =>
    refine ends_join _ (by simpa using h0) fun q hq => ?_
    obtain ⟨p, hp, rfl⟩ := List.mem_map.1 hq
    exact ends_br _
  | mline h0 _ => exact ends_rings h0
  | mpoly h0 _ =>
    refine ends_join _ (by simpa using h0) fun q hq => ?_
    obtain ⟨p, hp, rfl⟩ := List.mem_map.1 hq
    exact ends_br _
  | coll h0 _ =>
    refine ends_join _ (by simpa using h0) fun q hq => ?_
    obtain ⟨g, _, rfl⟩ := List.mem_map.1 hq
    exact ends_text g
theorem ends_cut {g : Geo} (hf : Full g) (ha : AllC (NumOk pf nf) g) : Ends (cutT nf sp small g) := by
  obtain ⟨a, m, h, h1⟩ := low_head small g.kind (kind_range g).1 (kind_range g).2
  obtain ⟨a', m', b, he, _, hb⟩ := ends_core (sp := sp) (small := small) hf ha
  unfold cutT
  rw [h, he]
  exact ⟨a, m ++ sp ++ 40 :: a' :: m', b, by simp, h1, hb⟩

theorem drop_text {n : Nat} (g : Geo) (h : (word g.kind).length = n) : (text nf sp small g).drop n = sp ++ br (core nf sp small g) := by
  rw [text_core, List.append_assoc, drop_word small g.kind _ h]
theorem drop_cut {n : Nat} (g : Geo) (h : (word g.kind).length = n) : (cutT nf sp small g).drop n = sp ++ 40 :: core nf sp small g := by
  unfold cutT; rw [List.append_assoc, drop_word small g.kind _ h]

/-- What unmarshalX makes of the text of a shape of its kind. -/
theorem um_text (hsp : ∀ c ∈ sp, isSp c = true) {sub : Bs → Rd Geo} {g : Geo} (hf : Full g) (ha : AllC (NumOk pf nf) g) (hsub : ∀ gs, g = .coll gs → ∀ x ∈ gs, sub (text nf sp small x) = .ok x) :
    um pf sub g.kind (text nf sp small g) = .ok g := by
  have h40 := text_has (nf := nf) (sp := sp) (small := small) g
  have he := ends_core (sp := sp) (small := small) hf ha
  have hp := pass_core (small := small) hsp g.deep g (Nat.le_refl _) ha
  cases g with
  | point p =>
    cases ha with | point h =>
    simp only [um, Geo.kind]
    rw [drop_text (n := 5) (.point p) rfl, inBr_br hsp he]
    simp only [core]
    rw [parseP_pt h.1 h.2]; rfl
  | line ps =>
    cases ha with | line h =>
    cases hf with | line h0 =>
    simp only [um, Geo.kind]
    rw [eqF_br h40, drop_text (n := 10) (.line ps) rfl, inBr_br hsp he]
    simp only [core, Bool.false_eq_true, if_false]
    rw [readPts_join hsp h0 h]; rfl
  | poly rs =>
    cases ha with | poly h =>
    cases hf with | poly h0 h1 =>
    simp only [um, Geo.kind]
    rw [eqF_br h40, drop_text (n := 7) (.poly rs) rfl, inBr_br hsp he]
    simp only [core, Bool.false_eq_true, if_false]
    rw [readRings_join hsp h0 h1 h]; rfl
  | mpoint ps =>
    cases ha with | mpoint h =>
    cases hf with | mpoint h0 =>
    simp only [um, Geo.kind]
    rw [eqF_br h40, drop_text (n := 10) (.mpoint ps) rfl, inBr_br hsp he]
    simp only [core, Bool.false_eq_true, if_false]
    rw [readMP_join hsp h0 h]; rfl
  | mline rs =>
    cases ha with | mline h =>
    cases hf with | mline h0 h1 =>
    simp only [um, Geo.kind]
    rw [eqF_br h40, drop_text (n := 15) (.mline rs) rfl, inBr_br hsp he]
    simp only [core, Bool.false_eq_true, if_false]
    rw [readRings_join hsp h0 h1 h]; rfl
  | mpoly qs =>
    cases ha with | mpoly h =>
    cases hf with | mpoly h0 h1 =>
    simp only [um, Geo.kind]
    rw [eqF_br h40, drop_text (n := 12) (.mpoly qs) rfl, inBr_br hsp he]
    simp only [core, Bool.false_eq_true, if_false]
    rw [readPolys_join hsp h0 h1 h]; rfl
  | coll gs =>
    cases ha with | coll h =>
    cases hf with | coll h0 h1 =>
    simp only [um, Geo.kind]
    have hlen : ¬ (text nf sp small (.coll gs)).length = 18 := by
      rw [text_core]; simp only [Geo.kind, List.length_append, low_length, br, List.length_cons]
      have : (word 7).length = 18 := rfl
      omega
    rw [eqF_br h40, drop_text (n := 18) (.coll gs) rfl, inBr_br hsp he, if_neg hlen]
    simp only [core, Bool.false_eq_true, if_false]
    have hpass : ∀ x ∈ gs, Pass 0 (text nf sp small x) 0 := fun x hx => ((pass_core (small := small) hsp x.deep x (Nat.le_refl _) (h x hx)) 1 (by omega)).2 0 (by omega)
    have hs : splitG (joinS (44 :: sp) (gs.map (text nf sp small))) = gs.map (text nf sp small) := by
      obtain ⟨l, r, rfl⟩ := snoc_cases h0
      rw [List.map_append, List.map_singleton, splitG_join hsp ⟨0, hpass r (by simp)⟩ _ fun q hq => by
        obtain ⟨p, hp, rfl⟩ := List.mem_map.1 hq
        exact hpass p (by simp [hp])]
      rw [List.map_append, List.map_singleton, trim_ends (ends_text r), List.map_map]
      congr 1
      exact List.map_congr_left fun x _ => trim_ends (ends_text x)
    rw [hs, mapR_id gs fun x hx => hsub gs rfl x hx]; rfl

/-- ████ What is written in the well known way is read as the shape. ████ -/
theorem read_text (hsp : ∀ c ∈ sp, isSp c = true) : ∀ (n : Nat) (g : Geo), g.deep ≤ n → Full g → AllC (NumOk pf nf) g → readG pf n (text nf sp small g) = .ok g := by
  intro n
  induction n with
  | zero => intro g hg; exfalso; cases g <;> simp [Geo.deep] at hg
  | succ n ih =>
    intro g hg hf ha
    rw [readG, trim_ends (ends_text g)]
    have hk : kindOf (text nf sp small g) = g.kind := by rw [text_core, List.append_assoc]; exact kindOf_word small _ _ (kind_range g).1 (kind_range g).2
    rw [hk]
    refine um_text hsp hf ha fun gs he x hx => ?_
    subst he
    cases hf with | coll h0 h1 =>
    cases ha with | coll h =>
    exact ih x (deeps_le (by simp [Geo.deep] at hg; exact hg) x hx) (h1 x hx) (h x hx)
theorem readK_text (hsp : ∀ c ∈ sp, isSp c = true) {n : Nat} {g : Geo} (hg : g.deep ≤ n + 1) (hf : Full g) (ha : AllC (NumOk pf nf) g) {k : Nat} (h1 : 1 ≤ k) (h7 : k ≤ 7) :
    readK pf n k (text nf sp small g) = if k = g.kind then .ok g else .err := by
  unfold readK
  rw [trim_ends (ends_text g)]
  have hk : hasW (text nf sp small g) (word k) = decide (k = g.kind) := by rw [text_core, List.append_assoc]; exact hasW_word small _ _ _ (kind_range g).1 (kind_range g).2 h1 h7
  rw [hk]
  by_cases e : k = g.kind
  · rw [if_pos e, if_pos (by simp [e]), e]
    refine um_text hsp hf ha fun gs he x hx => ?_
    subst he
    cases hf with | coll h0 h2 =>
    cases ha with | coll h =>
    exact read_text hsp n x (deeps_le (by simp [Geo.deep] at hg; exact hg) x hx) (h2 x hx) (h x hx)
  · rw [if_neg e, if_neg (by simp [e])]

/-- Without the last bracket of its inner brackets. -/
theorem um_cut (hsp : ∀ c ∈ sp, isSp c = true) {sub : Bs → Rd Geo} {g : Geo} (hf : Full g) (ha : AllC (NumOk pf nf) g)
    (hsub : ∀ gs, g = .coll gs → ∀ x ∈ gs, sub (text nf sp small x) = .ok x) (hcut : ∀ gs, g = .coll gs → ∀ x ∈ gs, sub (cutT nf sp small x) = .err) :
    um pf sub g.kind (cutT nf sp small g) = .err := by
  have h40 := cut_has (nf := nf) (sp := sp) (small := small) g
  -- what is left where an inner bracket stands at the end
  have left : ∀ {α : Type} (f : Bs → Rd α) (ps : List Bs) (q : Bs), (∀ p ∈ ps, Ends p) → Ends q → f (joinS (44 :: sp) (ps ++ [q])) = .err → inBr f (sp ++ 40 :: joinS (44 :: sp) (ps ++ [q ++ [41]])) = .err := by
    intro α f ps q hp hq he
    rw [joinS_snoc]
    have hends : Ends (joinS (44 :: sp) (ps ++ [q])) := ends_join _ (by simp) fun p hp' => by
      rcases List.mem_append.1 hp' with hp' | hp'
      · exact hp p hp'
      · rw [List.mem_singleton.1 hp']; exact hq
    exact (inBr_br hsp hends).trans he
  have ends40 : ∀ {l : Bs}, Ends l → Ends (40 :: l) := by
    rintro l ⟨a, m, b, rfl, _, hb⟩
    exact ⟨40, a :: m, b, rfl, rfl, hb⟩
  have rings : ∀ {rs : List (List Pt)}, rs ≠ [] → (∀ r ∈ rs, r ≠ []) → (∀ r ∈ rs, ∀ p ∈ r, PtOk pf nf p) → inBr (readRings pf) (sp ++ 40 :: joinS (44 :: sp) (rs.map (ptsT nf sp))) = .err := by
    intro rs h0 h1 h
    obtain ⟨l, r, rfl⟩ := snoc_cases h0
    rw [List.map_append, List.map_singleton, show ptsT nf sp r = (40 :: joinS (44 :: sp) (r.map (ptT nf))) ++ [41] from rfl]
    refine left _ _ _ (fun p hp => ?_) (ends40 (ends_pts (h1 r (by simp)) (h r (by simp)))) ?_
    · obtain ⟨q, _, rfl⟩ := List.mem_map.1 hp
      exact ends_br _
    · unfold readRings
      rw [splitP_single hsp (.inr ⟨_, rfl, fun c hc => (no41_pts hsp (h r (by simp)) c hc).1⟩) _ fun q hq => by
        obtain ⟨p, hp, rfl⟩ := List.mem_map.1 hq
        exact pieceP_pts hsp (h p (by simp [hp]))]
      refine mapR_last (inBr_open0 (join_pts_end (h1 r (by simp)) (h r (by simp)))) _ fun q hq => ?_
      obtain ⟨p, hp, rfl⟩ := List.mem_map.1 hq
      exact ⟨p, ring_ok hsp (h1 p (by simp [hp])) (h p (by simp [hp]))⟩
  cases g with
  | point p =>
    cases ha with | point h =>
    simp only [um, Geo.kind]
    rw [drop_cut (n := 5) (.point p) rfl]
    simp only [core]
    have := join_pts_end (sp := sp) (ps := [p]) (by simp) (pf := pf) (nf := nf) (fun q hq => by rw [List.mem_singleton.1 hq]; exact h)
    rw [inBr_open hsp (l := ptT nf p) (by simpa [joinS] using this)]; rfl
  | line ps =>
    cases ha with | line h =>
    cases hf with | line h0 =>
    simp only [um, Geo.kind]
    rw [eqF_br h40, drop_cut (n := 10) (.line ps) rfl]
    simp only [core, Bool.false_eq_true, if_false]
    rw [inBr_open hsp (join_pts_end h0 h)]; rfl
  | poly rs =>
    cases ha with | poly h =>
    cases hf with | poly h0 h1 =>
    simp only [um, Geo.kind]
    rw [eqF_br h40, drop_cut (n := 7) (.poly rs) rfl]
    simp only [core, Bool.false_eq_true, if_false]
    rw [rings h0 h1 h]; rfl
  | mpoint ps =>
    cases ha with | mpoint h =>
    cases hf with | mpoint h0 =>
    simp only [um, Geo.kind]
    rw [eqF_br h40, drop_cut (n := 10) (.mpoint ps) rfl]
    simp only [core, Bool.false_eq_true, if_false]
    obtain ⟨l, r, rfl⟩ := snoc_cases h0
    have hr := h r (by simp)
    rw [List.map_append, List.map_singleton, show br (ptT nf r) = (40 :: ptT nf r) ++ [41] from rfl]
    rw [left (readMP pf) _ _ (fun p hp => by obtain ⟨q, _, rfl⟩ := List.mem_map.1 hp; exact ends_br _) (ends40 (ends_pt hr.1 hr.2)) ?_]
    · rfl
    · unfold readMP
      rw [splitC_join hsp _ (by simp) fun q hq => ?_]
      · refine mapR_last (inBr_open0 ?_) _ fun q hq => ?_
        · have := join_pts_end (sp := sp) (ps := [r]) (by simp) (pf := pf) (nf := nf) (fun q hq => by rw [List.mem_singleton.1 hq]; exact hr)
          simpa [joinS] using this
        · obtain ⟨p, hp, rfl⟩ := List.mem_map.1 hq
          have hp := h p (by simp [hp])
          exact ⟨p, by rw [inBr_br0 (ends_pt hp.1 hp.2)]; exact parseP_pt hp.1 hp.2⟩
      · rcases List.mem_append.1 hq with hq | hq
        · obtain ⟨p, hp, rfl⟩ := List.mem_map.1 hq
          exact pieceC_brpt (h p (by simp [hp]))
        · rw [List.mem_singleton.1 hq]
          have hc := pieceC_pt hr.1 hr.2
          obtain ⟨m, b, he, hb⟩ := hc.last
          refine ⟨⟨40, _, rfl, rfl⟩, ⟨40 :: m, b, by rw [he]; rfl, hb⟩, fun c hc' => ?_⟩
          rcases List.mem_cons.1 hc' with rfl | hc'
          · decide
          · exact hc.comma c hc'
  | mline rs =>
    cases ha with | mline h =>
    cases hf with | mline h0 h1 =>
    simp only [um, Geo.kind]
    rw [eqF_br h40, drop_cut (n := 15) (.mline rs) rfl]
    simp only [core, Bool.false_eq_true, if_false]
    rw [rings h0 h1 h]; rfl
  | mpoly qs =>
    cases ha with | mpoly h =>
    cases hf with | mpoly h0 h1 =>
    simp only [um, Geo.kind]
    rw [eqF_br h40, drop_cut (n := 12) (.mpoly qs) rfl]
    simp only [core, Bool.false_eq_true, if_false]
    obtain ⟨l, r, rfl⟩ := snoc_cases h0
    have hr := h r (by simp)
    have hr1 := h1 r (by simp)
    rw [List.map_append, List.map_singleton, show ringsT nf sp r = (40 :: joinS (44 :: sp) (r.map (ptsT nf sp))) ++ [41] from rfl]
    rw [left (readPolys pf) _ _ (fun p hp => by obtain ⟨q, _, rfl⟩ := List.mem_map.1 hp; exact ends_br _) (ends40 (ends_rings hr1.1)) ?_]
    · rfl
    · unfold readPolys
      obtain ⟨i, hi, hs⟩ := join_rings hsp (r.map (ptsT nf sp)) (by simpa using hr1.1) fun q hq => by
        obtain ⟨p, hp, rfl⟩ := List.mem_map.1 hq
        exact pieceP_pts hsp (hr p hp)
      rw [splitP_double hsp (.inr ⟨i, by rw [hi], hs⟩) _ fun q hq => by
        obtain ⟨p, hp, rfl⟩ := List.mem_map.1 hq
        exact pieceD_rings hsp (h1 p (by simp [hp])).1 (h p (by simp [hp]))]
      refine mapR_last ?_ _ fun q hq => ?_
      · have hsp0 : ∀ c ∈ ([] : Bs), isSp c = true := by simp
        have := rings hr1.1 hr1.2 hr
        have h2 : inBr (readRings pf) (sp ++ 40 :: joinS (44 :: sp) (r.map (ptsT nf sp))) = inBr (readRings pf) (40 :: joinS (44 :: sp) (r.map (ptsT nf sp))) := by
          unfold inBr trimBr; rw [trim_sp hsp]
        rw [← h2]; exact this
      · obtain ⟨p, hp, rfl⟩ := List.mem_map.1 hq
        have hp1 := h1 p (by simp [hp])
        have hp2 := h p (by simp [hp])
        exact ⟨p, by unfold ringsT; rw [inBr_br0 (ends_rings hp1.1), readRings_join hsp hp1.1 hp1.2 hp2]⟩
  | coll gs =>
    cases ha with | coll h =>
    cases hf with | coll h0 h1 =>
    simp only [um, Geo.kind]
    have hlen : ¬ (cutT nf sp small (.coll gs)).length = 18 := by
      unfold cutT; simp only [Geo.kind, List.length_append, low_length, List.length_cons]
      have : (word 7).length = 18 := rfl
      omega
    rw [eqF_br h40, drop_cut (n := 18) (.coll gs) rfl, if_neg hlen]
    simp only [core, Bool.false_eq_true, if_false]
    have hpass : ∀ x ∈ gs, Pass 0 (text nf sp small x) 0 := fun x hx => ((pass_core (small := small) hsp x.deep x (Nat.le_refl _) (h x hx)) 1 (by omega)).2 0 (by omega)
    obtain ⟨l, r, rfl⟩ := snoc_cases h0
    have hr := h r (by simp)
    rw [List.map_append, List.map_singleton, text_cut r]
    have hcore := (pass_core (small := small) hsp r.deep r (Nat.le_refl _) hr 1 (by omega)).1
    have hpc : Pass 0 (cutT nf sp small r) 1 := by
      unfold cutT
      have := (((Pass.plains 0 (low_plain small r.kind)).append (Pass.sps hsp 0)).append (Pass.openb 0)).append hcore
      simpa using this
    rw [left (fun t => mapR sub (splitG t)) _ _ (fun p hp => by obtain ⟨q, _, rfl⟩ := List.mem_map.1 hp; exact ends_text q) (ends_cut (h1 r (by simp)) hr) ?_]
    · rfl
    · rw [splitG_join hsp ⟨1, hpc⟩ _ fun q hq => by
        obtain ⟨p, hp, rfl⟩ := List.mem_map.1 hq
        exact hpass p (by simp [hp])]
      rw [List.map_append, List.map_singleton, trim_ends (ends_cut (h1 r (by simp)) hr)]
      refine mapR_last (hcut _ rfl r (by simp)) _ fun q hq => ?_
      obtain ⟨p, hp, rfl⟩ := List.mem_map.1 hq
      obtain ⟨x, hx, rfl⟩ := List.mem_map.1 hp
      exact ⟨x, by rw [trim_ends (ends_text x)]; exact hsub _ rfl x (by simp [hx])⟩

/-- ████ A text without its last bracket is an error. ████ -/
theorem read_cut (hsp : ∀ c ∈ sp, isSp c = true) : ∀ (n : Nat) (g : Geo), g.deep ≤ n → Full g → AllC (NumOk pf nf) g → readG pf n (cutT nf sp small g) = .err := by
  intro n
  induction n with
  | zero => intro g hg; exfalso; cases g <;> simp [Geo.deep] at hg
  | succ n ih =>
    intro g hg hf ha
    rw [readG, trim_ends (ends_cut hf ha)]
    have hk : kindOf (cutT nf sp small g) = g.kind := by unfold cutT; rw [List.append_assoc]; exact kindOf_word small _ _ (kind_range g).1 (kind_range g).2
    rw [hk]
    refine um_cut hsp hf ha (fun gs he x hx => ?_) fun gs he x hx => ?_
    · subst he
      cases hf with | coll h0 h1 =>
      cases ha with | coll h =>
      exact read_text hsp n x (deeps_le (by simp [Geo.deep] at hg; exact hg) x hx) (h1 x hx) (h x hx)
    · subst he
      cases hf with | coll h0 h1 =>
      cases ha with | coll h =>
      exact ih x (deeps_le (by simp [Geo.deep] at hg; exact hg) x hx) (h1 x hx) (h x hx)

/-! ### Other texts -/
theorem read_x (n : Nat) {l : Bs} (h : Ends l) : readG pf (n + 1) (88 :: l) = .err := by
  obtain ⟨a, m, b, rfl, _, hb⟩ := h
  rw [readG, trim_ends (⟨88, a :: m, b, rfl, rfl, hb⟩ : Ends (88 :: a :: (m ++ [b]))), kindOf_x]
  rfl
theorem read_none (n : Nat) : readG pf (n + 1) [] = .err := rfl
/-- "POINT(1)". -/
theorem read_one (n : Nat) : readG pf (n + 1) [80, 79, 73, 78, 84, 40, 49, 41] = .err := rfl
/-- "LINESTRING(1 2,3)". -/
theorem read_three (n : Nat) {x y : Nat} (h1 : pf [49] = .ok x) (h2 : pf [50] = .ok y) : readG pf (n + 1) [76, 73, 78, 69, 83, 84, 82, 73, 78, 71, 40, 49, 32, 50, 44, 51, 41] = .err := by
  have e : readG pf (n + 1) [76, 73, 78, 69, 83, 84, 82, 73, 78, 71, 40, 49, 32, 50, 44, 51, 41] = (mapR (parseP pf) [[49, 32, 50], [51]]).map .line := rfl
  have e1 : parseP pf [49, 32, 50] = (pf [49]).bind fun x => (pf [50]).bind fun y => .ok (x, y) := rfl
  have e2 : parseP pf [51] = .err := rfl
  rw [e]
  simp [mapR, e1, e2, h1, h2, Rd.bind, Rd.map]
/-- "LINESTRING(1 2,3". -/
theorem read_open (n : Nat) : readG pf (n + 1) [76, 73, 78, 69, 83, 84, 82, 73, 78, 71, 40, 49, 32, 50, 44, 51] = .err := rfl
/-- An empty shape of a kind. -/
def emptyOf : Nat → Geo
  | 2 => .line [] | 3 => .poly [] | 4 => .mpoint [] | 5 => .mline [] | 6 => .mpoly [] | _ => .coll []
theorem read_empty (n : Nat) : ∀ k, 2 ≤ k → k ≤ 7 → readG pf (n + 1) (word k ++ emptyW) = .ok (emptyOf k) := by
  intro k h1 h7
  have hk : k = 2 ∨ k = 3 ∨ k = 4 ∨ k = 5 ∨ k = 6 ∨ k = 7 := by omega
  rcases hk with rfl | rfl | rfl | rfl | rfl | rfl <;> rfl
theorem readK_empty (n : Nat) : ∀ k j, 2 ≤ k → k ≤ 7 → 1 ≤ j → j ≤ 7 → readK pf n j (word k ++ emptyW) = if j = k then .ok (emptyOf k) else .err := by
  intro k j h1 h7 j1 j7
  have hk : k = 2 ∨ k = 3 ∨ k = 4 ∨ k = 5 ∨ k = 6 ∨ k = 7 := by omega
  have hj : j = 1 ∨ j = 2 ∨ j = 3 ∨ j = 4 ∨ j = 5 ∨ j = 6 ∨ j = 7 := by omega
  rcases hk with rfl | rfl | rfl | rfl | rfl | rfl <;> rcases hj with rfl | rfl | rfl | rfl | rfl | rfl | rfl <;> rfl
end
end Go.Proofs.YtghajgdiaopioaaGreatDoor.Tx
end

/- What all walks over this program share: kinds of data in memory, the listed variables, small laws. Conditions: none. -/
section
set_option linter.unusedVariables false
set_option linter.unusedSimpArgs false
namespace Go.Proofs.YtghajgdiaopioaaGreatDoor
open Go.RowKit Go.Proofs Tx

/-- A string of bytes as a value. -/
abbrev S (l : Bs) : Value := .string ⟨l.toArray⟩
theorem ret_int {k : IntKind} {a b : Int} (h : a = b) : Ending.returned (.int k a) = .returned (.int k b) := by rw [h]
theorem ret_bool {a b : Bool} (h : a = b) : Ending.returned (.bool a) = .returned (.bool b) := by rw [h]
theorem ret_S {a b : Bs} (h : a = b) : Ending.returned (S a) = .returned (S b) := by rw [h]
theorem size_S (l : Bs) : (ByteArray.mk l.toArray).size = l.length := by simp [ByteArray.size]
theorem u8_beq (c d : UInt8) : ((c.toNat : Int) == (d.toNat : Int)) = (c == d) := by
  rw [Bool.eq_iff_iff, beq_iff_eq, beq_iff_eq, ← UInt8.toNat_inj]; omega
theorem sp_tests (c : UInt8) : isSp c = ((c.toNat : Int) == 32 || (c.toNat : Int) == 9 || (c.toNat : Int) == 10) := by
  unfold isSp
  rw [← u8_beq c 32, ← u8_beq c 9, ← u8_beq c 10]; rfl
theorem nsp_tests {c : UInt8} (h : isSp c = false) : (((c.toNat : Int) == 32) = false ∧ ((c.toNat : Int) == 9) = false ∧ ((c.toNat : Int) == 10) = false) ∧ ((c.toNat : Int) != 32) = true ∧ ((c.toNat : Int) != 9) = true ∧ ((c.toNat : Int) != 10) = true := by
  rw [sp_tests] at h
  simp only [Bool.or_eq_false_iff] at h
  obtain ⟨⟨h1, h2⟩, h3⟩ := h
  exact ⟨⟨h1, h2, h3⟩, by simp [bne, h1], by simp [bne, h2], by simp [bne, h3]⟩
theorem take_ge {p : UInt8 → Bool} {l : Bs} {k : Nat} (hk : k < (l.takeWhile p).length) : ∃ h : k < l.length, p l[k] = true := by
  have hle : (l.takeWhile p).length ≤ l.length := (List.takeWhile_sublist _).length_le
  refine ⟨by omega, ?_⟩
  have h1 : (l.takeWhile p)[k] = l[k] := by
    have := List.takeWhile_prefix (p := p) (l := l)
    exact this.getElem hk
  have := List.all_takeWhile (p := p) (l := l)
  rw [← h1]
  exact List.all_eq_true.1 this _ (List.getElem_mem hk)
theorem take_eq {p : UInt8 → Bool} {l : Bs} (h : (l.takeWhile p).length < l.length) : p (l[(l.takeWhile p).length]'h) = false := by
  induction l with
  | nil => simp at h
  | cons c l ih =>
    by_cases hc : p c = true
    · simp only [List.takeWhile_cons_of_pos hc, List.length_cons, List.getElem_cons_succ] at h ⊢
      exact ih (by omega)
    · simp only [List.takeWhile_cons_of_neg hc, List.length_nil, List.getElem_cons_zero]
      simpa using hc

@[go_sem] theorem extract_S (l : Bs) (a b : Nat) : (ByteArray.mk l.toArray).extract a b = ⟨((l.take b).drop a).toArray⟩ := by
  apply ByteArray.ext
  rw [ByteArray.data_extract]
  simp [List.drop_take]


@[go_sem] theorem byte_S (l : Bs) (k : Nat) (h : k < (ByteArray.mk l.toArray).size) : (ByteArray.mk l.toArray)[k]'h = l[k]'(by simpa [ByteArray.size] using h) := rfl
@[go_sem] theorem run_store_float (P : Program) (w : World) (a : Addr) (m : Mode) (k : FloatKind) (b : Nat) : (Go.store a (.float k b) m).run P w = stored P w a (.float k b) m := run_store P w a _ m rfl

/-! ### The kinds of data -/
open Go.Proofs.YtghajgdiaopioaaGreatDoorW.PrintWords
/-- A float by its bits; a point, of either package. -/
def floK : Kd Nat := Kd.scalar (Value.float .f64) (fun _ => rfl)
def ptK : Kd Pt := Kd.pair floK floK
theorem ptK_M (w : World) (base : Nat) (ok : Nat → Prop) (p : Pt) : ptK.M w base ok p [.float .f64 p.1, .float .f64 p.2] := ⟨[.float .f64 p.1], [.float .f64 p.2], rfl, rfl, rfl⟩
theorem R_sl {α : Type} {d : Kd α} {e : Nat} {w : World} {base : Nat} {ok : Nat → Prop} {v : Value} {xs : List α} (h : d.R e w base ok v xs) : ∃ A n c, v = .slice A n c := by
  obtain ⟨A, c, rfl⟩ := Kd.R_slice h; exact ⟨A, _, c, rfl⟩

/-! ### Blocks of one cell -/
theorem box_cell {w : World} {b : Nat} {v : Value} {t : TypeId} (h : w.heap[b]? = some (.cells #[v] t (0, 0))) : w.cell? ⟨b, 0, none⟩ = some v := by simp [World.cell?, h]
theorem box_free {w : World} {b : Nat} {v : Value} {t : TypeId} (h : w.heap[b]? = some (.cells #[v] t (0, 0))) : w.frozen? ⟨b, 0, none⟩ = false := by simp [World.frozen?, h]
theorem box_lt {w : World} {b : Nat} {o : Obj} (h : w.heap[b]? = some o) : b < w.heap.size := (Array.getElem?_eq_some_iff.1 h).1
theorem box_set {w : World} {b : Nat} {v u : Value} {t : TypeId} (h : w.heap[b]? = some (.cells #[v] t (0, 0))) : (w.setCell ⟨b, 0, none⟩ u).heap[b]? = some (.cells #[u] t (0, 0)) := by
  simp [World.setCell, Array.getElem?_modify, h]
theorem box_below {w w' : World} {B b : Nat} {o : Obj} (h : w.heap[b]? = some o) (hb : Below B w w') (hB : b < B) : w'.heap[b]? = some o := (hb.block b hB).trans h

/-! ### The listed variables -/
def IsErr (x : Value) : Prop := ∃ u v, x = .iface u v
theorem cell_below {w w' : World} {B : Nat} {a : Addr} {v : Value} (h : w.cell? a = some v) (hb : Below B w w') (hB : a.block < B) : w'.cell? a = some v := (hb.cell hB).trans h
/-- What the listed variables hold, all of it in blocks under B0. -/
structure Gl (B0 : Nat) (w : World) : Prop where
  le : B0 ≤ w.heap.size
  big : 24 ≤ B0
  e1 : ∃ u v, w.cell? ⟨1, 0, none⟩ = some (.iface u v)
  e4 : ∃ u v, w.cell? ⟨4, 0, none⟩ = some (.iface u v)
  opt : w.cell? ⟨14, 0, none⟩ = some (.bool true)
  fi0 : w.cell? ⟨16, 0, none⟩ = some (.int .u64 52)
  fi1 : w.cell? ⟨16, 1, none⟩ = some (.int .u64 11)
  fi2 : w.cell? ⟨16, 2, none⟩ = some (.int .i64 (-1023))
theorem Gl.below {B0 B : Nat} {w w' : World} (h : Gl B0 w) (hb : Below B w w') (hB : B0 ≤ B) : Gl B0 w' where
  le := Nat.le_trans h.le hb.size
  big := h.big
  e1 := let ⟨u, v, e⟩ := h.e1; ⟨u, v, cell_below e hb (by have := h.big; show 1 < B; omega)⟩
  e4 := let ⟨u, v, e⟩ := h.e4; ⟨u, v, cell_below e hb (by have := h.big; show 4 < B; omega)⟩
  opt := cell_below h.opt hb (by have := h.big; show 14 < B; omega)
  fi0 := cell_below h.fi0 hb (by have := h.big; show 16 < B; omega)
  fi1 := cell_below h.fi1 hb (by have := h.big; show 16 < B; omega)
  fi2 := cell_below h.fi2 hb (by have := h.big; show 16 < B; omega)
theorem Gl.low {B0 : Nat} {w w' : World} (h : Gl B0 w) (hb : Below w.heap.size w w') : Gl B0 w' := h.below hb h.le

theorem below_drewN (w : World) (n : Nat) : Below w.heap.size w (w.drewN n) := ⟨rfl, rfl, rfl, Nat.le_refl _, fun _ _ => rfl⟩
theorem below_drew (w : World) : Below w.heap.size w w.drew := ⟨rfl, rfl, rfl, Nat.le_refl _, fun _ _ => rfl⟩
end Go.Proofs.YtghajgdiaopioaaGreatDoor
end
