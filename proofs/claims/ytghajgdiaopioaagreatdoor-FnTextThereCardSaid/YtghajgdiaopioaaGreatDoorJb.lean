/- Walks and plain laws joined (Ty). Conditions: stand in each law. -/
import Derived.Test.YtghajgdiaopioaaGreatDoorJa
set_option linter.unusedVariables false
set_option linter.unusedSimpArgs false
section
/- Plain laws: what is written in the well known way is read back; a text without its last bracket is an error. Conditions: stand in each law. -/
namespace Go.Proofs.YtghajgdiaopioaaGreatDoor.Tx
/-- A sign of a number. -/
def Tok (c : UInt8) : Prop := isCl c = false ∧ c ≠ 44 ∧ c ≠ 40 ∧ c ≠ 41
theorem isSp_of_isCl {c : UInt8} (h : isCl c = false) : isSp c = false := by
  unfold isCl at h; unfold isSp
  simp only [Bool.or_eq_false_iff] at h ⊢
  exact ⟨⟨h.1.1.1.1.1, h.1.1.1.1.2⟩, h.1.1.1.2⟩
theorem Tok.sp {c : UInt8} (h : Tok c) : isSp c = false := isSp_of_isCl h.1

/-! ### trim -/
/-- Begins and ends with no blank, and has two signs at least. -/
def Ends (l : Bs) : Prop := ∃ a m b, l = a :: (m ++ [b]) ∧ isSp a = false ∧ isSp b = false
theorem trimL_cons {a : UInt8} {m : Bs} (h : isSp a = false) : trimL (a :: m) = a :: m := by
  unfold trimL; rw [List.dropWhile_cons_of_neg (by simp [h])]
theorem trimL_sp {sp l : Bs} (h : ∀ c ∈ sp, isSp c = true) : trimL (sp ++ l) = trimL l := by
  induction sp with
  | nil => rfl
  | cons c sp ih =>
    unfold trimL at ih ⊢
    rw [List.cons_append, List.dropWhile_cons_of_pos (h c List.mem_cons_self)]
    exact ih fun d hd => h d (List.mem_cons_of_mem _ hd)
theorem trimR_snoc {b : UInt8} {m : Bs} (h : isSp b = false) : trimR (m ++ [b]) = m ++ [b] := by
  unfold trimR; rw [List.reverse_append, List.reverse_singleton, List.singleton_append, List.dropWhile_cons_of_neg (by simp [h])]; simp
theorem trim_ends {l : Bs} (h : Ends l) : trim l = l := by
  obtain ⟨a, m, b, rfl, ha, hb⟩ := h
  have h2 : trim2 (a :: (m ++ [b])) = a :: (m ++ [b]) := by
    unfold trim2; rw [trimL_cons ha, ← List.cons_append, trimR_snoc hb]
  unfold trim; rw [h2, if_neg (by simp)]
theorem trim_sp {sp l : Bs} (h : ∀ c ∈ sp, isSp c = true) : trim (sp ++ l) = trim l := by
  unfold trim trim2; rw [trimL_sp h]
theorem Ends.ne {l : Bs} (h : Ends l) : l ≠ [] := by obtain ⟨a, m, b, rfl, _⟩ := h; simp
theorem ends_br (l : Bs) : Ends (br l) := ⟨40, l, 41, rfl, rfl, rfl⟩
theorem Ends.append {l : Bs} {b : UInt8} (x : Bs) (hx : ∃ a m, l = a :: m ∧ isSp a = false) (hb : isSp b = false) : Ends (l ++ x ++ [b]) := by
  obtain ⟨a, m, rfl, ha⟩ := hx; exact ⟨a, m ++ x, b, by simp, ha, hb⟩

theorem trimBr_br {sp l : Bs} (h : ∀ c ∈ sp, isSp c = true) : trimBr (sp ++ br l) = some (trim l) := by
  unfold trimBr; rw [trim_sp h, trim_ends (ends_br l)]
  simp [br]
theorem dropWhile_drop {p : UInt8 → Bool} (l : Bs) : l.dropWhile p = l.drop (l.takeWhile p).length := by
  induction l with
  | nil => rfl
  | cons c l ih =>
    by_cases h : p c = true
    · rw [List.dropWhile_cons_of_pos h, List.takeWhile_cons_of_pos h, ih]; rfl
    · rw [List.dropWhile_cons_of_neg h, List.takeWhile_cons_of_neg h]; rfl
theorem takeWhile_app {p : UInt8 → Bool} {l m : Bs} (h : ∃ c ∈ l, p c = false) : (l ++ m).takeWhile p = l.takeWhile p := by
  induction l with
  | nil => obtain ⟨c, hc, _⟩ := h; cases hc
  | cons c l ih =>
    by_cases hc : p c = true
    · rw [List.cons_append, List.takeWhile_cons_of_pos hc, List.takeWhile_cons_of_pos hc, ih]
      obtain ⟨d, hd, hp⟩ := h
      rcases List.mem_cons.1 hd with rfl | hd
      · rw [hc] at hp; cases hp
      · exact ⟨d, hd, hp⟩
    · rw [List.cons_append, List.takeWhile_cons_of_neg hc, List.takeWhile_cons_of_neg hc]
/-- trimSpace by the places where it cuts. -/
theorem trim_cut (l : Bs) : trim l = if l.length ≤ (l.takeWhile isSp).length + (l.reverse.takeWhile isSp).length + 1 then [] else (l.take (l.length - (l.reverse.takeWhile isSp).length)).drop (l.takeWhile isSp).length := by
  have hl : trimL l = l.drop (l.takeWhile isSp).length := dropWhile_drop l
  have hle : (l.takeWhile isSp).length ≤ l.length := (List.takeWhile_sublist _).length_le
  cases ht : trimL l with
  | nil =>
    have h0 : l.length ≤ (l.takeWhile isSp).length := by
      rw [hl] at ht
      have := congrArg List.length ht
      simp at this; omega
    rw [if_pos (by omega)]
    unfold trim trim2; rw [ht]; rfl
  | cons c m =>
    have hc : isSp c = false := by
      have h1 : l.dropWhile isSp = c :: m := ht
      have h2 := List.head?_dropWhile_not isSp l
      rw [h1] at h2; simpa using h2
    have happ : l = l.takeWhile isSp ++ trimL l := (List.takeWhile_append_dropWhile (p := isSp) (l := l)).symm
    have hrev : l.reverse.takeWhile isSp = (trimL l).reverse.takeWhile isSp := by
      conv => lhs; rw [happ, List.reverse_append]
      exact takeWhile_app ⟨c, by rw [ht]; simp, hc⟩
    have hb : (l.reverse.takeWhile isSp).length ≤ (trimL l).length := by rw [hrev]; have := (List.takeWhile_sublist (p := isSp) (l := (trimL l).reverse)).length_le; simpa using this
    have h2 : trim2 l = (trimL l).take ((trimL l).length - (l.reverse.takeWhile isSp).length) := by
      unfold trim2 trimR
      rw [dropWhile_drop, ← hrev, List.reverse_drop, List.reverse_reverse, List.length_reverse]
    have hlen : (trimL l).length = l.length - (l.takeWhile isSp).length := by rw [hl]; simp
    have h3 : (trim2 l).length = l.length - (l.takeWhile isSp).length - (l.reverse.takeWhile isSp).length := by rw [h2, List.length_take]; omega
    unfold trim
    rw [h3]
    by_cases h : l.length ≤ (l.takeWhile isSp).length + (l.reverse.takeWhile isSp).length + 1
    · rw [if_pos (by omega), if_pos h]
    · rw [if_neg (by omega), if_neg h, h2, hlen]
      conv => lhs; rw [hl]
      rw [List.drop_take]
      congr 1
      omega

/-! ### Points -/
theorem cutSp_mid {a b : Bs} (h : ∀ c ∈ a, c ≠ 32) : cutSp (a ++ 32 :: b) = some (a, b) := by
  induction a with
  | nil => simp [cutSp]
  | cons c a ih =>
    rw [List.cons_append, cutSp, if_neg (h c List.mem_cons_self), ih fun d hd => h d (List.mem_cons_of_mem _ hd)]
    rfl

/-- The text of a number is one of a number's signs, and is read as it. -/
structure NumOk (pf : Bs → Rd Nat) (nf : Nat → Bs) (x : Nat) : Prop where
  ne : nf x ≠ []
  tok : ∀ c ∈ nf x, Tok c
  pf : pf (nf x) = .ok x

section
variable {pf : Bs → Rd Nat} {nf : Nat → Bs}

theorem parseP_pt {p : Pt} (hx : NumOk pf nf p.1) (hy : NumOk pf nf p.2) : parseP pf (ptT nf p) = .ok p := by
  unfold parseP ptT
  rw [cutSp_mid (fun c hc h => by have := (hx.tok c hc).1; subst h; simp [isCl] at this)]
  simp [hx.pf, hy.pf, Rd.bind]

/-- A piece between commas. -/
structure PieceC (p : Bs) : Prop where
  first : ∃ a m, p = a :: m ∧ isSp a = false
  last : ∃ m b, p = m ++ [b] ∧ isSp b = false
  comma : ∀ c ∈ p, c ≠ 44

theorem snoc_of_ne {l : Bs} (h : l ≠ []) : ∃ m b, l = m ++ [b] := ⟨l.dropLast, l.getLast h, (List.dropLast_concat_getLast h).symm⟩

theorem pieceC_pt {p : Pt} (hx : NumOk pf nf p.1) (hy : NumOk pf nf p.2) : PieceC (ptT nf p) := by
  refine ⟨?_, ?_, fun c hc => ?_⟩
  · cases h : nf p.1 with
    | nil => exact absurd h hx.ne
    | cons a m => exact ⟨a, m ++ 32 :: nf p.2, by simp [ptT, h], (hx.tok a (by rw [h]; exact List.mem_cons_self)).sp⟩
  · obtain ⟨m, b, h⟩ := snoc_of_ne hy.ne
    exact ⟨nf p.1 ++ 32 :: m, b, by simp [ptT, h], (hy.tok b (by rw [h]; simp)).sp⟩
  · simp only [ptT, List.mem_append, List.mem_cons] at hc
    rcases hc with hc | rfl | hc
    · exact (hx.tok c hc).2.1
    · decide
    · exact (hy.tok c hc).2.1
theorem no41_pt {p : Pt} (hx : NumOk pf nf p.1) (hy : NumOk pf nf p.2) : ∀ c ∈ ptT nf p, c ≠ 41 ∧ c ≠ 40 := by
  intro c hc
  simp only [ptT, List.mem_append, List.mem_cons] at hc
  rcases hc with hc | rfl | hc
  · exact ⟨(hx.tok c hc).2.2.2, (hx.tok c hc).2.2.1⟩
  · decide
  · exact ⟨(hy.tok c hc).2.2.2, (hy.tok c hc).2.2.1⟩
theorem ends_of_piece {p : Bs} (h : PieceC p) (h2 : 2 ≤ p.length) : Ends p := by
  obtain ⟨a, m, rfl, ha⟩ := h.first
  obtain ⟨m', b, he, hb⟩ := h.last
  cases m' with
  | nil => simp at he; simp [he] at h2
  | cons c m' =>
    simp only [List.cons_append, List.cons.injEq] at he
    exact ⟨a, m', b, by rw [he.2], ha, hb⟩
theorem len_pt {p : Pt} (hx : NumOk pf nf p.1) (hy : NumOk pf nf p.2) : 2 ≤ (ptT nf p).length := by
  have := List.length_pos_iff.2 hx.ne
  have := List.length_pos_iff.2 hy.ne
  simp [ptT]; omega
theorem ends_pt {p : Pt} (hx : NumOk pf nf p.1) (hy : NumOk pf nf p.2) : Ends (ptT nf p) := ends_of_piece (pieceC_pt hx hy) (len_pt hx hy)
end

/-! ### splitOnComma -/
theorem goC_piece {m : Bs} {b : UInt8} (hb : isSp b = false) (hc : ∀ c ∈ m ++ [b], c ≠ 44) : ∀ (cur pend rest : Bs), goC cur pend false (m ++ [b] ++ rest) = goC (cur ++ pend ++ (m ++ [b])) [] false rest := by
  induction m with
  | nil =>
    intro cur pend rest
    simp only [List.nil_append, List.singleton_append]
    rw [goC, if_neg (hc b (by simp)), if_neg (by simp [hb]), if_neg (by simp)]
  | cons c m ih =>
    intro cur pend rest
    have ih := ih fun d hd => hc d (List.mem_cons_of_mem _ hd)
    simp only [List.cons_append]
    rw [goC, if_neg (hc c (by simp))]
    by_cases hs : isSp c = true
    · rw [if_pos hs, ih]; simp
    · rw [if_neg hs, if_neg (by simp), ih]; simp
theorem goC_sep {sp : Bs} (hsp : ∀ c ∈ sp, isSp c = true) {a : UInt8} (ha : isSp a = false) (hc : a ≠ 44) (cur rest : Bs) : goC cur [] false (44 :: sp ++ a :: rest) = cur :: goC [a] [] false rest := by
  have key : ∀ (sp pend : Bs), (∀ c ∈ sp, isSp c = true) → goC cur pend true (sp ++ a :: rest) = cur :: goC [a] [] false rest := by
    intro sp
    induction sp with
    | nil => intro pend _; simp only [List.nil_append]; rw [goC, if_neg hc, if_neg (by simp [ha]), if_pos rfl]
    | cons c sp ih =>
      intro pend h
      have hs : isSp c = true := h c List.mem_cons_self
      rw [List.cons_append, goC, if_neg (by rintro rfl; simp [isSp] at hs), if_pos hs]
      exact ih _ fun d hd => h d (List.mem_cons_of_mem _ hd)
  rw [List.cons_append, goC, if_pos rfl]
  exact key sp _ hsp
theorem joinS_head {sep : Bs} {p : Bs} {l : List Bs} : ∃ r, joinS sep (p :: l) = p ++ r := by
  cases l with
  | nil => exact ⟨[], by simp [joinS]⟩
  | cons q l => exact ⟨sep ++ joinS sep (q :: l), by simp [joinS]⟩
theorem splitC_join {sp : Bs} (hsp : ∀ c ∈ sp, isSp c = true) : ∀ (ps : List Bs), ps ≠ [] → (∀ p ∈ ps, PieceC p) → splitC (joinS (44 :: sp) ps) = ps := by
  unfold splitC
  intro ps
  induction ps with
  | nil => intro h; exact absurd rfl h
  | cons p l ih =>
    intro _ hp
    obtain ⟨m, b, he, hb⟩ := (hp p List.mem_cons_self).last
    have hc := (hp p List.mem_cons_self).comma
    cases l with
    | nil =>
      have := goC_piece hb (by rw [← he]; exact hc) [] [] []
      rw [← he] at this
      simp only [joinS]
      rw [List.append_nil] at this
      rw [this]
      simp [goC]
    | cons q l =>
      have ih := ih (by simp) fun r hr => hp r (List.mem_cons_of_mem _ hr)
      simp only [joinS]
      rw [List.append_assoc]
      have := goC_piece hb (by rw [← he]; exact hc) [] [] (44 :: sp ++ joinS (44 :: sp) (q :: l))
      rw [← he] at this
      rw [this]
      obtain ⟨r, hr⟩ := joinS_head (sep := 44 :: sp) (p := q) (l := l)
      obtain ⟨a, m', hq, ha⟩ := (hp q (by simp)).first
      have ha4 : a ≠ 44 := (hp q (by simp)).comma a (by rw [hq]; exact List.mem_cons_self)
      rw [hr, hq, List.cons_append] at ih ⊢
      have hsep := goC_sep hsp ha ha4 ([] ++ [] ++ p) (m' ++ r)
      simp only [List.cons_append] at hsep ⊢
      rw [hsep]
      rw [goC, if_neg ha4, if_neg (by simp [ha]), if_neg (by simp)] at ih
      simp only [List.nil_append] at ih ⊢
      rw [ih]

/-! ### splitByRegexp -/
theorem over_none {c : UInt8} {r : Bs} (h : isCl c = false) : over (c :: r) = 0 := by unfold over; rw [List.takeWhile_cons_of_neg (by simp [h])]; rfl
theorem over_sp {sp : Bs} {c : UInt8} {r : Bs} (hsp : ∀ c ∈ sp, isCl c = true) (h : isCl c = false) : over (sp ++ c :: r) = sp.length := by
  induction sp with
  | nil => exact over_none h
  | cons d sp ih =>
    unfold over at ih ⊢
    rw [List.cons_append, List.takeWhile_cons_of_pos (hsp d List.mem_cons_self)]
    rw [List.length_cons, ih fun e he => hsp e (List.mem_cons_of_mem _ he)]; rfl
theorem isCl_of_isSp {c : UInt8} (h : isSp c = true) : isCl c = true := by
  unfold isSp at h; unfold isCl
  simp only [Bool.or_eq_true] at h ⊢
  rcases h with (h | h) | h <;> simp [h]
theorem mP_other {double : Bool} {c : UInt8} {r : Bs} (h : c ≠ 41) : mP double (c :: r) = none := by unfold mP; rw [if_neg (by simp [atIs, h])]
theorem mP_single {sp r : Bs} (hsp : ∀ c ∈ sp, isSp c = true) : mP false (41 :: 44 :: (sp ++ 40 :: r)) = some (1, 2 + sp.length, 3 + sp.length) := by
  have h1 : over (44 :: (sp ++ 40 :: r)) = 0 := over_none rfl
  have h2 : over (sp ++ 40 :: r) = sp.length := over_sp (fun c hc => isCl_of_isSp (hsp c hc)) rfl
  unfold mP
  simp only [atIs, List.getElem?_cons_zero, beq_self_eq_true, if_true, Bool.false_eq_true, if_false, Nat.zero_add, List.drop_succ_cons, List.drop_zero, h1, Nat.add_zero, List.getElem?_cons_succ, h2]
  have h3 : (41 :: 44 :: (sp ++ 40 :: r))[1 + 1 + sp.length]? = some 40 := by
    rw [show 1 + 1 + sp.length = sp.length + 1 + 1 by omega]
    simp
  rw [h3, if_pos (by simp), show 1 + 1 + sp.length = 2 + sp.length by omega, show 2 + sp.length + 1 = 3 + sp.length by omega]
theorem mP_last {double : Bool} : mP double [41] = none := by cases double <;> simp [mP, atIs, over]
theorem mP_two {r : Bs} : mP true (41 :: 44 :: r) = none := by
  unfold mP
  have h1 : over (44 :: r) = 0 := over_none rfl
  simp [atIs, h1]
theorem mP_two_last : mP true [41, 41] = none := by simp [mP, atIs, over, isCl]
theorem mP_double {sp r : Bs} (hsp : ∀ c ∈ sp, isSp c = true) : mP true (41 :: 41 :: 44 :: (sp ++ 40 :: 40 :: r)) = some (2, 3 + sp.length, 5 + sp.length) := by
  have h0 : over (41 :: 44 :: (sp ++ 40 :: 40 :: r)) = 0 := over_none rfl
  have h1 : over (44 :: (sp ++ 40 :: 40 :: r)) = 0 := over_none rfl
  have h2 : over (sp ++ 40 :: 40 :: r) = sp.length := over_sp (fun c hc => isCl_of_isSp (hsp c hc)) rfl
  have h4 : over (40 :: r) = 0 := over_none rfl
  unfold mP
  simp only [atIs, List.getElem?_cons_zero, beq_self_eq_true, if_true, Nat.zero_add, List.drop_succ_cons, List.drop_zero, h0, h1, Nat.add_zero, List.getElem?_cons_succ, h2, Nat.reduceAdd]
  have h3 : (41 :: 41 :: 44 :: (sp ++ 40 :: 40 :: r))[3 + sp.length]? = some 40 := by
    rw [show 3 + sp.length = sp.length + 1 + 1 + 1 by omega]; simp
  have h5 : (41 :: 44 :: (sp ++ 40 :: 40 :: r)).drop (3 + sp.length) = 40 :: r := by
    rw [show 3 + sp.length = (sp.length + 1) + 1 + 1 by omega]
    simp [List.drop_append]
  have h6 : (41 :: 41 :: 44 :: (sp ++ 40 :: 40 :: r))[3 + sp.length + 1]? = some 40 := by
    rw [show 3 + sp.length + 1 = (sp.length + 1) + 1 + 1 + 1 by omega]
    simp
  rw [h3, if_pos (by simp), h5, h4, Nat.add_zero, h6, if_pos (by simp), show 3 + sp.length + 1 + 1 = 5 + sp.length by omega]

theorem goP_nil (double : Bool) (n : Nat) (cur : Bs) : goP double n cur [] = [cur] := by cases n <;> simp [goP]
theorem goP_step {double : Bool} {n : Nat} {cur r : Bs} {c : UInt8} (h : mP double (c :: r) = none) : goP double (n + 1) cur (c :: r) = goP double n (cur ++ [c]) r := by simp [goP, h]
theorem goP_inner {double : Bool} {i : Bs} (hi : ∀ c ∈ i, c ≠ 41) : ∀ (n : Nat) (cur r : Bs), goP double (i.length + n) cur (i ++ r) = goP double n (cur ++ i) r := by
  induction i with
  | nil => intro n cur r; simp
  | cons c i ih =>
    intro n cur r
    rw [List.length_cons, show i.length + 1 + n = (i.length + n) + 1 by omega, List.cons_append, goP_step (mP_other (hi c List.mem_cons_self)), ih fun d hd => hi d (List.mem_cons_of_mem _ hd)]
    simp
theorem goP_single {sp r cur : Bs} {n : Nat} (hsp : ∀ c ∈ sp, isSp c = true) : goP false (n + 1) cur (41 :: 44 :: (sp ++ 40 :: r)) = (cur ++ [41]) :: goP false n [40] r := by
  rw [goP, mP_single hsp]
  have h1 : (41 :: 44 :: (sp ++ 40 :: r)).drop (3 + sp.length) = r := by
    rw [show 3 + sp.length = (sp.length + 1) + 1 + 1 by omega]; simp [List.drop_append]
  have h2 : ((41 :: 44 :: (sp ++ 40 :: r)).take (3 + sp.length)).drop (2 + sp.length) = [40] := by
    rw [List.drop_take, show 3 + sp.length - (2 + sp.length) = 1 by omega, show 2 + sp.length = sp.length + 1 + 1 by omega]; simp [List.drop_append]
  simp only [h1, h2]; simp
theorem goP_double {sp r cur : Bs} {n : Nat} (hsp : ∀ c ∈ sp, isSp c = true) : goP true (n + 1) cur (41 :: 41 :: 44 :: (sp ++ 40 :: 40 :: r)) = (cur ++ [41, 41]) :: goP true n [40, 40] r := by
  rw [goP, mP_double hsp]
  have h1 : (41 :: 41 :: 44 :: (sp ++ 40 :: 40 :: r)).drop (5 + sp.length) = r := by
    rw [show 5 + sp.length = (sp.length + 2) + 1 + 1 + 1 by omega]; simp [List.drop_append]
  have h2 : ((41 :: 41 :: 44 :: (sp ++ 40 :: 40 :: r)).take (5 + sp.length)).drop (3 + sp.length) = [40, 40] := by
    rw [List.drop_take, show 5 + sp.length - (3 + sp.length) = 2 by omega, show 3 + sp.length = sp.length + 1 + 1 + 1 by omega]; simp [List.drop_append]
  simp only [h1, h2]; simp

def No41 (l : Bs) : Prop := ∀ c ∈ l, c ≠ 41
/-- A piece between single brackets; the last one may be cut off. -/
def PieceP (p : Bs) : Prop := ∃ i, p = 40 :: (i ++ [41]) ∧ No41 i
def CutP (p : Bs) : Prop := ∃ i, p = 40 :: i ∧ No41 i
/-- Every closing bracket is followed by a comma. -/
inductive S41 : Bs → Prop where
  | nil : S41 []
  | other {c : UInt8} {r : Bs} : c ≠ 41 → S41 r → S41 (c :: r)
  | pair {r : Bs} : S41 (44 :: r) → S41 (41 :: 44 :: r)
def PieceD (p : Bs) : Prop := ∃ i, p = 40 :: 40 :: (i ++ [41, 41]) ∧ S41 i
def CutD (p : Bs) : Prop := ∃ i, p = 40 :: 40 :: (i ++ [41]) ∧ S41 i

theorem S41.append {a b : Bs} (ha : S41 a) (hb : S41 b) : S41 (a ++ b) := by
  induction ha with
  | nil => exact hb
  | other h _ ih => exact .other h ih
  | pair _ ih => exact .pair ih
theorem S41.of_no {l : Bs} (h : No41 l) : S41 l := by
  induction l with
  | nil => exact .nil
  | cons c l ih => exact .other (h c List.mem_cons_self) (ih fun d hd => h d (List.mem_cons_of_mem _ hd))
theorem goP_s41 {i : Bs} (hi : S41 i) : ∀ (n : Nat) (cur r : Bs), goP true (i.length + n) cur (i ++ r) = goP true n (cur ++ i) r := by
  induction hi with
  | nil => intro n cur r; simp
  | @other c r hc _ ih =>
    intro n cur r
    rw [List.length_cons, show ∀ k, k + 1 + n = (k + n) + 1 from fun k => by omega, List.cons_append, goP_step (mP_other hc), ih]
    simp
  | @pair r _ ih =>
    intro n cur s
    rw [List.length_cons, show ∀ k, k + 1 + n = (k + n) + 1 from fun k => by omega, List.cons_append, List.cons_append, goP_step mP_two]
    have := ih n (cur ++ [41]) s
    rw [List.cons_append] at this
    rw [this]
    simp

theorem splitP_single {sp : Bs} (hsp : ∀ c ∈ sp, isSp c = true) {last : Bs} (hl : PieceP last ∨ CutP last) : ∀ (ps : List Bs), (∀ p ∈ ps, PieceP p) → splitP false (joinS (44 :: sp) (ps ++ [last])) = ps ++ [last] := by
  have h40 : ∃ r, last = 40 :: r := by rcases hl with ⟨i, rfl, _⟩ | ⟨i, rfl, _⟩ <;> exact ⟨_, rfl⟩
  have hj : ∀ ps : List Bs, (∀ p ∈ ps, PieceP p) → ∃ r, joinS (44 :: sp) (ps ++ [last]) = 40 :: r := by
    intro ps hp
    cases ps with
    | nil => obtain ⟨r, rfl⟩ := h40; exact ⟨r, rfl⟩
    | cons p ps =>
      obtain ⟨i, rfl, _⟩ := hp p List.mem_cons_self
      obtain ⟨r, hr⟩ := joinS_head (sep := 44 :: sp) (p := 40 :: (i ++ [41])) (l := ps ++ [last])
      exact ⟨_, by rw [List.cons_append, hr]; rfl⟩
  have key : ∀ ps : List Bs, (∀ p ∈ ps, PieceP p) → ∀ (n : Nat) (cur : Bs), (joinS (44 :: sp) (ps ++ [last])).tail.length ≤ n →
      goP false n cur (joinS (44 :: sp) (ps ++ [last])).tail = match ps with | [] => [cur ++ last.tail] | p :: ps' => (cur ++ p.tail) :: (ps' ++ [last]) := by
    intro ps
    induction ps with
    | nil =>
      intro _ n cur hn
      simp only [List.nil_append, joinS] at hn ⊢
      rcases hl with ⟨i, rfl, hi⟩ | ⟨i, rfl, hi⟩
      · simp only [List.tail_cons, List.length_append, List.length_singleton] at hn ⊢
        obtain ⟨m, rfl⟩ : ∃ m, n = i.length + (m + 1) := ⟨n - i.length - 1, by omega⟩
        rw [goP_inner hi, goP_step mP_last, goP_nil]; simp
      · simp only [List.tail_cons] at hn ⊢
        obtain ⟨m, rfl⟩ : ∃ m, n = i.length + m := ⟨n - i.length, by omega⟩
        have := goP_inner (double := false) hi m cur []
        rw [List.append_nil] at this
        rw [this, goP_nil]
    | cons p ps ih =>
      intro hp n cur hn
      have hps : ∀ q ∈ ps, PieceP q := fun q hq => hp q (List.mem_cons_of_mem _ hq)
      have ih := ih hps
      obtain ⟨i, rfl, hi⟩ := hp p List.mem_cons_self
      obtain ⟨r, hr⟩ := hj ps hps
      have he : joinS (44 :: sp) ((40 :: (i ++ [41])) :: ps ++ [last]) = 40 :: (i ++ (41 :: 44 :: (sp ++ 40 :: r))) := by
        cases hq : ps ++ [last] with
        | nil => simp at hq
        | cons q l => rw [hq] at hr; rw [List.cons_append, hq, joinS, hr]; simp
      rw [he] at hn ⊢
      rw [hr] at ih
      simp only [List.tail_cons, List.length_append, List.length_cons] at hn ih ⊢
      obtain ⟨m, rfl⟩ : ∃ m, n = i.length + (m + 1) := ⟨n - i.length - 1, by omega⟩
      rw [goP_inner hi, goP_single hsp, ih m [40] (by omega)]
      rw [List.append_assoc]
      congr 1
      cases ps with
      | nil => obtain ⟨r, rfl⟩ := h40; rfl
      | cons q ps' => obtain ⟨i', rfl, _⟩ := hps q List.mem_cons_self; rfl
  intro ps hp
  unfold splitP
  obtain ⟨r, hr⟩ := hj ps hp
  have hk := key ps hp r.length [40] (by rw [hr]; simp)
  rw [hr] at hk ⊢
  rw [List.length_cons, goP_step (mP_other (by decide)), List.nil_append]
  simp only [List.tail_cons] at hk
  rw [hk]
  cases ps with
  | nil => obtain ⟨r, rfl⟩ := h40; rfl
  | cons q ps' => obtain ⟨i', rfl, _⟩ := hp q List.mem_cons_self; rfl

theorem splitP_double {sp : Bs} (hsp : ∀ c ∈ sp, isSp c = true) {last : Bs} (hl : PieceD last ∨ CutD last) : ∀ (ps : List Bs), (∀ p ∈ ps, PieceD p) → splitP true (joinS (44 :: sp) (ps ++ [last])) = ps ++ [last] := by
  have h40 : ∃ r, last = 40 :: 40 :: r := by rcases hl with ⟨i, rfl, _⟩ | ⟨i, rfl, _⟩ <;> exact ⟨_, rfl⟩
  have hj : ∀ ps : List Bs, (∀ p ∈ ps, PieceD p) → ∃ r, joinS (44 :: sp) (ps ++ [last]) = 40 :: 40 :: r := by
    intro ps hp
    cases ps with
    | nil => obtain ⟨r, rfl⟩ := h40; exact ⟨r, rfl⟩
    | cons p ps =>
      obtain ⟨i, rfl, _⟩ := hp p List.mem_cons_self
      obtain ⟨r, hr⟩ := joinS_head (sep := 44 :: sp) (p := 40 :: 40 :: (i ++ [41, 41])) (l := ps ++ [last])
      exact ⟨_, by rw [List.cons_append, hr]; rfl⟩
  have key : ∀ ps : List Bs, (∀ p ∈ ps, PieceD p) → ∀ (n : Nat) (cur : Bs), (joinS (44 :: sp) (ps ++ [last])).tail.tail.length ≤ n →
      goP true n cur (joinS (44 :: sp) (ps ++ [last])).tail.tail = match ps with | [] => [cur ++ last.tail.tail] | p :: ps' => (cur ++ p.tail.tail) :: (ps' ++ [last]) := by
    intro ps
    induction ps with
    | nil =>
      intro _ n cur hn
      simp only [List.nil_append, joinS] at hn ⊢
      rcases hl with ⟨i, rfl, hi⟩ | ⟨i, rfl, hi⟩
      · simp only [List.tail_cons, List.length_append, List.length_cons, List.length_nil] at hn ⊢
        obtain ⟨m, rfl⟩ : ∃ m, n = i.length + (m + 1 + 1) := ⟨n - i.length - 2, by omega⟩
        rw [goP_s41 hi, goP_step mP_two_last, goP_step mP_last, goP_nil]; simp
      · simp only [List.tail_cons, List.length_append, List.length_cons, List.length_nil] at hn ⊢
        obtain ⟨m, rfl⟩ : ∃ m, n = i.length + (m + 1) := ⟨n - i.length - 1, by omega⟩
        rw [goP_s41 hi, goP_step mP_last, goP_nil]; simp
    | cons p ps ih =>
      intro hp n cur hn
      have hps : ∀ q ∈ ps, PieceD q := fun q hq => hp q (List.mem_cons_of_mem _ hq)
      have ih := ih hps
      obtain ⟨i, rfl, hi⟩ := hp p List.mem_cons_self
      obtain ⟨r, hr⟩ := hj ps hps
      have he : joinS (44 :: sp) ((40 :: 40 :: (i ++ [41, 41])) :: ps ++ [last]) = 40 :: 40 :: (i ++ (41 :: 41 :: 44 :: (sp ++ 40 :: 40 :: r))) := by
        cases hq : ps ++ [last] with
        | nil => simp at hq
        | cons q l => rw [hq] at hr; rw [List.cons_append, hq, joinS, hr]; simp
      rw [he] at hn ⊢
      rw [hr] at ih
      simp only [List.tail_cons, List.length_append, List.length_cons] at hn ih ⊢
      obtain ⟨m, rfl⟩ : ∃ m, n = i.length + (m + 1) := ⟨n - i.length - 1, by omega⟩
      rw [goP_s41 hi, goP_double hsp, ih m [40, 40] (by omega)]
      rw [List.append_assoc]
      congr 1
      cases ps with
      | nil => obtain ⟨r, rfl⟩ := h40; rfl
      | cons q ps' => obtain ⟨i', rfl, _⟩ := hps q List.mem_cons_self; rfl
  intro ps hp
  unfold splitP
  obtain ⟨r, hr⟩ := hj ps hp
  have hk := key ps hp r.length [40, 40] (by rw [hr]; simp)
  rw [hr] at hk ⊢
  rw [List.length_cons, List.length_cons, goP_step (mP_other (by decide)), goP_step (mP_other (by decide)), List.nil_append]
  simp only [List.tail_cons] at hk
  show goP true r.length [40, 40] r = _
  rw [hk]
  cases ps with
  | nil => obtain ⟨r, rfl⟩ := h40; rfl
  | cons q ps' => obtain ⟨i', rfl, _⟩ := hp q List.mem_cons_self; rfl

/-- Rings in a row: what stands between the outermost brackets. -/
theorem join_rings {sp : Bs} (hsp : ∀ c ∈ sp, isSp c = true) : ∀ ps : List Bs, ps ≠ [] → (∀ p ∈ ps, PieceP p) → ∃ i, joinS (44 :: sp) ps = 40 :: (i ++ [41]) ∧ S41 i := by
  intro ps
  induction ps with
  | nil => intro h; exact absurd rfl h
  | cons p l ih =>
    intro _ hp
    obtain ⟨i, rfl, hi⟩ := hp p List.mem_cons_self
    cases l with
    | nil => exact ⟨i, rfl, .of_no hi⟩
    | cons q l =>
      obtain ⟨j, hj, hs⟩ := ih (by simp) fun r hr => hp r (List.mem_cons_of_mem _ hr)
      refine ⟨i ++ 41 :: 44 :: (sp ++ 40 :: j), by rw [joinS, hj]; simp, (S41.of_no hi).append (.pair (.other (by decide) (S41.append (.of_no fun c hc h => ?_) (.other (by decide) hs))))⟩
      have := hsp c hc; subst h; simp [isSp] at this

/-! ### splitGeometryCollection -/
/-- From depth d to depth d' without a comma at depth 0. -/
def Pass (d : Int) (l : Bs) (d' : Int) : Prop := ∀ cur rest, goG cur d (l ++ rest) = goG (cur ++ l) d' rest
theorem Pass.nil (d : Int) : Pass d [] d := fun cur rest => by simp
theorem Pass.append {a b : Bs} {d e f : Int} (h : Pass d a e) (k : Pass e b f) : Pass d (a ++ b) f := fun cur rest => by
  rw [List.append_assoc, h, k, List.append_assoc]
theorem Pass.openb (d : Int) : Pass d [40] (d + 1) := fun cur rest => by simp [goG]
theorem Pass.closeb (d : Int) : Pass d [41] (d - 1) := fun cur rest => by simp [goG]
theorem Pass.comma {d : Int} (h : d ≠ 0) : Pass d [44] d := fun cur rest => by simp [goG, h]
theorem Pass.plain {c : UInt8} (d : Int) (h1 : c ≠ 40) (h2 : c ≠ 41) (h3 : c ≠ 44) : Pass d [c] d := fun cur rest => by simp [goG, h1, h2, h3]
theorem Pass.plains {l : Bs} (d : Int) (h : ∀ c ∈ l, c ≠ 40 ∧ c ≠ 41 ∧ c ≠ 44) : Pass d l d := by
  induction l with
  | nil => exact .nil d
  | cons c l ih =>
    have h0 := h c List.mem_cons_self
    exact (Pass.plain d h0.1 h0.2.1 h0.2.2).append (ih fun e he => h e (List.mem_cons_of_mem _ he))
theorem Pass.br {l : Bs} {d : Int} (h : Pass (d + 1) l (d + 1)) : Pass d (br l) d := by
  have := ((Pass.openb d).append h).append (Pass.closeb (d + 1))
  rw [show d + 1 - 1 = d by omega] at this
  exact this
theorem Pass.sps {sp : Bs} (hsp : ∀ c ∈ sp, isSp c = true) (d : Int) : Pass d sp d := .plains d fun c hc => by
  have := hsp c hc
  refine ⟨?_, ?_, ?_⟩ <;> (rintro rfl; simp [isSp] at this)
theorem Pass.join {sp : Bs} (hsp : ∀ c ∈ sp, isSp c = true) {d : Int} (hd : d ≠ 0) : ∀ ps : List Bs, (∀ p ∈ ps, Pass d p d) → Pass d (joinS (44 :: sp) ps) d := by
  intro ps
  induction ps with
  | nil => intro _; exact .nil d
  | cons p l ih =>
    intro hp
    have h0 := hp p List.mem_cons_self
    cases l with
    | nil => exact h0
    | cons q l =>
      have := ih fun r hr => hp r (List.mem_cons_of_mem _ hr)
      exact (h0.append ((Pass.comma hd).append (Pass.sps hsp d))).append this
/-- Members with brackets of their own, the last one perhaps with one bracket too few. -/
theorem splitG_join {sp : Bs} (hsp : ∀ c ∈ sp, isSp c = true) {last : Bs} (hl : ∃ d, Pass 0 last d) : ∀ ps : List Bs, (∀ p ∈ ps, Pass 0 p 0) → splitG (joinS (44 :: sp) (ps ++ [last])) = (ps ++ [last]).map fun p => trim p := by
  have key : ∀ ps : List Bs, (∀ p ∈ ps, Pass 0 p 0) → ∀ cur, (∀ c ∈ cur, isSp c = true) → goG cur 0 (joinS (44 :: sp) (ps ++ [last])) = (ps ++ [last]).map fun p => trim p := by
    intro ps
    induction ps with
    | nil =>
      intro _ cur hc
      obtain ⟨d, h⟩ := hl
      have := h cur []
      rw [List.append_nil] at this
      simp only [List.nil_append, joinS]
      rw [this, goG, trim_sp hc]; rfl
    | cons p ps ih =>
      intro hp cur hc
      have h0 := hp p List.mem_cons_self
      have ih := ih (fun q hq => hp q (List.mem_cons_of_mem _ hq)) sp hsp
      have he : joinS (44 :: sp) (p :: ps ++ [last]) = p ++ (44 :: (sp ++ joinS (44 :: sp) (ps ++ [last]))) := by
        cases hq : ps ++ [last] with
        | nil => simp at hq
        | cons q l => rw [List.cons_append, hq, joinS]; simp
      rw [he, h0, goG, if_neg (by decide), if_neg (by decide), if_pos rfl, if_pos rfl, Pass.sps hsp 0, List.nil_append, ih, trim_sp hc]
      rfl
  exact fun ps hp => key ps hp [] (by simp)
end Go.Proofs.YtghajgdiaopioaaGreatDoor.Tx
end
