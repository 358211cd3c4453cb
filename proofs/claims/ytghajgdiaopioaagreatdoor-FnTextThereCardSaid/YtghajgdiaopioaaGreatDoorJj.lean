/- Walks and plain laws joined (Wi, Wj). Conditions: stand in each law. -/
import Derived.Test.YtghajgdiaopioaaGreatDoorJi
set_option linter.unusedVariables false
set_option linter.unusedSimpArgs false
section
/- Walks: inClass, overClass, matchParens. Conditions: stand in each contract. -/
namespace Go.Proofs.YtghajgdiaopioaaGreatDoor
open Go.RowKit Go.Proofs Tx
open Go.Proofs.YtghajgdiaopioaaGreatDoorW.PrintWords
theorem cl_tests (c : UInt8) : isCl c = ((c.toNat : Int) == 32 || (c.toNat : Int) == 9 || (c.toNat : Int) == 10 || (c.toNat : Int) == 12 || (c.toNat : Int) == 13 || (c.toNat : Int) == 124) := by
  unfold isCl
  rw [← u8_beq c 32, ← u8_beq c 9, ← u8_beq c 10, ← u8_beq c 12, ← u8_beq c 13, ← u8_beq c 124]; rfl
theorem inCl_any (c : UInt8) (w : World) : Calls Tryz.prog 146 #[.int .u8 c.toNat] w fun e w' => e = .returned (.bool (isCl c)) ∧ w = w' := by
  have h := Lib.hid (cl_tests c)
  go_enter Tryz.func146, Tryz.ntmps146
  go_wp2
  all_goals
    go_ret
    refine ⟨ret_bool ?_, rfl⟩
    rw [h.out]
    try (simp_all; done)
theorem over_any (l : Bs) (i : Nat) (w : World) (hl : l.length ≤ 1000000000) (hi : i ≤ l.length) :
    Calls Tryz.prog 133 #[S l, .int .i64 i] w fun e w' => e = .returned (.int .i64 ((i + over (l.drop i) : Nat) : Int)) ∧ w = w' := by
  obtain ⟨n, hn⟩ : ∃ n, n = i + over (l.drop i) := ⟨_, rfl⟩
  have hle : over (l.drop i) ≤ l.length - i := by
    have := (List.takeWhile_sublist (p := isCl) (l := l.drop i)).length_le
    simpa [over] using this
  have hn2 : n ≤ l.length := by omega
  rw [← hn]
  have hin : i ≤ n := by omega
  have HN := Lib.hid hn
  clear hn hle
  go_enter Tryz.func133, Tryz.ntmps133
  go_wp2
  go_loop [1] (fun v => ∃ k : Nat, i ≤ k ∧ k ≤ n ∧ v = .int .i64 k) (fun v => l.length - (intOf v).toNat)
  case atStart => exact ⟨i, Nat.le_refl _, hin, rfl⟩
  case round =>
    obtain ⟨k, hik, hkn, rfl⟩ := hrel
    by_cases hlt : k < l.length
    · obtain ⟨c, hc⟩ : ∃ c : UInt8, ∀ h, (ByteArray.mk l.toArray)[k]'h = c := ⟨l[k], fun _ => rfl⟩
      have hcl : l[k] = c := hc (by simpa [ByteArray.size] using hlt)
      by_cases hgo : k < n
      · have hsp : isCl c = true := by
          obtain ⟨h1, h2⟩ := take_ge (p := isCl) (l := l.drop i) (k := k - i) (by have := HN.out; unfold over at this; omega)
          rw [List.getElem_drop] at h2
          have e : i + (k - i) = k := by omega
          simp only [e, hcl] at h2
          exact h2
        clear hcl
        go_wp2_with fail
        refine (inCl_any c _).mono ?_
        rintro e w' ⟨rfl, rfl⟩
        rw [hsp]
        clear hsp
        go_wp2
        exact ⟨⟨k + 1, by omega, by omega, by go_num⟩, by simp [intOf]; omega⟩
      · obtain rfl : k = n := by omega
        have hsp : isCl c = false := by
          have e := HN.out
          unfold over at e
          have h2 := take_eq (p := isCl) (l := l.drop i) (by simp; omega)
          rw [List.getElem_drop] at h2
          simp only [← e, hcl] at h2
          exact h2
        clear hcl
        go_wp2_with fail
        refine (inCl_any c _).mono ?_
        rintro e w' ⟨rfl, rfl⟩
        rw [hsp]
        clear hsp
        go_wp2
        go_ret
        exact ⟨rfl, rfl⟩
    · obtain rfl : k = n := by omega
      go_wp2
      go_ret
      exact ⟨rfl, rfl⟩

theorem results_tmp5 {fn : Func} {t u v x y : Tmp} (h : fn.results = #[.tmp t, .tmp u, .tmp v, .tmp x, .tmp y]) (tmps : Array Value) (P : Program) (w : World) :
    (results fn tmps).run P w = .ok (.tuple #[tmps.getD t undef, tmps.getD u undef, tmps.getD v undef, tmps.getD x undef, tmps.getD y undef]) w := by
  simp [results, h]
theorem atIs_yes {l : Bs} {k : Nat} {c : UInt8} (h : atIs l k c = true) : k < l.length ∧ ∀ hk, (ByteArray.mk l.toArray)[k]'hk = c := by
  have h1 := atIs_lt h
  refine ⟨h1, fun hk => ?_⟩
  unfold atIs at h
  rw [List.getElem?_eq_getElem h1] at h
  have : l[k] = c := by simpa using h
  exact this
theorem atIs_no {l : Bs} {k : Nat} {c : UInt8} (n : Int) (hn : (c.toNat : Int) = n) (h : atIs l k c = false) : ¬ k < l.length ∨ (k < l.length ∧ ∃ d : UInt8, (∀ hk, (ByteArray.mk l.toArray)[k]'hk = d) ∧ ((d.toNat : Int) != n) = true) := by
  subst hn
  by_cases h1 : k < l.length
  · refine .inr ⟨h1, l[k], fun _ => rfl, ?_⟩
    unfold atIs at h
    rw [List.getElem?_eq_getElem h1] at h
    rw [bne, u8_beq]
    simpa using h
  · exact .inl h1
/-- What matchParens answers. -/
def mRes (i : Nat) : Option (Nat × Nat × Nat) → Value
  | none => .tuple #[.int .i64 0, .int .i64 0, .int .i64 0, .int .i64 0, .bool false]
  | some (f, t, e) => .tuple #[.int .i64 i, .int .i64 f, .int .i64 t, .int .i64 e, .bool true]

theorem match_one (l : Bs) (i : Nat) (w : World) (hl : l.length ≤ 1000000000) (hi : i < l.length) (r : Option (Nat × Nat × Nat)) (hr : mPa false l i = r) :
    Calls Tryz.prog 119 #[S l, .int .i64 i, .bool false] w fun e w' => e = .returned (mRes i r) ∧ w = w' := by
  unfold mPa at hr
  simp only [Bool.false_eq_true, if_false] at hr
  cases h1 : atIs l i 41 with
  | false =>
    rw [h1] at hr
    subst hr
    rcases atIs_no 41 rfl h1 with h | ⟨_, d, hd, hne⟩
    · exact absurd hi h
    clear h1
    go_enter Tryz.func119, Tryz.ntmps119
    go_wp2
    ((try simp only [Exit.inBlock, Exit.then]); refine bodyPost_ret (results_tmp5 rfl _ _ _) rfl ?_)
    exact ⟨rfl, rfl⟩
  | true =>
    obtain ⟨_, hd⟩ := atIs_yes h1
    rw [h1] at hr
    simp only [if_true] at hr
    have hov := over_any l (i + 1) w hl (by omega)
    obtain ⟨k, hk⟩ : ∃ k, k = i + 1 + over (l.drop (i + 1)) := ⟨_, rfl⟩
    rw [← hk] at hr hov
    have hle : over (l.drop (i + 1)) ≤ l.length - (i + 1) := by
      have := (List.takeWhile_sublist (p := isCl) (l := l.drop (i + 1))).length_le
      simpa [over] using this
    have hkl : k ≤ l.length := by omega
    clear h1 hk hle
    go_enter Tryz.func119, Tryz.ntmps119
    go_wp2_with fail
    rw [show ((i : Int) + 1) = ((i + 1 : Nat) : Int) from by omega]
    refine hov.mono ?_
    rintro e w' ⟨rfl, rfl⟩
    clear hov
    cases h2 : atIs l k 44 with
    | false =>
      rw [h2] at hr
      simp only [Bool.false_eq_true, if_false] at hr
      subst hr
      rcases atIs_no 44 rfl h2 with h | ⟨hlt, d, hd, hne⟩
      all_goals
        clear h2
        go_wp2
        ((try simp only [Exit.inBlock, Exit.then]); refine bodyPost_ret (results_tmp5 rfl _ _ _) rfl ?_)
        exact ⟨rfl, rfl⟩
    | true =>
      obtain ⟨hlt, hd2⟩ := atIs_yes h2
      rw [h2] at hr
      simp only [if_true] at hr
      have hov := over_any l (k + 1) w hl (by omega)
      obtain ⟨t, ht⟩ : ∃ t, t = k + 1 + over (l.drop (k + 1)) := ⟨_, rfl⟩
      rw [← ht] at hr hov
      have hle : over (l.drop (k + 1)) ≤ l.length - (k + 1) := by
        have := (List.takeWhile_sublist (p := isCl) (l := l.drop (k + 1))).length_le
        simpa [over] using this
      have htl : t ≤ l.length := by omega
      clear h2 ht hle
      go_wp2_with fail
      rw [show ((k : Int) + 1) = ((k + 1 : Nat) : Int) from by omega]
      refine hov.mono ?_
      rintro e w' ⟨rfl, rfl⟩
      clear hov
      cases h3 : atIs l t 40 with
      | false =>
        rw [h3] at hr
        simp only [Bool.false_eq_true, if_false] at hr
        subst hr
        rcases atIs_no 40 rfl h3 with h | ⟨hlt, d, hd, hne⟩
        all_goals
          clear h3
          go_wp2
          ((try simp only [Exit.inBlock, Exit.then]); refine bodyPost_ret (results_tmp5 rfl _ _ _) rfl ?_)
          exact ⟨rfl, rfl⟩
      | true =>
        obtain ⟨hlt3, hd3⟩ := atIs_yes h3
        rw [h3] at hr
        simp only [if_true] at hr
        subst hr
        clear h3
        go_wp2
        ((try simp only [Exit.inBlock, Exit.then]); refine bodyPost_ret (results_tmp5 rfl _ _ _) rfl ?_)
        exact ⟨rfl, rfl⟩

set_option maxRecDepth 20000 in
set_option maxHeartbeats 1000000 in
theorem match_two (l : Bs) (i : Nat) (w : World) (hl : l.length ≤ 1000000000) (hi : i < l.length) (r : Option (Nat × Nat × Nat)) (hr : mPa true l i = r) :
    Calls Tryz.prog 119 #[S l, .int .i64 i, .bool true] w fun e w' => e = .returned (mRes i r) ∧ w = w' := by
  unfold mPa at hr
  simp only [if_true] at hr
  cases h0 : atIs l i 41 with
  | false =>
    rw [h0] at hr
    simp only [Bool.false_eq_true, if_false] at hr
    subst hr
    rcases atIs_no 41 rfl h0 with h | ⟨_, d, hd, hne⟩
    · exact absurd hi h
    · clear h0
      go_enter Tryz.func119, Tryz.ntmps119
      go_wp2
      ((try simp only [Exit.inBlock, Exit.then]); refine bodyPost_ret (results_tmp5 rfl _ _ _) rfl ?_)
      exact ⟨rfl, rfl⟩
  | true =>
    obtain ⟨hlt0, hd0⟩ := atIs_yes h0
    rw [h0] at hr
    simp only [if_true] at hr
    have hov := over_any l (i + 1) w hl (by omega)
    obtain ⟨b, hq0⟩ : ∃ b, b = i + 1 + over (l.drop (i + 1)) := ⟨_, rfl⟩
    rw [← hq0] at hr hov
    have hle : over (l.drop (i + 1)) ≤ l.length - (i + 1) := by
      have := (List.takeWhile_sublist (p := isCl) (l := l.drop (i + 1))).length_le
      simpa [over] using this
    have hl0 : b ≤ l.length := by omega
    clear h0 hq0 hle
    go_enter Tryz.func119, Tryz.ntmps119
    go_wp2_with fail
    rw [show ((i : Int) + 1) = ((i + 1 : Nat) : Int) from by omega]
    refine hov.mono ?_
    rintro e0 w' ⟨rfl, rfl⟩
    clear hov
    cases h1 : atIs l b 41 with
    | false =>
      rw [h1] at hr
      simp only [Bool.false_eq_true, if_false] at hr
      subst hr
      rcases atIs_no 41 rfl h1 with h | ⟨hlt, d, hd, hne⟩
      all_goals
        clear h1
        go_wp2
        ((try simp only [Exit.inBlock, Exit.then]); refine bodyPost_ret (results_tmp5 rfl _ _ _) rfl ?_)
        exact ⟨rfl, rfl⟩
    | true =>
      obtain ⟨hlt1, hd1⟩ := atIs_yes h1
      rw [h1] at hr
      simp only [if_true] at hr
      have hov := over_any l (b + 1) w hl (by omega)
      obtain ⟨k, hq1⟩ : ∃ k, k = b + 1 + over (l.drop (b + 1)) := ⟨_, rfl⟩
      rw [← hq1] at hr hov
      have hle : over (l.drop (b + 1)) ≤ l.length - (b + 1) := by
        have := (List.takeWhile_sublist (p := isCl) (l := l.drop (b + 1))).length_le
        simpa [over] using this
      have hl1 : k ≤ l.length := by omega
      clear h1 hq1 hle
      go_wp2_with fail
      rw [show ((b : Int) + 1) = ((b + 1 : Nat) : Int) from by omega]
      refine hov.mono ?_
      rintro e0 w' ⟨rfl, rfl⟩
      clear hov
      cases h2 : atIs l k 44 with
      | false =>
        rw [h2] at hr
        simp only [Bool.false_eq_true, if_false] at hr
        subst hr
        rcases atIs_no 44 rfl h2 with h | ⟨hlt, d, hd, hne⟩
        all_goals
          clear h2
          go_wp2
          ((try simp only [Exit.inBlock, Exit.then]); refine bodyPost_ret (results_tmp5 rfl _ _ _) rfl ?_)
          exact ⟨rfl, rfl⟩
      | true =>
        obtain ⟨hlt2, hd2⟩ := atIs_yes h2
        rw [h2] at hr
        simp only [if_true] at hr
        have hov := over_any l (k + 1) w hl (by omega)
        obtain ⟨t, hq2⟩ : ∃ t, t = k + 1 + over (l.drop (k + 1)) := ⟨_, rfl⟩
        rw [← hq2] at hr hov
        have hle : over (l.drop (k + 1)) ≤ l.length - (k + 1) := by
          have := (List.takeWhile_sublist (p := isCl) (l := l.drop (k + 1))).length_le
          simpa [over] using this
        have hl2 : t ≤ l.length := by omega
        clear h2 hq2 hle
        go_wp2_with fail
        rw [show ((k : Int) + 1) = ((k + 1 : Nat) : Int) from by omega]
        refine hov.mono ?_
        rintro e0 w' ⟨rfl, rfl⟩
        clear hov
        cases h3 : atIs l t 40 with
        | false =>
          rw [h3] at hr
          simp only [Bool.false_eq_true, if_false] at hr
          subst hr
          rcases atIs_no 40 rfl h3 with h | ⟨hlt, d, hd, hne⟩
          all_goals
            clear h3
            go_wp2
            ((try simp only [Exit.inBlock, Exit.then]); refine bodyPost_ret (results_tmp5 rfl _ _ _) rfl ?_)
            exact ⟨rfl, rfl⟩
        | true =>
          obtain ⟨hlt3, hd3⟩ := atIs_yes h3
          rw [h3] at hr
          simp only [if_true] at hr
          have hov := over_any l (t + 1) w hl (by omega)
          obtain ⟨e, hq3⟩ : ∃ e, e = t + 1 + over (l.drop (t + 1)) := ⟨_, rfl⟩
          rw [← hq3] at hr hov
          have hle : over (l.drop (t + 1)) ≤ l.length - (t + 1) := by
            have := (List.takeWhile_sublist (p := isCl) (l := l.drop (t + 1))).length_le
            simpa [over] using this
          have hl3 : e ≤ l.length := by omega
          clear h3 hq3 hle
          go_wp2_with fail
          rw [show ((t : Int) + 1) = ((t + 1 : Nat) : Int) from by omega]
          refine hov.mono ?_
          rintro e0 w' ⟨rfl, rfl⟩
          clear hov
          cases h4 : atIs l e 40 with
          | false =>
            rw [h4] at hr
            simp only [Bool.false_eq_true, if_false] at hr
            subst hr
            rcases atIs_no 40 rfl h4 with h | ⟨hlt, d, hd, hne⟩
            all_goals
              clear h4
              go_wp2
              ((try simp only [Exit.inBlock, Exit.then]); refine bodyPost_ret (results_tmp5 rfl _ _ _) rfl ?_)
              exact ⟨rfl, rfl⟩
          | true =>
            obtain ⟨hlt4, hd4⟩ := atIs_yes h4
            rw [h4] at hr
            simp only [if_true] at hr
            subst hr
            clear h4
            go_wp2
            ((try simp only [Exit.inBlock, Exit.then]); refine bodyPost_ret (results_tmp5 rfl _ _ _) rfl ?_)
            exact ⟨rfl, rfl⟩

/-- matchParens. -/
theorem match_any (double : Bool) (l : Bs) (i : Nat) (w : World) (hl : l.length ≤ 1000000000) (hi : i < l.length) :
    Calls Tryz.prog 119 #[S l, .int .i64 i, .bool double] w fun e w' => e = .returned (mRes i (mPa double l i)) ∧ w = w' := by
  cases double
  · exact match_one l i w hl hi _ rfl
  · exact match_two l i w hl hi _ rfl
/-! Walks: findParens. -/
def encM (x : Nat × Nat × Nat × Nat) : List Int := [x.1, x.2.1, x.2.2.1, x.2.2.2]
def rowsK : Kd (List Int) := Kd.slice 3 (Kd.int .i64)
theorem info144 : (Tryz.prog.info? 144).map (fun i => (i.zero, i.size, i.bytes)) = some (some (.slice none 0 0), 1, 24) := by kernel_rfl
theorem R_ints (W : World) (base : Nat) (hb : base ≤ W.heap.size) (a b c d : Int) (ok : Nat → Prop) (hok : ok W.heap.size) :
    (Kd.int .i64).R 3 (W.alloc (.cells #[.int .i64 a, .int .i64 b, .int .i64 c, .int .i64 d] 3)) base ok (.slice (some ⟨W.heap.size, 0, none⟩) 4 4) [a, b, c, d] := by
  refine Kd.R_of_own ?_ (fun k hk => by simp [Value.ownBlock] at hk; subst hk; exact hok)
  exact own_lit W base 3 .i64 [a, b, c, d] hb (by simp)

/-- Where findParens stands. -/
structure FSt (double : Bool) (l : Bs) (done : List (Nat × Nat × Nat × Nat)) (i n : Nat) : Prop where
  il : i ≤ l.length
  hn : l.length - i ≤ n
  dl : done.length ≤ i
  eq : done ++ mts double l n i = mts double l l.length 0
theorem FSt.miss {double : Bool} {l : Bs} {done : List (Nat × Nat × Nat × Nat)} {i n : Nat} (h : FSt double l done i n) (hi : i < l.length) (hm : mPa double l i = none) : ∃ n', FSt double l done (i + 1) n' := by
  obtain ⟨h1, h2, h3, h4⟩ := h
  cases n with
  | zero => omega
  | succ n =>
    refine ⟨n, by omega, by omega, by omega, ?_⟩
    rw [← h4]
    conv => rhs; rw [mts, if_pos hi, hm]
theorem FSt.hit {double : Bool} {l : Bs} {done : List (Nat × Nat × Nat × Nat)} {i n f t e : Nat} (h : FSt double l done i n) (hi : i < l.length) (hm : mPa double l i = some (f, t, e)) : i < e ∧ e ≤ l.length ∧ ∃ n', FSt double l (done ++ [(i, e, f, t)]) e n' := by
  obtain ⟨h1, h2, h3, h4⟩ := h
  obtain ⟨m1, m2, m3, m4⟩ := mPa_lim hm
  refine ⟨by omega, m4, ?_⟩
  cases n with
  | zero => omega
  | succ n =>
    refine ⟨n, m4, by omega, by simp; omega, ?_⟩
    rw [← h4]
    conv => rhs; rw [mts, if_pos hi, hm]
    simp
theorem FSt.over {double : Bool} {l : Bs} {done : List (Nat × Nat × Nat × Nat)} {i n : Nat} (h : FSt double l done i n) (hi : ¬ i < l.length) : mts double l l.length 0 = done := by
  rw [← h.eq, mts_end _ _ _ _ hi, List.append_nil]

set_option maxRecDepth 20000 in
/-- findParens. -/
theorem find_any (double : Bool) (l : Bs) (w : World) (hl : l.length ≤ 1000000000) :
    Calls Tryz.prog 107 #[S l, .bool double] w fun e w' => ∃ v, e = .returned v ∧ rowsK.R 144 w' w.heap.size (fun _ => True) v ((mts double l l.length 0).map encM) ∧ Below w.heap.size w w' := by
  go_enter Tryz.func107, Tryz.ntmps107
  go_wp2
  go_loopw [5, 6] (fun v5 v6 wr => ∃ (i n : Nat) (done : List (Nat × Nat × Nat × Nat)) (A : Option Addr) (k c : Nat), v5 = .slice A k c ∧ v6 = .int .i64 i ∧ FSt double l done i n ∧ rowsK.R 144 wr w.heap.size (fun _ => True) (.slice A k c) (done.map encM) ∧ Below w.heap.size w wr) (fun v5 v6 wr => l.length - (intOf v6).toNat)
  case atStart => exact ⟨0, l.length, [], none, 0, 0, rfl, rfl, ⟨by omega, by omega, by simp, by simp⟩, Kd.R_nil _ _ _ _ _, Below.refl _ _⟩
  case round =>
    obtain ⟨i, n, done, A, k, c, rfl, rfl, hf, hR, hb⟩ := hrel
    have hdl := hf.dl
    by_cases hlt : i < l.length
    · have HR := Lib.hid hR
      have HB := Lib.hid hb
      have hwr := hb.size
      have HF := Lib.hid hf
      have hcall := match_any double l i wr hl hlt
      clear hR hb hf
      go_wp2_with fail
      refine hcall.mono ?_
      rintro e1 w1 ⟨rfl, rfl⟩
      clear hcall
      cases hm : mPa double l i with
      | none =>
        obtain ⟨n', hf'⟩ := HF.out.miss hlt hm
        have HF' := Lib.hid hf'
        clear hm hf'
        unfold mRes
        go_wp2
        exact ⟨⟨i + 1, n', done, A, k, c, rfl, by go_num, HF'.out, HR.out, HB.out⟩, by simp [intOf]; omega⟩
      | some x =>
        obtain ⟨f, t, e⟩ := x
        obtain ⟨hie, hel, n', hf'⟩ := HF.out.hit hlt hm
        have HF' := Lib.hid hf'
        clear hm hf'
        unfold mRes
        go_wp2_with (at_builtin; go_loud (refine Kd.R_append rowsK (w0 := w) w.heap.size rfl (.tmp 30) (.tmp 36) 142 144 (.slice none 0 0) 24 rfl Tryz.underlying142 info144 rfl (by decide) (by decide) (.slice A k c) (done.map encM) (encM (i, e, f, t)) [.slice (some ⟨wr.heap.size, 0, none⟩) 4 4] (fun _ => True) (fun k => k = wr.heap.size) rfl (by simp [Act.eval]) ?hp ?hokp ?hfresh ?HO ?HB ?hbase ?hl ?_))
        case hp => exact ⟨_, rfl, R_ints wr w.heap.size hwr _ _ _ _ _ rfl⟩
        case hokp => rintro q rfl; exact ⟨trivial, fun e0 => by have := Kd.R_lt HR.out _ e0.symm; omega⟩
        case hfresh => exact fun _ _ => trivial
        case HO => exact Kd.R_alloc HR.out _
        case HB => exact HB.out.alloc hwr _
        case hbase => simp; omega
        case hl => simp; omega
        intro v1 w2 hR2 hb2 hg2 hat2
        obtain ⟨A1, k1, c1, rfl⟩ := R_sl hR2
        have hR3 : rowsK.R 144 w2 w.heap.size (fun _ => True) (.slice A1 k1 c1) ((done ++ [(i, e, f, t)]).map encM) := by
          rw [List.map_append]; exact hR2
        have HR3 := Lib.hid hR3
        have HB2 := Lib.hid hb2
        clear hR2 hb2 hg2 hat2 hR3
        go_wp2
        exact ⟨⟨e, n', _, A1, k1, c1, rfl, rfl, HF'.out, HR3.out, HB2.out⟩, by simp [intOf]; omega⟩
    · have hov := hf.over hlt
      have HR := Lib.hid hR
      have HB := Lib.hid hb
      have HV := Lib.hid hov
      clear hR hb hov hf
      go_wp2
      go_ret
      exact ⟨_, rfl, by rw [HV.out]; exact HR.out, HB.out⟩
end Go.Proofs.YtghajgdiaopioaaGreatDoor
end
