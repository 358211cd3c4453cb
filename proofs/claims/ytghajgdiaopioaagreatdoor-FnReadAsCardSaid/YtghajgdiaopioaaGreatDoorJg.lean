/- Walks and plain laws joined (Wi, Wj, Wk). Conditions: stand in each law. -/
import Derived.Test.YtghajgdiaopioaaGreatDoorJf
/- Walks: inClass, overClass, matchParens. Conditions: stand in each contract. -/
section
set_option linter.unusedVariables false
set_option linter.unusedSimpArgs false
namespace Go.Proofs.YtghajgdiaopioaaGreatDoor
open Go.RowKit Go.Proofs Tx
open Go.Proofs.YtghajgdiaopioaaGreatDoorW.PrintWords

theorem cl_tests (c : UInt8) : isCl c = ((c.toNat : Int) == 32 || (c.toNat : Int) == 9 || (c.toNat : Int) == 10 || (c.toNat : Int) == 12 || (c.toNat : Int) == 13 || (c.toNat : Int) == 124) := by
  unfold isCl
  rw [← u8_beq c 32, ← u8_beq c 9, ← u8_beq c 10, ← u8_beq c 12, ← u8_beq c 13, ← u8_beq c 124]; rfl
theorem inCl_any (c : UInt8) (w : World) : Calls Tryz.prog 146 #[.int .u8 c.toNat] w fun e w' => e = .returned (.bool (isCl c)) ∧ w = w' := by
  have h := Lib.hid (cl_tests c)
  go_enter Tryz.func146, Tryz.ntmps146
  go_wp2
  all_goals
    go_ret
    refine ⟨ret_bool ?_, rfl⟩
    rw [h.out]
    try (simp_all; done)
theorem over_any (l : Bs) (i : Nat) (w : World) (hl : l.length ≤ 1000000000) (hi : i ≤ l.length) :
    Calls Tryz.prog 133 #[S l, .int .i64 i] w fun e w' => e = .returned (.int .i64 ((i + over (l.drop i) : Nat) : Int)) ∧ w = w' := by
  obtain ⟨n, hn⟩ : ∃ n, n = i + over (l.drop i) := ⟨_, rfl⟩
  have hle : over (l.drop i) ≤ l.length - i := by
    have := (List.takeWhile_sublist (p := isCl) (l := l.drop i)).length_le
    simpa [over] using this
  have hn2 : n ≤ l.length := by omega
  rw [← hn]
  have hin : i ≤ n := by omega
  have HN := Lib.hid hn
  clear hn hle
  go_enter Tryz.func133, Tryz.ntmps133
  go_wp2
  go_loop [1] (fun v => ∃ k : Nat, i ≤ k ∧ k ≤ n ∧ v = .int .i64 k) (fun v => l.length - (intOf v).toNat)
  case atStart => exact ⟨i, Nat.le_refl _, hin, rfl⟩
  case round =>
    obtain ⟨k, hik, hkn, rfl⟩ := hrel
    by_cases hlt : k < l.length
    · obtain ⟨c, hc⟩ : ∃ c : UInt8, ∀ h, (ByteArray.mk l.toArray)[k]'h = c := ⟨l[k], fun _ => rfl⟩
      have hcl : l[k] = c := hc (by simpa [ByteArray.size] using hlt)
      by_cases hgo : k < n
      · have hsp : isCl c = true := by
          obtain ⟨h1, h2⟩ := take_ge (p := isCl) (l := l.drop i) (k := k - i) (by have := HN.out; unfold over at this; omega)
          rw [List.getElem_drop] at h2
          have e : i + (k - i) = k := by omega
          simp only [e, hcl] at h2
          exact h2
        clear hcl
        go_wp2_with fail
        refine (inCl_any c _).mono ?_
        rintro e w' ⟨rfl, rfl⟩
        rw [hsp]
        clear hsp
        go_wp2
        exact ⟨⟨k + 1, by omega, by omega, by go_num⟩, by simp [intOf]; omega⟩
      · obtain rfl : k = n := by omega
        have hsp : isCl c = false := by
          have e := HN.out
          unfold over at e
          have h2 := take_eq (p := isCl) (l := l.drop i) (by simp; omega)
          rw [List.getElem_drop] at h2
          simp only [← e, hcl] at h2
          exact h2
        clear hcl
        go_wp2_with fail
        refine (inCl_any c _).mono ?_
        rintro e w' ⟨rfl, rfl⟩
        rw [hsp]
        clear hsp
        go_wp2
        go_ret
        exact ⟨rfl, rfl⟩
    · obtain rfl : k = n := by omega
      go_wp2
      go_ret
      exact ⟨rfl, rfl⟩

theorem results_tmp5 {fn : Func} {t u v x y : Tmp} (h : fn.results = #[.tmp t, .tmp u, .tmp v, .tmp x, .tmp y]) (tmps : Array Value) (P : Program) (w : World) :
    (results fn tmps).run P w = .ok (.tuple #[tmps.getD t undef, tmps.getD u undef, tmps.getD v undef, tmps.getD x undef, tmps.getD y undef]) w := by
  simp [results, h]
theorem atIs_yes {l : Bs} {k : Nat} {c : UInt8} (h : atIs l k c = true) : k < l.length ∧ ∀ hk, (ByteArray.mk l.toArray)[k]'hk = c := by
  have h1 := atIs_lt h
  refine ⟨h1, fun hk => ?_⟩
  unfold atIs at h
  rw [List.getElem?_eq_getElem h1] at h
  have : l[k] = c := by simpa using h
  exact this
theorem atIs_no {l : Bs} {k : Nat} {c : UInt8} (n : Int) (hn : (c.toNat : Int) = n) (h : atIs l k c = false) : ¬ k < l.length ∨ (k < l.length ∧ ∃ d : UInt8, (∀ hk, (ByteArray.mk l.toArray)[k]'hk = d) ∧ ((d.toNat : Int) != n) = true) := by
  subst hn
  by_cases h1 : k < l.length
  · refine .inr ⟨h1, l[k], fun _ => rfl, ?_⟩
    unfold atIs at h
    rw [List.getElem?_eq_getElem h1] at h
    rw [bne, u8_beq]
    simpa using h
  · exact .inl h1
/-- What matchParens answers. -/
def mRes (i : Nat) : Option (Nat × Nat × Nat) → Value
  | none => .tuple #[.int .i64 0, .int .i64 0, .int .i64 0, .int .i64 0, .bool false]
  | some (f, t, e) => .tuple #[.int .i64 i, .int .i64 f, .int .i64 t, .int .i64 e, .bool true]

theorem match_one (l : Bs) (i : Nat) (w : World) (hl : l.length ≤ 1000000000) (hi : i < l.length) (r : Option (Nat × Nat × Nat)) (hr : mPa false l i = r) :
    Calls Tryz.prog 119 #[S l, .int .i64 i, .bool false] w fun e w' => e = .returned (mRes i r) ∧ w = w' := by
  unfold mPa at hr
  simp only [Bool.false_eq_true, if_false] at hr
  cases h1 : atIs l i 41 with
  | false =>
    rw [h1] at hr
    subst hr
    rcases atIs_no 41 rfl h1 with h | ⟨_, d, hd, hne⟩
    · exact absurd hi h
    clear h1
    go_enter Tryz.func119, Tryz.ntmps119
    go_wp2
    ((try simp only [Exit.inBlock, Exit.then]); refine bodyPost_ret (results_tmp5 rfl _ _ _) rfl ?_)
    exact ⟨rfl, rfl⟩
  | true =>
    obtain ⟨_, hd⟩ := atIs_yes h1
    rw [h1] at hr
    simp only [if_true] at hr
    have hov := over_any l (i + 1) w hl (by omega)
    obtain ⟨k, hk⟩ : ∃ k, k = i + 1 + over (l.drop (i + 1)) := ⟨_, rfl⟩
    rw [← hk] at hr hov
    have hle : over (l.drop (i + 1)) ≤ l.length - (i + 1) := by
      have := (List.takeWhile_sublist (p := isCl) (l := l.drop (i + 1))).length_le
      simpa [over] using this
    have hkl : k ≤ l.length := by omega
    clear h1 hk hle
    go_enter Tryz.func119, Tryz.ntmps119
    go_wp2_with fail
    rw [show ((i : Int) + 1) = ((i + 1 : Nat) : Int) from by omega]
    refine hov.mono ?_
    rintro e w' ⟨rfl, rfl⟩
    clear hov
    cases h2 : atIs l k 44 with
    | false =>
      rw [h2] at hr
      simp only [Bool.false_eq_true, if_false] at hr
      subst hr
      rcases atIs_no 44 rfl h2 with h | ⟨hlt, d, hd, hne⟩
      all_goals
        clear h2
        go_wp2
        ((try simp only [Exit.inBlock, Exit.then]); refine bodyPost_ret (results_tmp5 rfl _ _ _) rfl ?_)
        exact ⟨rfl, rfl⟩
    | true =>
      obtain ⟨hlt, hd2⟩ := atIs_yes h2
      rw [h2] at hr
      simp only [if_true] at hr
      have hov := over_any l (k + 1) w hl (by omega)
      obtain ⟨t, ht⟩ : ∃ t, t = k + 1 + over (l.drop (k + 1)) := ⟨_, rfl⟩
      rw [← ht] at hr hov
      have hle : over (l.drop (k + 1)) ≤ l.length - (k + 1) := by
        have := (List.takeWhile_sublist (p := isCl) (l := l.drop (k + 1))).length_le
        simpa [over] using this
      have htl : t ≤ l.length := by omega
      clear h2 ht hle
      go_wp2_with fail
      rw [show ((k : Int) + 1) = ((k + 1 : Nat) : Int) from by omega]
      refine hov.mono ?_
      rintro e w' ⟨rfl, rfl⟩
      clear hov
      cases h3 : atIs l t 40 with
      | false =>
        rw [h3] at hr
        simp only [Bool.false_eq_true, if_false] at hr
        subst hr
        rcases atIs_no 40 rfl h3 with h | ⟨hlt, d, hd, hne⟩
        all_goals
          clear h3
          go_wp2
          ((try simp only [Exit.inBlock, Exit.then]); refine bodyPost_ret (results_tmp5 rfl _ _ _) rfl ?_)
          exact ⟨rfl, rfl⟩
      | true =>
        obtain ⟨hlt3, hd3⟩ := atIs_yes h3
        rw [h3] at hr
        simp only [if_true] at hr
        subst hr
        clear h3
        go_wp2
        ((try simp only [Exit.inBlock, Exit.then]); refine bodyPost_ret (results_tmp5 rfl _ _ _) rfl ?_)
        exact ⟨rfl, rfl⟩

set_option maxRecDepth 20000 in
set_option maxHeartbeats 1000000 in
theorem match_two (l : Bs) (i : Nat) (w : World) (hl : l.length ≤ 1000000000) (hi : i < l.length) (r : Option (Nat × Nat × Nat)) (hr : mPa true l i = r) :
    Calls Tryz.prog 119 #[S l, .int .i64 i, .bool true] w fun e w' => e = .returned (mRes i r) ∧ w = w' := by
  unfold mPa at hr
  simp only [if_true] at hr
  cases h0 : atIs l i 41 with
  | false =>
    rw [h0] at hr
    simp only [Bool.false_eq_true, if_false] at hr
    subst hr
    rcases atIs_no 41 rfl h0 with h | ⟨_, d, hd, hne⟩
    · exact absurd hi h
    · clear h0
      go_enter Tryz.func119, Tryz.ntmps119
      go_wp2
      ((try simp only [Exit.inBlock, Exit.then]); refine bodyPost_ret (results_tmp5 rfl _ _ _) rfl ?_)
      exact ⟨rfl, rfl⟩
  | true =>
    obtain ⟨hlt0, hd0⟩ := atIs_yes h0
    rw [h0] at hr
    simp only [if_true] at hr
    have hov := over_any l (i + 1) w hl (by omega)
    obtain ⟨b, hq0⟩ : ∃ b, b = i + 1 + over (l.drop (i + 1)) := ⟨_, rfl⟩
    rw [← hq0] at hr hov
    have hle : over (l.drop (i + 1)) ≤ l.length - (i + 1) := by
      have := (List.takeWhile_sublist (p := isCl) (l := l.drop (i + 1))).length_le
      simpa [over] using this
    have hl0 : b ≤ l.length := by omega
    clear h0 hq0 hle
    go_enter Tryz.func119, Tryz.ntmps119
    go_wp2_with fail
    rw [show ((i : Int) + 1) = ((i + 1 : Nat) : Int) from by omega]
    refine hov.mono ?_
    rintro e0 w' ⟨rfl, rfl⟩
    clear hov
    cases h1 : atIs l b 41 with
    | false =>
      rw [h1] at hr
      simp only [Bool.false_eq_true, if_false] at hr
      subst hr
      rcases atIs_no 41 rfl h1 with h | ⟨hlt, d, hd, hne⟩
      all_goals
        clear h1
        go_wp2
        ((try simp only [Exit.inBlock, Exit.then]); refine bodyPost_ret (results_tmp5 rfl _ _ _) rfl ?_)
        exact ⟨rfl, rfl⟩
    | true =>
      obtain ⟨hlt1, hd1⟩ := atIs_yes h1
      rw [h1] at hr
      simp only [if_true] at hr
      have hov := over_any l (b + 1) w hl (by omega)
      obtain ⟨k, hq1⟩ : ∃ k, k = b + 1 + over (l.drop (b + 1)) := ⟨_, rfl⟩
      rw [← hq1] at hr hov
      have hle : over (l.drop (b + 1)) ≤ l.length - (b + 1) := by
        have := (List.takeWhile_sublist (p := isCl) (l := l.drop (b + 1))).length_le
        simpa [over] using this
      have hl1 : k ≤ l.length := by omega
      clear h1 hq1 hle
      go_wp2_with fail
      rw [show ((b : Int) + 1) = ((b + 1 : Nat) : Int) from by omega]
      refine hov.mono ?_
      rintro e0 w' ⟨rfl, rfl⟩
      clear hov
      cases h2 : atIs l k 44 with
      | false =>
        rw [h2] at hr
        simp only [Bool.false_eq_true, if_false] at hr
        subst hr
        rcases atIs_no 44 rfl h2 with h | ⟨hlt, d, hd, hne⟩
        all_goals
          clear h2
          go_wp2
          ((try simp only [Exit.inBlock, Exit.then]); refine bodyPost_ret (results_tmp5 rfl _ _ _) rfl ?_)
          exact ⟨rfl, rfl⟩
      | true =>
        obtain ⟨hlt2, hd2⟩ := atIs_yes h2
        rw [h2] at hr
        simp only [if_true] at hr
        have hov := over_any l (k + 1) w hl (by omega)
        obtain ⟨t, hq2⟩ : ∃ t, t = k + 1 + over (l.drop (k + 1)) := ⟨_, rfl⟩
        rw [← hq2] at hr hov
        have hle : over (l.drop (k + 1)) ≤ l.length - (k + 1) := by
          have := (List.takeWhile_sublist (p := isCl) (l := l.drop (k + 1))).length_le
          simpa [over] using this
        have hl2 : t ≤ l.length := by omega
        clear h2 hq2 hle
        go_wp2_with fail
        rw [show ((k : Int) + 1) = ((k + 1 : Nat) : Int) from by omega]
        refine hov.mono ?_
        rintro e0 w' ⟨rfl, rfl⟩
        clear hov
        cases h3 : atIs l t 40 with
        | false =>
          rw [h3] at hr
          simp only [Bool.false_eq_true, if_false] at hr
          subst hr
          rcases atIs_no 40 rfl h3 with h | ⟨hlt, d, hd, hne⟩
          all_goals
            clear h3
            go_wp2
            ((try simp only [Exit.inBlock, Exit.then]); refine bodyPost_ret (results_tmp5 rfl _ _ _) rfl ?_)
            exact ⟨rfl, rfl⟩
        | true =>
          obtain ⟨hlt3, hd3⟩ := atIs_yes h3
          rw [h3] at hr
          simp only [if_true] at hr
          have hov := over_any l (t + 1) w hl (by omega)
          obtain ⟨e, hq3⟩ : ∃ e, e = t + 1 + over (l.drop (t + 1)) := ⟨_, rfl⟩
          rw [← hq3] at hr hov
          have hle : over (l.drop (t + 1)) ≤ l.length - (t + 1) := by
            have := (List.takeWhile_sublist (p := isCl) (l := l.drop (t + 1))).length_le
            simpa [over] using this
          have hl3 : e ≤ l.length := by omega
          clear h3 hq3 hle
          go_wp2_with fail
          rw [show ((t : Int) + 1) = ((t + 1 : Nat) : Int) from by omega]
          refine hov.mono ?_
          rintro e0 w' ⟨rfl, rfl⟩
          clear hov
          cases h4 : atIs l e 40 with
          | false =>
            rw [h4] at hr
            simp only [Bool.false_eq_true, if_false] at hr
            subst hr
            rcases atIs_no 40 rfl h4 with h | ⟨hlt, d, hd, hne⟩
            all_goals
              clear h4
              go_wp2
              ((try simp only [Exit.inBlock, Exit.then]); refine bodyPost_ret (results_tmp5 rfl _ _ _) rfl ?_)
              exact ⟨rfl, rfl⟩
          | true =>
            obtain ⟨hlt4, hd4⟩ := atIs_yes h4
            rw [h4] at hr
            simp only [if_true] at hr
            subst hr
            clear h4
            go_wp2
            ((try simp only [Exit.inBlock, Exit.then]); refine bodyPost_ret (results_tmp5 rfl _ _ _) rfl ?_)
            exact ⟨rfl, rfl⟩

/-- matchParens. -/
theorem match_any (double : Bool) (l : Bs) (i : Nat) (w : World) (hl : l.length ≤ 1000000000) (hi : i < l.length) :
    Calls Tryz.prog 119 #[S l, .int .i64 i, .bool double] w fun e w' => e = .returned (mRes i (mPa double l i)) ∧ w = w' := by
  cases double
  · exact match_one l i w hl hi _ rfl
  · exact match_two l i w hl hi _ rfl
end Go.Proofs.YtghajgdiaopioaaGreatDoor
end

/- Walks: findParens. Conditions: stand in each contract. -/
section
set_option linter.unusedVariables false
set_option linter.unusedSimpArgs false
namespace Go.Proofs.YtghajgdiaopioaaGreatDoor
open Go.RowKit Go.Proofs Tx
open Go.Proofs.YtghajgdiaopioaaGreatDoorW.PrintWords

def encM (x : Nat × Nat × Nat × Nat) : List Int := [x.1, x.2.1, x.2.2.1, x.2.2.2]
def rowsK : Kd (List Int) := Kd.slice 3 (Kd.int .i64)
theorem info144 : (Tryz.prog.info? 144).map (fun i => (i.zero, i.size, i.bytes)) = some (some (.slice none 0 0), 1, 24) := by kernel_rfl
theorem R_ints (W : World) (base : Nat) (hb : base ≤ W.heap.size) (a b c d : Int) (ok : Nat → Prop) (hok : ok W.heap.size) :
    (Kd.int .i64).R 3 (W.alloc (.cells #[.int .i64 a, .int .i64 b, .int .i64 c, .int .i64 d] 3)) base ok (.slice (some ⟨W.heap.size, 0, none⟩) 4 4) [a, b, c, d] := by
  refine Kd.R_of_own ?_ (fun k hk => by simp [Value.ownBlock] at hk; subst hk; exact hok)
  exact own_lit W base 3 .i64 [a, b, c, d] hb (by simp)

/-- Where findParens stands. -/
structure FSt (double : Bool) (l : Bs) (done : List (Nat × Nat × Nat × Nat)) (i n : Nat) : Prop where
  il : i ≤ l.length
  hn : l.length - i ≤ n
  dl : done.length ≤ i
  eq : done ++ mts double l n i = mts double l l.length 0
theorem FSt.miss {double : Bool} {l : Bs} {done : List (Nat × Nat × Nat × Nat)} {i n : Nat} (h : FSt double l done i n) (hi : i < l.length) (hm : mPa double l i = none) : ∃ n', FSt double l done (i + 1) n' := by
  obtain ⟨h1, h2, h3, h4⟩ := h
  cases n with
  | zero => omega
  | succ n =>
    refine ⟨n, by omega, by omega, by omega, ?_⟩
    rw [← h4]
    conv => rhs; rw [mts, if_pos hi, hm]
theorem FSt.hit {double : Bool} {l : Bs} {done : List (Nat × Nat × Nat × Nat)} {i n f t e : Nat} (h : FSt double l done i n) (hi : i < l.length) (hm : mPa double l i = some (f, t, e)) : i < e ∧ e ≤ l.length ∧ ∃ n', FSt double l (done ++ [(i, e, f, t)]) e n' := by
  obtain ⟨h1, h2, h3, h4⟩ := h
  obtain ⟨m1, m2, m3, m4⟩ := mPa_lim hm
  refine ⟨by omega, m4, ?_⟩
  cases n with
  | zero => omega
  | succ n =>
    refine ⟨n, m4, by omega, by simp; omega, ?_⟩
    rw [← h4]
    conv => rhs; rw [mts, if_pos hi, hm]
    simp
theorem FSt.over {double : Bool} {l : Bs} {done : List (Nat × Nat × Nat × Nat)} {i n : Nat} (h : FSt double l done i n) (hi : ¬ i < l.length) : mts double l l.length 0 = done := by
  rw [← h.eq, mts_end _ _ _ _ hi, List.append_nil]

set_option maxRecDepth 20000 in
/-- findParens. -/
theorem find_any (double : Bool) (l : Bs) (w : World) (hl : l.length ≤ 1000000000) :
    Calls Tryz.prog 107 #[S l, .bool double] w fun e w' => ∃ v, e = .returned v ∧ rowsK.R 144 w' w.heap.size (fun _ => True) v ((mts double l l.length 0).map encM) ∧ Below w.heap.size w w' := by
  go_enter Tryz.func107, Tryz.ntmps107
  go_wp2
  go_loopw [5, 6] (fun v5 v6 wr => ∃ (i n : Nat) (done : List (Nat × Nat × Nat × Nat)) (A : Option Addr) (k c : Nat), v5 = .slice A k c ∧ v6 = .int .i64 i ∧ FSt double l done i n ∧ rowsK.R 144 wr w.heap.size (fun _ => True) (.slice A k c) (done.map encM) ∧ Below w.heap.size w wr) (fun v5 v6 wr => l.length - (intOf v6).toNat)
  case atStart => exact ⟨0, l.length, [], none, 0, 0, rfl, rfl, ⟨by omega, by omega, by simp, by simp⟩, Kd.R_nil _ _ _ _ _, Below.refl _ _⟩
  case round =>
    obtain ⟨i, n, done, A, k, c, rfl, rfl, hf, hR, hb⟩ := hrel
    have hdl := hf.dl
    by_cases hlt : i < l.length
    · have HR := Lib.hid hR
      have HB := Lib.hid hb
      have hwr := hb.size
      have HF := Lib.hid hf
      have hcall := match_any double l i wr hl hlt
      clear hR hb hf
      go_wp2_with fail
      refine hcall.mono ?_
      rintro e1 w1 ⟨rfl, rfl⟩
      clear hcall
      cases hm : mPa double l i with
      | none =>
        obtain ⟨n', hf'⟩ := HF.out.miss hlt hm
        have HF' := Lib.hid hf'
        clear hm hf'
        unfold mRes
        go_wp2
        exact ⟨⟨i + 1, n', done, A, k, c, rfl, by go_num, HF'.out, HR.out, HB.out⟩, by simp [intOf]; omega⟩
      | some x =>
        obtain ⟨f, t, e⟩ := x
        obtain ⟨hie, hel, n', hf'⟩ := HF.out.hit hlt hm
        have HF' := Lib.hid hf'
        clear hm hf'
        unfold mRes
        go_wp2_with (at_builtin; go_loud (refine Kd.R_append rowsK (w0 := w) w.heap.size rfl (.tmp 30) (.tmp 36) 142 144 (.slice none 0 0) 24 rfl Tryz.underlying142 info144 rfl (by decide) (by decide) (.slice A k c) (done.map encM) (encM (i, e, f, t)) [.slice (some ⟨wr.heap.size, 0, none⟩) 4 4] (fun _ => True) (fun k => k = wr.heap.size) rfl (by simp [Act.eval]) ?hp ?hokp ?hfresh ?HO ?HB ?hbase ?hl ?_))
        case hp => exact ⟨_, rfl, R_ints wr w.heap.size hwr _ _ _ _ _ rfl⟩
        case hokp => rintro q rfl; exact ⟨trivial, fun e0 => by have := Kd.R_lt HR.out _ e0.symm; omega⟩
        case hfresh => exact fun _ _ => trivial
        case HO => exact Kd.R_alloc HR.out _
        case HB => exact HB.out.alloc hwr _
        case hbase => simp; omega
        case hl => simp; omega
        intro v1 w2 hR2 hb2 hg2 hat2
        obtain ⟨A1, k1, c1, rfl⟩ := R_sl hR2
        have hR3 : rowsK.R 144 w2 w.heap.size (fun _ => True) (.slice A1 k1 c1) ((done ++ [(i, e, f, t)]).map encM) := by
          rw [List.map_append]; exact hR2
        have HR3 := Lib.hid hR3
        have HB2 := Lib.hid hb2
        clear hR2 hb2 hg2 hat2 hR3
        go_wp2
        exact ⟨⟨e, n', _, A1, k1, c1, rfl, rfl, HF'.out, HR3.out, HB2.out⟩, by simp [intOf]; omega⟩
    · have hov := hf.over hlt
      have HR := Lib.hid hR
      have HB := Lib.hid hb
      have HV := Lib.hid hov
      clear hR hb hov hf
      go_wp2
      go_ret
      exact ⟨_, rfl, by rw [HV.out]; exact HR.out, HB.out⟩
end Go.Proofs.YtghajgdiaopioaaGreatDoor
end

/- Walks: splitByRegexpYield. Conditions: stand in each contract. -/
section
set_option linter.unusedVariables false
set_option linter.unusedSimpArgs false
namespace Go.Proofs.YtghajgdiaopioaaGreatDoor
open Go.RowKit Go.Proofs Tx
open Go.Proofs.YtghajgdiaopioaaGreatDoorW.PrintWords

/-- The closure that makes the row. -/
def Makes {α : Type} (fa : Nat) (d : Kd α) (e T : Nat) : Prop := ∀ (n : Nat) (w : World) (b : Nat), n ≤ 1000000001 → b < w.heap.size → w.heap[b]? = some (.cells #[.slice none 0 0] T (0, 0)) →
  Calls Tryz.prog fa #[.int .i64 n, .pointer (some ⟨b, 0, none⟩)] w fun e' w' => (∃ v, e' = .returned v) ∧ RowIn d e T w.heap.size b [] w' ∧ Fr w.heap.size b w w'

theorem call82 : ∀ args w, (callFunc 82 args).run Tryz.prog w = .ok (.enter 82 args) w := by
  intro args w
  kernel_rfl
theorem makes82 : Makes 82 lineK 117 69 := by
  intro n w b hn hbl hk
  have hc := box_cell hk
  have hf := box_free hk
  have HK := Lib.hid hk
  clear hk
  go_enter Tryz.func82, Tryz.ntmps82
  go_wp2_with (at_make; go_loud (refine make0 lineK _ rfl _ _ 69 rfl 117 _ _ Tryz.underlying69 info117 _ n rfl rfl rfl (by omega) (by omega) ?_))
  intro w1 hsz hb1 hR
  have hR1 := hR w.heap.size (fun _ => True) (Nat.le_refl _) trivial
  have hk1 := blk_below HK.out hb1
  have hc1 := box_cell hk1
  have hf1 := box_free hk1
  have HK1 := Lib.hid hk1
  have HR1 := Lib.hid hR1
  have HB1 := Lib.hid hb1
  clear hk1 hR hR1 hb1 hc hf
  go_wp2
  go_end0
  refine ⟨⟨_, rfl⟩, ⟨hbl, by simp [World.setCell]; omega, _, box_set HK1.out, Kd.R_mono (Kd.R_far (p := ⟨b, 0, none⟩) (R_own_ge HR1.out) (fun k hk => by show k ≠ b; omega) _) (fun _ _ => trivial)⟩, (Fr.of_below HB1.out).setCell _⟩

theorem call86 : ∀ args w, (callFunc 86 args).run Tryz.prog w = .ok (.enter 86 args) w := by
  intro args w
  kernel_rfl
theorem makes86 : Makes 86 lineK 65 76 := by
  intro n w b hn hbl hk
  have hc := box_cell hk
  have hf := box_free hk
  have HK := Lib.hid hk
  clear hk
  go_enter Tryz.func86, Tryz.ntmps86
  go_wp2_with (at_make; go_loud (refine make0 lineK _ rfl _ _ 76 rfl 65 _ _ Tryz.underlying76 info65 _ n rfl rfl rfl (by omega) (by omega) ?_))
  intro w1 hsz hb1 hR
  have hR1 := hR w.heap.size (fun _ => True) (Nat.le_refl _) trivial
  have hk1 := blk_below HK.out hb1
  have hc1 := box_cell hk1
  have hf1 := box_free hk1
  have HK1 := Lib.hid hk1
  have HR1 := Lib.hid hR1
  have HB1 := Lib.hid hb1
  clear hk1 hR hR1 hb1 hc hf
  go_wp2
  go_end0
  refine ⟨⟨_, rfl⟩, ⟨hbl, by simp [World.setCell]; omega, _, box_set HK1.out, Kd.R_mono (Kd.R_far (p := ⟨b, 0, none⟩) (R_own_ge HR1.out) (fun k hk => by show k ≠ b; omega) _) (fun _ _ => trivial)⟩, (Fr.of_below HB1.out).setCell _⟩

theorem call91 : ∀ args w, (callFunc 91 args).run Tryz.prog w = .ok (.enter 91 args) w := by
  intro args w
  kernel_rfl
theorem makes91 : Makes 91 lineK 117 69 := by
  intro n w b hn hbl hk
  have hc := box_cell hk
  have hf := box_free hk
  have HK := Lib.hid hk
  clear hk
  go_enter Tryz.func91, Tryz.ntmps91
  go_wp2_with (at_make; go_loud (refine make0 lineK _ rfl _ _ 69 rfl 117 _ _ Tryz.underlying69 info117 _ n rfl rfl rfl (by omega) (by omega) ?_))
  intro w1 hsz hb1 hR
  have hR1 := hR w.heap.size (fun _ => True) (Nat.le_refl _) trivial
  have hk1 := blk_below HK.out hb1
  have hc1 := box_cell hk1
  have hf1 := box_free hk1
  have HK1 := Lib.hid hk1
  have HR1 := Lib.hid hR1
  have HB1 := Lib.hid hb1
  clear hk1 hR hR1 hb1 hc hf
  go_wp2
  go_end0
  refine ⟨⟨_, rfl⟩, ⟨hbl, by simp [World.setCell]; omega, _, box_set HK1.out, Kd.R_mono (Kd.R_far (p := ⟨b, 0, none⟩) (R_own_ge HR1.out) (fun k hk => by show k ≠ b; omega) _) (fun _ _ => trivial)⟩, (Fr.of_below HB1.out).setCell _⟩

def polyK : Kd (List (List Pt)) := Kd.slice 117 lineK

theorem call89 : ∀ args w, (callFunc 89 args).run Tryz.prog w = .ok (.enter 89 args) w := by
  intro args w
  kernel_rfl
theorem makes89 : Makes 89 polyK 69 80 := by
  intro n w b hn hbl hk
  have hc := box_cell hk
  have hf := box_free hk
  have HK := Lib.hid hk
  clear hk
  go_enter Tryz.func89, Tryz.ntmps89
  go_wp2_with (at_make; go_loud (refine make0 polyK _ rfl _ _ 80 rfl 69 _ _ Tryz.underlying80 info69 _ n rfl rfl rfl (by omega) (by omega) ?_))
  intro w1 hsz hb1 hR
  have hR1 := hR w.heap.size (fun _ => True) (Nat.le_refl _) trivial
  have hk1 := blk_below HK.out hb1
  have hc1 := box_cell hk1
  have hf1 := box_free hk1
  have HK1 := Lib.hid hk1
  have HR1 := Lib.hid hR1
  have HB1 := Lib.hid hb1
  clear hk1 hR hR1 hb1 hc hf
  go_wp2
  go_end0
  refine ⟨⟨_, rfl⟩, ⟨hbl, by simp [World.setCell]; omega, _, box_set HK1.out, Kd.R_mono (Kd.R_far (p := ⟨b, 0, none⟩) (R_own_ge HR1.out) (fun k hk => by show k ≠ b; omega) _) (fun _ _ => trivial)⟩, (Fr.of_below HB1.out).setCell _⟩

/-! ### Plain: the pieces lie in the text -/
def Ch (l : Bs) : Nat → List (Nat × Nat × Nat × Nat) → Prop
  | b, [] => b ≤ l.length
  | b, x :: ms => b ≤ x.2.2.1 ∧ x.2.2.1 ≤ l.length ∧ Ch l x.2.2.2 ms
theorem mts_ch (double : Bool) (l : Bs) : ∀ n i b, b ≤ i → i ≤ l.length → Ch l b (mts double l n i)
  | 0, i, b, h1, h2 => by unfold mts Ch; omega
  | n + 1, i, b, h1, h2 => by
    unfold mts
    by_cases hlt : i < l.length
    · rw [if_pos hlt]
      cases hm : mPa double l i with
      | none => exact mts_ch double l n (i + 1) b (by omega) (by omega)
      | some x =>
        obtain ⟨f, t, e⟩ := x
        obtain ⟨m1, m2, m3, m4⟩ := mPa_lim hm
        exact ⟨by show b ≤ f; omega, by show f ≤ _; omega, mts_ch double l n e t (by omega) m4⟩
    · rw [if_neg hlt]; unfold Ch; omega
theorem mts_len (double : Bool) (l : Bs) : ∀ n i, i ≤ l.length → (mts double l n i).length ≤ l.length - i
  | 0, i, h => by simp [mts]
  | n + 1, i, h => by
    unfold mts
    by_cases hlt : i < l.length
    · rw [if_pos hlt]
      cases hm : mPa double l i with
      | none => have := mts_len double l n (i + 1) (by omega); simp only; omega
      | some x =>
        obtain ⟨f, t, e⟩ := x
        obtain ⟨m1, m2, m3, m4⟩ := mPa_lim hm
        have := mts_len double l n e m4
        simp only [List.length_cons]; omega
    · rw [if_neg hlt]; simp
/-- Where splitByRegexpYield stands: j matches are behind it. -/
structure SSt {α : Type} (f : Bs → Rd α) (l : Bs) (R : Rd (List α)) (ms : List (Nat × Nat × Nat × Nat)) (done : List α) (b j : Nat) : Prop where
  jm : j ≤ ms.length
  dl : done.length = j
  ch : Ch l b (ms.drop j)
  eq : (mapR f (cutM l b (ms.drop j))).map (done ++ ·) = R
theorem SSt.next {α : Type} {f : Bs → Rd α} {l : Bs} {R : Rd (List α)} {ms : List (Nat × Nat × Nat × Nat)} {done : List α} {b j : Nat} (h : SSt f l R ms done b j) (hj : j < ms.length) (hR : R ≠ .unk) :
    b ≤ ms[j].2.2.1 ∧ ms[j].2.2.1 ≤ l.length ∧ f ((l.take ms[j].2.2.1).drop b) ≠ .unk ∧ (f ((l.take ms[j].2.2.1).drop b) = .err → R = .err) ∧ ∀ a, f ((l.take ms[j].2.2.1).drop b) = .ok a → SSt f l R ms (done ++ [a]) ms[j].2.2.2 (j + 1) := by
  obtain ⟨h1, h2, h3, h4⟩ := h
  rw [List.drop_eq_getElem_cons hj] at h3 h4
  simp only [cutM, mapR] at h4
  refine ⟨h3.1, h3.2.1, ?_, ?_, ?_⟩
  · intro e0; rw [e0] at h4; exact hR h4.symm
  · intro e0; rw [e0] at h4; exact h4.symm
  · intro a e0
    rw [e0] at h4
    simp only [Rd.bind, map_map] at h4
    refine ⟨by omega, by simp; omega, h3.2.2, ?_⟩
    rw [← h4]
    simp [Function.comp_def]
theorem SSt.last {α : Type} {f : Bs → Rd α} {l : Bs} {R : Rd (List α)} {ms : List (Nat × Nat × Nat × Nat)} {done : List α} {b j : Nat} (h : SSt f l R ms done b j) (hj : ¬ j < ms.length) : b ≤ l.length ∧ R = (f (l.drop b)).bind fun a => .ok (done ++ [a]) := by
  obtain ⟨h1, h2, h3, h4⟩ := h
  have : j = ms.length := by omega
  subst this
  rw [List.drop_length] at h3 h4
  refine ⟨h3, ?_⟩
  rw [← h4]
  simp only [cutM, mapR]
  cases f (l.drop b) <;> rfl
theorem SSt.le {α : Type} {f : Bs → Rd α} {l : Bs} {R : Rd (List α)} {ms : List (Nat × Nat × Nat × Nat)} {done : List α} {b j : Nat} (h : SSt f l R ms done b j) : b ≤ l.length := by
  obtain ⟨h1, h2, h3, h4⟩ := h
  cases hm : ms.drop j with
  | nil => rw [hm] at h3; exact h3
  | cons x _ => rw [hm] at h3; have := h3.1; have := h3.2.1; omega

/-- What splitByRegexpYield wants of the closure. -/
def YieldsIn {α : Type} (fn B0 : Nat) (d : Kd α) (e T : Nat) (f : Bs → Rd α) : Prop :=
  ∀ l (done : List α) w b B r, l.length ≤ 1000000000 → done.length ≤ 1000000000 → Gl B0 w → B0 ≤ b → RowIn d e T B b done w → f l = r → r ≠ .unk →
    Calls Tryz.prog fn #[S l, .pointer (some ⟨b, 0, none⟩)] w fun e' w' => Yr r (fun a w' => RowIn d e T B b (done ++ [a]) w') e' w' ∧ Fr B b w w'

/-- The cells of a match, in every world that keeps the rows' blocks. -/
theorem get_row {w1 : World} {B1 : Nat} {A : Option Addr} {n c : Nat} {ms : List (Nat × Nat × Nat × Nat)} (h : rowsK.R 144 w1 B1 (fun _ => True) (.slice A n c) (ms.map encM)) (j : Nat) (hj : j < ms.length) :
    ∃ ad ad' c', A = some ad ∧ ∀ wr : World, (∀ k, B1 ≤ k → k < w1.heap.size → wr.heap[k]? = w1.heap[k]?) →
      wr.cell? (ad.add j) = some (.slice (some ad') 4 c') ∧ wr.cell? ⟨ad'.block, ad'.off + 2, none⟩ = some (.int .i64 ms[j].2.2.1) ∧ wr.cell? ⟨ad'.block, ad'.off + 3, none⟩ = some (.int .i64 ms[j].2.2.2) := by
  obtain ⟨h0, inner, hown, hr⟩ := h
  have hj' : j < (ms.map encM).length := by simpa using hj
  have hx : (ms.map encM)[j]? = some (encM ms[j]) := by simp [hj]
  obtain ⟨v, hv, hR⟩ := hr.2 j _ hx
  obtain ⟨g', cap', rfl, hb', hs', -⟩ := Kd.R_form hR (by simp [encM])
  obtain ⟨-, -, hC⟩ := Kd.R_reads' hR
  obtain ⟨hlen, hown⟩ := hown
  rcases hown with ⟨-, h2⟩ | ⟨g, cap, cur, hsl, hg, hh, h1, h2, h3, h4⟩
  · omega
  · cases hsl
    refine ⟨_, ⟨g', 0, none⟩, cap', rfl, fun wr hwr => ?_⟩
    have hgl : g < w1.heap.size := box_lt hh
    have e1 : (⟨g, 0, none⟩ : Addr).add j = ⟨g, j, none⟩ := by unfold Addr.add; split <;> simp_all
    have q1 : wr.cell? ⟨g, j, none⟩ = some (.slice (some ⟨g', 0, none⟩) 4 cap') := by
      rw [cell_of_row wr g j cur 144 (0, 0) ((hwr g hg hgl).trans hh)]
      have h5 : (cur.toList.take ((ms.map encM).length * rowsK.sz))[j]? = inner[j]? := by rw [h4]
      have h6 : inner[j]? = some (.slice (some ⟨g', 0, none⟩) 4 cap') := by
        have h7 : (inner.drop (j * 1)).take 1 = [.slice (some ⟨g', 0, none⟩) 4 cap'] := hv
        have h8 : ((inner.drop (j * 1)).take 1)[0]? = some (.slice (some ⟨g', 0, none⟩) 4 cap') := by rw [h7]; rfl
        simpa using h8
      rw [h6, List.getElem?_take] at h5
      have h9 : j < (ms.map encM).length * rowsK.sz := by show j < _ * 1; omega
      rw [if_pos h9] at h5
      simpa using h5
    obtain ⟨ad', hA', q2⟩ := Kd.at_int hC 2 (by decide) (by simp [encM])
    obtain ⟨ad2, hA2, q3⟩ := Kd.at_int hC 3 (by decide) (by simp [encM])
    cases hA'
    cases hA2
    have e2 : (⟨g', 0, none⟩ : Addr).add (2 : Int).toNat = ⟨g', 2, none⟩ := rfl
    have e3 : (⟨g', 0, none⟩ : Addr).add (3 : Int).toNat = ⟨g', 3, none⟩ := rfl
    rw [e2] at q2
    rw [e3] at q3
    have tr : ∀ (o : Nat) u, w1.cell? ⟨g', o, none⟩ = some u → wr.cell? ⟨g', o, none⟩ = some u := by
      intro o u hu
      have := hwr g' hb' hs'
      rw [← hu]
      simp [World.cell?, this]
    exact ⟨by rw [e1]; exact q1, tr 2 _ q2, tr 3 _ q3⟩
set_option maxRecDepth 20000 in
set_option maxHeartbeats 1000000 in
theorem regex_any {α : Type} (fa fn : Nat) (d : Kd α) (e T : Nat) (f : Bs → Rd α) (hca : ∀ args w, (callFunc fa args).run Tryz.prog w = .ok (.enter fa args) w) (hcf : ∀ args w, (callFunc fn args).run Tryz.prog w = .ok (.enter fn args) w)
    (hM : Makes fa d e T) (B0 : Nat) (hY : YieldsIn fn B0 d e T f) (double : Bool) (l : Bs) (w : World) (b : Nat) (R : Rd (List α)) (hl : l.length ≤ 1000000000) (hg : Gl B0 w) (hB0 : B0 ≤ b) (hb : w.heap[b]? = some (.cells #[.slice none 0 0] T (0, 0)))
    (hR : mapR f (splitP double l) = R) (hn : R ≠ .unk) :
    Calls Tryz.prog 81 #[S l, .bool double, .func (.func fa) #[] #[.pointer (some ⟨b, 0, none⟩)], .func (.func fn) #[] #[.pointer (some ⟨b, 0, none⟩)]] w fun e' w' =>
      Yr R (fun xs w' => ∃ sv, w'.heap[b]? = some (.cells #[sv] T (0, 0)) ∧ d.R e w' w.heap.size (fun _ => True) sv xs) e' w' ∧ Fr w.heap.size b w w' := by
  have hbl : b < w.heap.size := box_lt hb
  rw [splitP_cut] at hR
  obtain ⟨ms, hms⟩ : ∃ ms, ms = mts double l l.length 0 := ⟨_, rfl⟩
  have hch := mts_ch double l l.length 0 0 (Nat.le_refl _) (Nat.zero_le _)
  have hln := mts_len double l l.length 0 (Nat.zero_le _)
  have hfind := find_any double l w hl
  rw [← hms] at hR hch hln hfind
  have hst : SSt f l R ms [] 0 0 := ⟨Nat.zero_le _, rfl, hch, by rw [List.drop_zero, hR]; cases R <;> simp [Rd.map]⟩
  have HST := Lib.hid hst
  have HM := Lib.hid hM
  have HY := Lib.hid hY
  have HG := Lib.hid hg
  have HK := Lib.hid hb
  clear hms hch hR hst hM hY hg hb
  go_enter Tryz.func81, Tryz.ntmps81
  go_wp2_with fail
  refine hfind.mono ?_
  rintro e1 w1 ⟨v, rfl, hR1, hb1⟩
  clear hfind
  obtain ⟨A, c, rfl, hlc, hC1⟩ := Kd.R_reads hR1
  have hmsl : (ms.map encM).length = ms.length := by simp
  rw [hmsl] at hlc hC1
  have hcall := HM.out (ms.length + 1) w1 b (by omega) (by have := hb1.size; omega) (blk_below HK.out hb1)
  have HC1 := Lib.hid hC1
  have HB1 := Lib.hid hb1
  have hsz1 := hb1.size
  have HR1 := Lib.hid hR1
  clear hC1 hb1 hR1 hmsl
  simp only [List.length_map]
  go_wp2_with fail
  refine hcall.mono ?_
  rintro e2 w2 ⟨⟨v2, rfl⟩, hrow, hfr⟩
  clear hcall
  have HROW := Lib.hid hrow
  have HFR := Lib.hid hfr
  clear hrow hfr
  go_wp2
  go_loopw [10, 24] (fun v10 v24 wr => ∃ (j bb : Nat) (done : List α), v10 = .int .i64 bb ∧ v24 = .int .i64 j ∧ SSt f l R ms done bb j ∧ RowIn d e T w1.heap.size b done wr ∧ Fr w1.heap.size b w1 wr) (fun v10 v24 wr => ms.length - (intOf v24).toNat)
  case atStart => exact ⟨0, 0, [], rfl, rfl, HST.out, HROW.out, HFR.out⟩
  case round =>
    obtain ⟨j, bb, done, rfl, rfl, hst, hrow, hfr⟩ := hrel
    have hjm := hst.jm
    have hdl := hst.dl
    have hle := hst.le
    have hgr : Gl B0 wr := (HG.out.low HB1.out).below (hfr.below (by omega)) hB0
    by_cases hlt : j < ms.length
    · obtain ⟨p0, p1, p2, p3, p4⟩ := hst.next hlt hn
      obtain ⟨ad, ad', c', rfl, hqs⟩ := get_row HR1.out j hlt
      obtain ⟨q1, q2, q3⟩ := hqs wr (fun k h1 h2 => hfr.block k h2 (by omega))
      have HQ := Lib.hid hqs
      clear hqs
      obtain ⟨F, hF⟩ : ∃ F, F = ms[j].2.2.1 := ⟨_, rfl⟩
      obtain ⟨G, hG⟩ : ∃ G, G = ms[j].2.2.2 := ⟨_, rfl⟩
      rw [← hF] at p0 p1 p2 p3 p4 q2
      rw [← hG] at p4 q3
      have HG1 := Lib.hid hG
      have hpl : ((l.take F).drop bb).length ≤ 1000000000 := by simp; omega
      have hcall := HY.out _ done wr b w1.heap.size _ hpl (by omega) hgr hB0 hrow rfl p2
      have HP2 := Lib.hid p2
      have HP3 := Lib.hid p3
      have HP4 := Lib.hid p4
      have HFR2 := Lib.hid hfr
      clear p2 p3 p4 hF hG hst hrow hfr hgr hdl hpl
      go_wp2_with fail
      refine hcall.mono ?_
      clear hcall
      cases hr : f ((l.take F).drop bb) with
      | unk => exact absurd hr HP2.out
      | err =>
        rintro e3 w3 ⟨⟨u, v, rfl⟩, hfr3⟩
        have hRe := HP3.out hr
        subst hRe
        have HF3 := Lib.hid (Fr.trans (Fr.of_below HB1.out) ((HFR2.out.trans hfr3).mono hsz1))
        clear hr hfr3
        go_wp2
        go_ret
        exact ⟨⟨_, _, rfl⟩, HF3.out⟩
      | ok a =>
        rintro e3 w3 ⟨⟨rfl, hrow3⟩, hfr3⟩
        obtain ⟨_, _, q6⟩ := HQ.out w3 (fun k h1 h2 => (HFR2.out.trans hfr3).block k h2 (by omega))
        have HS3 := Lib.hid (HP4.out a hr)
        have HR3 := Lib.hid hrow3
        have HF3 := Lib.hid (HFR2.out.trans hfr3)
        rw [← HG1.out] at q6
        clear hr hfr3 hrow3 q1 q2 q3
        go_wp2
        exact ⟨⟨j + 1, G, done ++ [a], rfl, by go_num, HS3.out, HR3.out, HF3.out⟩, by simp [intOf]; omega⟩
    · obtain ⟨hbl2, hlast⟩ := hst.last hlt
      have hpl : (l.drop bb).length ≤ 1000000000 := by simp; omega
      have hfn : f (l.drop bb) ≠ .unk := by
        intro e0; rw [e0] at hlast; exact hn hlast
      have hcall := HY.out _ done wr b w1.heap.size _ hpl (by omega) hgr hB0 hrow rfl hfn
      have HL := Lib.hid hlast
      have HFR2 := Lib.hid hfr
      have HN := Lib.hid hfn
      clear hst hrow hfr hlast hfn hgr hpl
      go_wp2_with fail
      refine hcall.mono ?_
      clear hcall
      cases hr : f (l.drop bb) with
      | unk => exact absurd hr HN.out
      | err =>
        rintro e3 w3 ⟨⟨u, v, rfl⟩, hfr3⟩
        have hRe := HL.out
        rw [hr] at hRe
        simp only [Rd.bind] at hRe
        subst hRe
        have HF3 := Lib.hid (Fr.trans (Fr.of_below HB1.out) ((HFR2.out.trans hfr3).mono hsz1))
        clear hr hfr3
        go_wp2
        go_ret
        exact ⟨⟨_, _, rfl⟩, HF3.out⟩
      | ok a =>
        rintro e3 w3 ⟨⟨rfl, -, -, sv, hsv, hsR⟩, hfr3⟩
        have hRe := HL.out
        rw [hr] at hRe
        simp only [Rd.bind] at hRe
        subst hRe
        have HF3 := Lib.hid (Fr.trans (Fr.of_below HB1.out) ((HFR2.out.trans hfr3).mono hsz1))
        have HSV := Lib.hid hsv
        have HSR := Lib.hid (Kd.R_lower hsR hsz1)
        clear hr hfr3 hsv hsR
        go_wp2
        go_ret
        exact ⟨⟨rfl, sv, HSV.out, HSR.out⟩, HF3.out⟩
end Go.Proofs.YtghajgdiaopioaaGreatDoor
end
