/-
  FnAlgorithmEqualSeesOnlyOIDAndFullBytes: the library's and the project's comparisons by contracts.
-/
import Derived.Test.Qxb6613964aParts
import Derived.Deep.RegionHeld3
namespace Go.Proofs.Qxb6613964a
open Go.RowKit
set_option linter.unusedVariables false

/-- The insertion: only its length matters to the law. -/
theorem insertB_any (a : Option Addr) (n c B : Nat) (xs : List Int) (kn : Nat) (x : Int) (w : World) (hB : B ≤ w.heap.size) (hr : Rd B w a (xs.map (Value.int .u8))) (hn : xs.length = n) (hlen : n ≤ 1048576) (hk : kn ≤ n) :
    Calls Try.prog 9 #[.slice a n c, .int .i64 (kn : Int), .int .u8 x] w fun e w' => ∃ g cap, e = .returned (.slice (some ⟨g, 0, .none⟩) (n + 1) cap) ∧ (∃ ys : List Int, ys.length = n + 1 ∧ w'.ownsRow w.heap.size 5 1 (.slice (some ⟨g, 0, .none⟩) (n + 1) cap) (n + 1) (ys.map (Value.int .u8))) ∧ Below w.heap.size w w' := by
  obtain ⟨i0, hi, hz0, hz1, hz2⟩ := info_parts info5
  go_enter Try.func9, Try.ntmps9
  go_wp2_with (first
    | (at_make; go_must (refine wpList_make_own _ rfl _ _ 23 rfl w.heap.size 5 i0 (.int .u8 0) 1 Try.underlying23 hi hz0 hz1 .i64 .i64 _ (n + 1) rfl rfl (by omega) (by rw [hz2]; omega) (by unfold maxLen; omega) (Nat.le_refl _) ?_); intro w2 hrow2 hg2)
    | fail)
  have hb2 : Below w.heap.size w w2 := (Below.refl _ w).grown hg2 (Nat.le_refl _) (fun j hj => by cases hj)
  clear hg2
  go_loopw [7, 8] (fun v i wr => ∃ (k : Nat) (ys : List Int), k ≤ kn ∧ i = .int .i64 k ∧ ys.length = k ∧ wr.ownsRow w.heap.size 5 1 v k (ys.map (Value.int .u8)) ∧ Below w.heap.size w wr) (fun _ i _ => kn - (intOf i).toNat)
  case atStart => exact ⟨0, [], Nat.zero_le _, rfl, rfl, hrow2, hb2⟩
  case round =>
    obtain ⟨k, ys, hkk, rfl, hyl, hown, hnx⟩ := hrel
    by_cases hlt : k < kn
    · rcases hr.below (hnx.mono hB) with h | ⟨b, off, rfl, _, hc⟩
      · simp at h; subst h; simp at hn; omega
      · obtain ⟨y, hy⟩ : ∃ y, xs[k]? = some y := ⟨_, List.getElem?_eq_getElem (by omega)⟩
        have c1 : wr.cell? ⟨b, off + k, .none⟩ = some (.int .u8 y) := hc k _ (by simp [hy])
        have hki : (k : Int) < n := by omega
        have hbs : w.heap.size ≤ (wr.alloc (.cells #[.int .u8 y] 5)).heap.size := by have := hnx.size; simp; omega
        clear hc hr hy
        go_wp2_with (first
          | (at_builtin; go_must (refine wpList_append_own _ rfl (.tmp 19) (.tmp 24) 23 rfl w.heap.size 5 i0 (.int .u8 0) 1 1 Try.underlying23 hi hz0 hz1 hz2 rfl (by decide) _ k _ rfl (hown.alloc _) ⟨wr.heap.size, 0, .none⟩ 1 1 [.int .u8 y] rfl rfl (cell_one_new _ _ _) (ints_oneCell .u8 [y]) (by unfold maxLen; omega) (by omega) hbs ?_); intro v1 w1 hrow1 hg1 _)
          | fail)
        go_roundw
        case rel => exact ⟨k + 1, ys ++ [y], by omega, by go_num, by simp [hyl], by simpa using hrow1, (hnx.alloc hnx.size _).grown hg1 hbs (fun j hj => (hown.lt j hj).1)⟩
        case measure => simp [intOf]; omega
    · obtain rfl : kn = k := by omega
      have hbs : w.heap.size ≤ (wr.alloc (.cells #[.int .u8 x] 5)).heap.size := by have := hnx.size; simp; omega
      clear hkk hlt
      go_wp2_with (first
        | (at_builtin; go_must (refine wpList_append_own _ rfl (.tmp 26) (.tmp 28) 23 rfl w.heap.size 5 i0 (.int .u8 0) 1 1 Try.underlying23 hi hz0 hz1 hz2 rfl (by decide) _ kn _ rfl (hown.alloc _) ⟨wr.heap.size, 0, .none⟩ 1 1 [.int .u8 x] rfl rfl (cell_one_new _ _ _) (ints_oneCell .u8 [x]) (by unfold maxLen; omega) (by omega) hbs ?_); intro v1 w1 hrow1 hg1 _)
        | fail)
      have hb1 : Below w.heap.size w w1 := (hnx.alloc hnx.size _).grown hg1 hbs (fun j hj => (hown.lt j hj).1)
      have hr1 : w1.ownsRow w.heap.size 5 1 v1 (kn + 1) ((ys ++ [x]).map (Value.int .u8)) := by simpa using hrow1
      clear hrow1 hg1 hown hnx hbs
      go_loopw [7, 9] (fun v i wr => ∃ (k : Nat) (zs : List Int), kn ≤ k ∧ k ≤ n ∧ i = .int .i64 k ∧ zs.length = k + 1 ∧ wr.ownsRow w.heap.size 5 1 v (k + 1) (zs.map (Value.int .u8)) ∧ Below w.heap.size w wr) (fun _ i _ => n - (intOf i).toNat)
      case atStart => exact ⟨kn, ys ++ [x], Nat.le_refl _, hk, rfl, by simp [hyl], hr1, hb1⟩
      case round =>
        obtain ⟨k, zs, hk1, hk2, rfl, hzl, hown, hnx⟩ := hrel
        by_cases hlt : k < n
        · rcases hr.below (hnx.mono hB) with h | ⟨b, off, rfl, _, hc⟩
          · simp at h; subst h; simp at hn; omega
          · obtain ⟨y, hy⟩ : ∃ y, xs[k]? = some y := ⟨_, List.getElem?_eq_getElem (by omega)⟩
            have c1 : wr.cell? ⟨b, off + k, .none⟩ = some (.int .u8 y) := hc k _ (by simp [hy])
            have hbs : w.heap.size ≤ (wr.alloc (.cells #[.int .u8 y] 5)).heap.size := by have := hnx.size; simp; omega
            clear hc hr hy
            go_wp2_with (first
              | (at_builtin; go_must (refine wpList_append_own _ rfl (.tmp 37) (.tmp 42) 23 rfl w.heap.size 5 i0 (.int .u8 0) 1 1 Try.underlying23 hi hz0 hz1 hz2 rfl (by decide) _ (k + 1) _ rfl (hown.alloc _) ⟨wr.heap.size, 0, .none⟩ 1 1 [.int .u8 y] rfl rfl (cell_one_new _ _ _) (ints_oneCell .u8 [y]) (by unfold maxLen; omega) (by omega) hbs ?_); intro v2 w2 hrow2 hg2 _)
              | fail)
            go_roundw
            case rel => exact ⟨k + 1, zs ++ [y], by omega, by omega, by go_num, by simp [hzl], by simpa using hrow2, (hnx.alloc hnx.size _).grown hg2 hbs (fun j hj => (hown.lt j hj).1)⟩
            case measure => simp [intOf]; omega
        · obtain rfl : n = k := by omega
          obtain ⟨g, cap, hv⟩ := own_shape hown
          go_wp2
          go_ret
          rw [hv] at hown
          exact ⟨g, cap, congrArg Ending.returned hv, ⟨zs, hzl, hown⟩, hnx⟩

theorem slicesEqual_empty (a a' : Option Addr) (c c' : Nat) (w : World) :
    Calls Try.prog 14 #[.slice a 0 c, .slice a' 0 c'] w fun e w' => e = .returned (.bool true) ∧ ∃ m, w' = w.drewN m := by
  go_enter Try.func14, Try.ntmps14
  go_wp2
  refine wp_loop_rounds 1 ?_
  rw [rounds_succ]
  go_wp2
  go_ret
  exact ⟨rfl, 0, rfl⟩
theorem slicesEqual_len (a a' : Option Addr) (n n' c c' : Nat) (w : World) (h : n ≠ n') :
    Calls Try.prog 14 #[.slice a n c, .slice a' n' c'] w fun e w' => e = .returned (.bool false) ∧ ∃ m, w' = w.drewN m := by
  have h1 : ((n : Int) != (n' : Int)) = true := by rw [bne_iff_ne]; omega
  go_enter Try.func14, Try.ntmps14
  go_wp2
  go_ret
  exact ⟨rfl, 0, rfl⟩
theorem slicesEqual_same (a a' : Option Addr) (n c c' : Nat) (B : Nat) (xs : List Int) (w : World) (h : Rd B w a (xs.map (Value.int .i64))) (h' : Rd B w a' (xs.map (Value.int .i64))) (hn : xs.length = n) (hlen : n ≤ 2000000) :
    Calls Try.prog 14 #[.slice a n c, .slice a' n c'] w fun e w' => e = .returned (.bool true) ∧ ∃ m, w' = w.drewN m := by
  rcases h with h | ⟨b, off, rfl, _, hc⟩
  · obtain rfl : xs = [] := by simpa using h
    obtain rfl : n = 0 := by simpa using hn.symm
    exact slicesEqual_empty _ _ _ _ _
  rcases h' with h' | ⟨b', off', rfl, _, hc'⟩
  · obtain rfl : xs = [] := by simpa using h'
    obtain rfl : n = 0 := by simpa using hn.symm
    exact slicesEqual_empty _ _ _ _ _
  go_enter Try.func14, Try.ntmps14
  go_wp2
  go_loopw [13] (fun i wr => ∃ k m : Nat, k ≤ n ∧ i = .int .i64 k ∧ wr = w.drewN m) (fun i _ => n - (intOf i).toNat)
  case atStart => exact ⟨0, 0, Nat.zero_le _, rfl, rfl⟩
  case round =>
    obtain ⟨k, m, hk, rfl, rfl⟩ := hrel
    by_cases hlt : k < n
    · obtain ⟨x, hx⟩ : ∃ x, xs[k]? = some x := ⟨_, List.getElem?_eq_getElem (by omega)⟩
      have c1 : w.cell? ⟨b, off + k, .none⟩ = some (.int .i64 x) := hc k _ (by simp [hx])
      have c2 : w.cell? ⟨b', off' + k, .none⟩ = some (.int .i64 x) := hc' k _ (by simp [hx])
      have q : (x != x) = false := by simp
      have hki : (k : Int) < n := by omega
      clear hx hc hc'
      go_wp2_with fail
      go_quiet (fail)
      go_wp2
      go_roundw
      case rel => exact ⟨k + 1, _, by omega, by go_num, rfl⟩
      case measure => simp [intOf]; omega
    · go_wp2
      go_ret
      exact ⟨rfl, m, rfl⟩
theorem oidEqual_same (a a' : Option Addr) (n c c' : Nat) (B : Nat) (xs : List Int) (w : World) (h : Rd B w a (xs.map (Value.int .i64))) (h' : Rd B w a' (xs.map (Value.int .i64))) (hn : xs.length = n) (hlen : n ≤ 2000000) :
    Calls Try.prog 12 #[.slice a n c, .slice a' n c'] w fun e w' => e = .returned (.bool true) ∧ ∃ m, w' = w.drewN m := by
  go_enter Try.func12, Try.ntmps12
  go_wp2_with (go_at_call 14; refine (slicesEqual_same a a' n c c' B xs w h h' hn hlen).mono ?_; rintro e w' ⟨rfl, m, rfl⟩)
  go_ret
  exact ⟨rfl, m, rfl⟩
theorem oidEqual_len (a a' : Option Addr) (n n' c c' : Nat) (w : World) (h : n ≠ n') :
    Calls Try.prog 12 #[.slice a n c, .slice a' n' c'] w fun e w' => e = .returned (.bool false) ∧ ∃ m, w' = w.drewN m := by
  go_enter Try.func12, Try.ntmps12
  go_wp2_with (go_at_call 14; refine (slicesEqual_len a a' n n' c c' w h).mono ?_; rintro e w' ⟨rfl, m, rfl⟩)
  go_ret
  exact ⟨rfl, m, rfl⟩

theorem conv_bytes (a : Option Addr) (n c B : Nat) (xs : List Int) (w : World) (h : Rd B w a (xs.map (Value.int .u8))) (hn : xs.length = n) :
    (convert 23 9 (.slice a n c)).run Try.prog w = .ok (.string (strOfNums xs)) w := by
  rcases h with h | ⟨b, off, rfl, _, hc⟩
  · obtain rfl : xs = [] := by simpa using h
    obtain rfl : n = 0 := by simpa using hn.symm
    exact run_convert_bytes_zero w 23 5 Try.underlying23 Try.underlying5 a c 9 Try.underlying9
  · refine run_convert_bytes_arg (P := Try.prog) w 23 5 Try.underlying23 Try.underlying5 b off n c xs hn (fun i hi => ?_) 9 Try.underlying9
    exact hc i _ (by simp [List.getD_eq_getElem?_getD, show i < xs.length by omega])
theorem bytesEqual_any (a a' : Option Addr) (n n' c c' : Nat) (B : Nat) (xs ys : List Int) (r : Bool) (w : World) (h : Rd B w a (xs.map (Value.int .u8))) (h' : Rd B w a' (ys.map (Value.int .u8))) (hn : xs.length = n) (hn' : ys.length = n') (hr : ((strOfNums xs).toList == (strOfNums ys).toList) = r) :
    Calls Try.prog 13 #[.slice a n c, .slice a' n' c'] w fun e w' => e = .returned (.bool r) ∧ w' = w := by
  have e1 := conv_bytes a n c B xs w h hn
  have e2 := conv_bytes a' n' c' B ys w h' hn'
  clear h h'
  generalize strOfNums xs = s at *
  generalize strOfNums ys = t at *
  go_enter Try.func13, Try.ntmps13
  go_wp2
  go_ret
  exact ⟨rfl, rfl⟩
theorem str_len {xs ys : List Int} (h : xs.length ≠ ys.length) : ((strOfNums xs).toList == (strOfNums ys).toList) = false := by
  rw [beq_eq_false_iff_ne]
  intro e
  apply h
  have := congrArg List.length e
  rw [Go.ByteArray.toList_eq, Go.ByteArray.toList_eq, strOfNums_data, strOfNums_data] at this
  simpa using this

/-- An algorithm's block: the two cells that 'equal' reads. -/
def Alg (w : World) (p : Nat) (o f : Value) : Prop := w.cell? ⟨p, 0, .none⟩ = some o ∧ w.cell? ⟨p, 5, .none⟩ = some f
theorem equal_yes (p q : Nat) (a a' b b' : Option Addr) (n c c' m d d' B : Nat) (xs ys : List Int) (w : World)
    (hp : Alg w p (.slice a n c) (.slice b m d)) (hq : Alg w q (.slice a' n c') (.slice b' m d'))
    (h1 : Rd B w a (xs.map (Value.int .i64))) (h2 : Rd B w a' (xs.map (Value.int .i64))) (hn : xs.length = n)
    (h3 : Rd B w b (ys.map (Value.int .u8))) (h4 : Rd B w b' (ys.map (Value.int .u8))) (hm : ys.length = m) (hlen : n ≤ 2000000) :
    Calls Try.prog 11 #[.pointer (some ⟨p, 0, .none⟩), .pointer (some ⟨q, 0, .none⟩)] w fun e w' => e = .returned (.bool true) ∧ ∃ m, w' = w.drewN m := by
  obtain ⟨p0, p5⟩ := hp
  obtain ⟨q0, q5⟩ := hq
  go_enter Try.func11, Try.ntmps11
  go_wp2_with fail
  go_quiet (first
    | (go_at_call 12; exact Calls.quiet_of (oidEqual_same a a' n c c' B xs _ h1 h2 hn hlen))
    | (go_at_call 13; exact Calls.quiet_of_same (bytesEqual_any b b' m m d d' B ys ys true _ h3 h4 hm hm (by simp))))
  go_wp2
  go_ret
  exact ⟨rfl, _, rfl⟩
theorem equal_oid (p q : Nat) (a a' b b' : Option Addr) (n n' c c' m m' d d' : Nat) (w : World)
    (hp : Alg w p (.slice a n c) (.slice b m d)) (hq : Alg w q (.slice a' n' c') (.slice b' m' d')) (hn : n ≠ n') :
    Calls Try.prog 11 #[.pointer (some ⟨p, 0, .none⟩), .pointer (some ⟨q, 0, .none⟩)] w fun e w' => e = .returned (.bool false) ∧ ∃ m, w' = w.drewN m := by
  obtain ⟨p0, p5⟩ := hp
  obtain ⟨q0, q5⟩ := hq
  go_enter Try.func11, Try.ntmps11
  go_wp2_with fail
  go_quiet ((go_at_call 12; exact Calls.quiet_of (oidEqual_len a a' n n' c c' _ hn)))
  go_wp2
  go_ret
  exact ⟨rfl, _, rfl⟩
theorem equal_full (p q : Nat) (a a' b b' : Option Addr) (n c c' m m' d d' B : Nat) (xs ys zs : List Int) (w : World)
    (hp : Alg w p (.slice a n c) (.slice b m d)) (hq : Alg w q (.slice a' n c') (.slice b' m' d'))
    (h1 : Rd B w a (xs.map (Value.int .i64))) (h2 : Rd B w a' (xs.map (Value.int .i64))) (hn : xs.length = n)
    (h3 : Rd B w b (ys.map (Value.int .u8))) (h4 : Rd B w b' (zs.map (Value.int .u8))) (hm : ys.length = m) (hm' : zs.length = m') (hlen : n ≤ 2000000) (hne : m ≠ m') :
    Calls Try.prog 11 #[.pointer (some ⟨p, 0, .none⟩), .pointer (some ⟨q, 0, .none⟩)] w fun e w' => e = .returned (.bool false) ∧ ∃ m, w' = w.drewN m := by
  obtain ⟨p0, p5⟩ := hp
  obtain ⟨q0, q5⟩ := hq
  go_enter Try.func11, Try.ntmps11
  go_wp2_with fail
  go_quiet (first
    | (go_at_call 12; exact Calls.quiet_of (oidEqual_same a a' n c c' B xs _ h1 h2 hn hlen))
    | (go_at_call 13; exact Calls.quiet_of_same (bytesEqual_any b b' m m' d d' B ys zs false _ h3 h4 hm hm' (str_len (by omega)))))
  go_wp2
  go_ret
  exact ⟨rfl, _, rfl⟩
/-- ZZequal hands it on. -/
theorem zz_any (p q : Value) (r : Bool) (w : World) (h : Calls Try.prog 11 #[p, q] w fun e w' => e = .returned (.bool r) ∧ ∃ m, w' = w.drewN m) :
    Calls Try.prog 10 #[p, q] w fun e w' => e = .returned (.bool r) ∧ ∃ m, w' = w.drewN m := by
  have H : Hid (Calls Try.prog 11 #[p, q] w fun e w' => e = .returned (.bool r) ∧ ∃ m, w' = w.drewN m) := h
  clear h
  go_enter Try.func10, Try.ntmps10
  go_wp2_with (go_at_call 11; refine H.out.mono ?_; rintro e w' ⟨rfl, m, rfl⟩)
  go_ret
  exact ⟨rfl, m, rfl⟩
/-- ZZnewAlgorithm: one new block. -/
theorem new_any (a b d : Option Addr) (n c m c' l c'' : Nat) (k t : Int) (x : Bool) (w : World) :
    Calls Try.prog 7 #[.slice a n c, .int .i64 k, .int .i64 t, .bool x, .slice b m c', .slice d l c''] w fun e w' =>
      e = .returned (.pointer (some ⟨w.heap.size, 0, .none⟩)) ∧ Alg w' w.heap.size (.slice a n c) (.slice d l c'') ∧ Below w.heap.size w w' ∧ w.heap.size < w'.heap.size := by
  go_enter Try.func7, Try.ntmps7
  go_wp2
  go_ret
  exact ⟨rfl, ⟨by simp [go_sem], by simp [go_sem]⟩, (Below.refl _ _).alloc (Nat.le_refl _) _, by simp⟩
/-- The byte bound: whatever it says, nothing turns. -/
theorem bytes4_any (a0 a4 a5 a9 : Option Addr) (n0 c0 n4 c4 n5 c5 n9 c9 : Nat) (a1 a2 a6 a7 a10 a11 : Int) (a3 a8 : Bool) (w : World) (h0 : n0 ≤ maxLen) (h4 : n4 ≤ maxLen) (h5 : n5 ≤ maxLen) (h9 : n9 ≤ maxLen) :
    Calls Try.prog 4 #[.slice a0 n0 c0, .int .i64 a1, .int .i64 a2, .bool a3, .slice a4 n4 c4, .slice a5 n5 c5, .int .i64 a6, .int .i64 a7, .bool a8, .slice a9 n9 c9, .int .i64 a10, .int .i64 a11] w fun e w' =>
      (e = .returned (.bool false) ∨ e = .returned (.bool true)) ∧ w = w' := by
  unfold maxLen at h0 h4 h5 h9
  by_cases b0 : 1048576 < (n0 : Int)
  · go_enter Try.func4, Try.ntmps4
    go_wp2
    go_ret
    exact ⟨.inl rfl, rfl⟩
  · by_cases b4 : 1048576 < (n4 : Int)
    · go_enter Try.func4, Try.ntmps4
      go_wp2
      go_ret
      exact ⟨.inl rfl, rfl⟩
    · by_cases b04 : 1048576 < (n0 : Int) + n4
      · go_enter Try.func4, Try.ntmps4
        go_wp2
        go_ret
        exact ⟨.inl rfl, rfl⟩
      · by_cases b5 : 1048576 < (n5 : Int)
        · go_enter Try.func4, Try.ntmps4
          go_wp2
          go_ret
          exact ⟨.inl rfl, rfl⟩
        · by_cases b045 : 1048576 < (n0 : Int) + n4 + n5
          · go_enter Try.func4, Try.ntmps4
            go_wp2
            go_ret
            exact ⟨.inl rfl, rfl⟩
          · by_cases b9 : 1048576 < (n9 : Int)
            · go_enter Try.func4, Try.ntmps4
              go_wp2
              go_ret
              exact ⟨.inl rfl, rfl⟩
            · by_cases b0459 : 1048576 < (n0 : Int) + n4 + n5 + n9
              · go_enter Try.func4, Try.ntmps4
                go_wp2
                go_ret
                exact ⟨.inl rfl, rfl⟩
              · go_enter Try.func4, Try.ntmps4
                go_wp2
                go_ret
                exact ⟨.inr rfl, rfl⟩
end Go.Proofs.Qxb6613964a
