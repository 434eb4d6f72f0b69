/-
  FnAppendNodeHashAnyCut: the helpers' contracts: zzSameBytes, AppendVector at one length byte and 32 bytes, appendNodeHash.
-/
import Derived.Test.Qxb6613964aFmtParts
namespace Go.Proofs.Qxb6613964aFmt
open Go.RowKit
set_option linter.unusedVariables false

theorem cell_lt {w : World} {b o : Nat} {v : Value} (h : w.cell? ⟨b, o, .none⟩ = some v) : b < w.heap.size := by
  by_cases hb : b < w.heap.size
  · exact hb
  · exfalso
    simp [World.cell?, Array.getElem?_eq_none (Nat.le_of_not_lt hb)] at h

theorem same_empty (a a' : Option Addr) (c c' : Nat) (w : World) :
    Calls Tryf.prog 10 #[.slice a 0 c, .slice a' 0 c'] w fun e w' => e = .returned (.bool true) ∧ ∃ m, w' = w.drewN m := by
  go_enter Tryf.func10, Tryf.ntmps10
  go_wp2
  refine wp_loop_rounds 1 ?_
  rw [rounds_succ]
  go_wp2
  go_ret
  exact ⟨rfl, 0, rfl⟩

/-- zzSameBytes of two slices that read alike. -/
theorem same_any (a a' : Option Addr) (n c c' : Nat) (B : Nat) (xs : List Int) (w : World) (h : Rd B w a (xs.map (Value.int .u8))) (h' : Rd B w a' (xs.map (Value.int .u8))) (hn : xs.length = n) (hlen : n ≤ 2000000) :
    Calls Tryf.prog 10 #[.slice a n c, .slice a' n c'] w fun e w' => e = .returned (.bool true) ∧ ∃ m, w' = w.drewN m := by
  rcases h with h | ⟨b, off, rfl, _, hc⟩
  · obtain rfl : xs = [] := by simpa using h
    obtain rfl : n = 0 := by simpa using hn.symm
    exact same_empty _ _ _ _ _
  rcases h' with h' | ⟨b', off', rfl, _, hc'⟩
  · obtain rfl : xs = [] := by simpa using h'
    obtain rfl : n = 0 := by simpa using hn.symm
    exact same_empty _ _ _ _ _
  go_enter Tryf.func10, Tryf.ntmps10
  go_wp2
  go_loopw [5] (fun i wr => ∃ k m : Nat, k ≤ n ∧ i = .int .i64 k ∧ wr = w.drewN m) (fun i _ => n - (intOf i).toNat)
  case atStart => exact ⟨0, 0, Nat.zero_le _, rfl, rfl⟩
  case round =>
    obtain ⟨k, m, hk, rfl, rfl⟩ := hrel
    by_cases hlt : k < n
    · obtain ⟨x, hx⟩ : ∃ x, xs[k]? = some x := ⟨_, List.getElem?_eq_getElem (by omega)⟩
      have c1 : w.cell? ⟨b, off + k, .none⟩ = some (.int .u8 x) := hc k _ (by simp [hx])
      have c2 : w.cell? ⟨b', off' + k, .none⟩ = some (.int .u8 x) := hc' k _ (by simp [hx])
      have q : (x != x) = false := by simp
      have hki : (k : Int) < n := by omega
      clear hx hc hc'
      go_wp2_with fail
      go_quiet (fail)
      go_wp2
      go_roundw
      case rel => exact ⟨k + 1, _, by omega, by go_num, rfl⟩
      case measure => simp [intOf]; omega
    · go_wp2
      go_ret
      exact ⟨rfl, m, rfl⟩

theorem same_two (a a' : Option Addr) (n n' c c' : Nat) (B : Nat) (xs : List Int) (w : World) (h : Rd B w a (xs.map (Value.int .u8))) (h' : Rd B w a' (xs.map (Value.int .u8))) (hn : xs.length = n) (hn' : xs.length = n') (hlen : n ≤ 2000000) :
    Calls Tryf.prog 10 #[.slice a n c, .slice a' n' c'] w fun e w' => e = .returned (.bool true) ∧ ∃ m, w' = w.drewN m := by
  subst hn'
  subst hn
  exact same_any a a' _ c c' B xs w h h' rfl hlen

/-- AppendVector(v, 1, h[:]): the byte 32, then the 32 bytes. -/
theorem vector_any (v : Value) (base n g : Nat) (xs hs : List Value) (w : World) (hown : w.ownsRow base 5 1 v n xs) (hbase : base ≤ w.heap.size) (hn : n ≤ 1048576) (hl : hs.length = 32)
    (hc : ∀ j u, hs[j]? = some u → w.cell? ⟨g, j, .none⟩ = some u) (h1 : ∀ u ∈ hs, u.oneCell' = true) (hg : some g ≠ v.ownBlock) :
    Calls Tryf.prog 21 #[v, .int .i64 1, .slice (some ⟨g, 0, .none⟩) 32 32] w fun e w' => ∃ v', e = .returned v' ∧ w'.ownsRow base 5 1 v' (n + 33) (xs ++ .int .u8 32 :: hs) ∧ Below base w w' := by
  obtain ⟨i0, hi, hz0, hz1, hz2⟩ := info_parts info5
  go_enter Tryf.func21, Tryf.ntmps21
  go_wp2
  refine wp_loop_rounds 2 ?_
  rw [rounds_succ]
  have hown1 := hown.alloc (.cells #[.int .u8 32] 5)
  have hb1 : base ≤ (w.alloc (.cells #[.int .u8 32] 5)).heap.size := by simp; omega
  go_wp2_with (first
    | (at_builtin; go_must (refine wpList_append_own _ rfl (.tmp 37) (.tmp 44) 22 rfl base 5 i0 (.int .u8 0) 1 1 Tryf.underlying22 hi hz0 hz1 hz2 rfl (by decide) _ n xs rfl hown1 ⟨w.heap.size, 0, .none⟩ 1 1 [.int .u8 32] rfl rfl (cell_one_new _ _ _) (ints_oneCell .u8 [32]) (by unfold maxLen; omega) (by omega) hb1 ?_); intro v1 w1 hrow1 hg1 _)
    | fail)
  rw [rounds_succ]
  have hc1 : ∀ j u, hs[j]? = some u → w1.cell? ((⟨g, 0, .none⟩ : Addr).add j) = some u := fun j u hj => by
    rw [Go.WideShapes.add_plain, Nat.zero_add]
    have h0 := hc j u hj
    refine hg1.cell ?_ hg
    rw [World.cell?_alloc_past]
    · exact h0
    · exact cell_lt h0
  go_wp2_with (first
    | (at_builtin; go_must (refine wpList_append_own _ rfl (.tmp 46) (.tmp 47) 22 rfl base 5 i0 (.int .u8 0) 1 1 Tryf.underlying22 hi hz0 hz1 hz2 rfl (by decide) _ (n + 1) _ rfl hrow1 ⟨g, 0, .none⟩ 32 32 hs rfl (by omega) hc1 h1 (by unfold maxLen; omega) (by omega) (by have := hg1.size; omega) ?_); intro v2 w2 hrow2 hg2 _)
    | fail)
  go_ret
  refine ⟨v2, rfl, ?_, ?_⟩
  · have e : xs ++ [Value.int .u8 32] ++ hs = xs ++ .int .u8 32 :: hs := by simp
    rw [e] at hrow2
    exact hrow2
  · exact (((Below.refl base w).alloc hbase _).grown hg1 hb1 (fun k hk => (hown.lt k hk).1)).grown hg2 (by have := hg1.size; omega) (fun k hk => (hrow1.lt k hk).1)

theorem und27 : Tryf.prog.underlying 27 = some (.array 32 5) := Tryf.underlying27
theorem size27 : (Tryf.prog.info? 27).map (·.size) = some 32 := by kernel_rfl
theorem size23 : (Tryf.prog.info? 23).map (·.size) = some 32 := by kernel_rfl

theorem node16_any (v : Value) (base n : Nat) (xs : List Value) (hs : Array Value) (w : World) (hown : w.ownsRow base 5 1 v n xs) (hbase : base ≤ w.heap.size) (hn : n ≤ 1048576) (hl : hs.size = 32)
    (h1 : ∀ u ∈ hs.toList, u.oneCell' = true) :
    Calls Tryf.prog 16 #[v, .agg hs] w fun e w' => ∃ v', e = .returned v' ∧ w'.ownsRow base 5 1 v' (n + 33) (xs ++ .int .u8 32 :: hs.toList) ∧ Below base w w' := by
  go_enter Tryf.func16, Tryf.ntmps16
  go_wp2_with fail
  refine (vector_any v base n w.heap.size xs hs.toList _ (hown.alloc _) (by simp; omega) hn (by simpa using hl) ?_ h1 ?_).mono ?_
  · intro j u hj
    rw [cell_of_row _ _ j hs 27 (0, 0) (heap_alloc_new w _)]
    simpa using hj
  · intro e
    have := (hown.lt w.heap.size e.symm).2
    omega
  rintro e w' ⟨v', rfl, hr, hb⟩
  go_wp2
  go_ret
  exact ⟨v', rfl, hr, ((Below.refl base w).alloc hbase _).trans hb⟩

/-- A row that owns something: its shape. -/
theorem own_shape {w : World} {base n : Nat} {e : TypeId} {v : Value} {xs : List Value} (h : w.ownsRow base e 1 v (n + 1) xs) : ∃ g cap, v = .slice (some ⟨g, 0, .none⟩) (n + 1) cap := by
  rcases h.2 with ⟨_, h2⟩ | ⟨g, cap, cur, h1, _⟩
  · omega
  · exact ⟨g, cap, h1⟩
theorem node9_any (v : Value) (base n : Nat) (xs : List Value) (hs : Array Value) (w : World) (hown : w.ownsRow base 5 1 v n xs) (hbase : base ≤ w.heap.size) (hn : n ≤ 1048576) (hl : hs.size = 32)
    (h1 : ∀ u ∈ hs.toList, u.oneCell' = true) :
    Calls Tryf.prog 9 #[v, .agg hs] w fun e w' => ∃ g cap, e = .returned (.slice (some ⟨g, 0, .none⟩) (n + 33) cap) ∧ w'.ownsRow base 5 1 (.slice (some ⟨g, 0, .none⟩) (n + 33) cap) (n + 33) (xs ++ .int .u8 32 :: hs.toList) ∧ Below base w w' := by
  have hsz : (Tryf.prog.info? 27).map (·.size) = some hs.size := by rw [hl]; exact size27
  go_enter Tryf.func9, Tryf.ntmps9
  go_wp2_with (first
    | (refine wpList_load_row rfl 27 _ rfl w.heap.size rfl 27 hs (0, 0) _ (heap_alloc_new w _) und27 rfl hsz ?_)
    | fail)
  refine (node16_any v base n xs hs _ (hown.alloc _) (by simp; omega) hn hl h1).mono ?_
  rintro e w' ⟨v', rfl, hr, hb⟩
  go_wp2
  go_ret
  obtain ⟨g, cap, hv⟩ := own_shape hr
  rw [hv] at hr
  exact ⟨g, cap, congrArg Ending.returned hv, hr, ((Below.refl base w).alloc hbase _).trans hb⟩
end Go.Proofs.Qxb6613964aFmt
