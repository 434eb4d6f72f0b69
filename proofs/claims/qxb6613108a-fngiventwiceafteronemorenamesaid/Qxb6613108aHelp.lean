/-
  FnGivenTwiceAfterOneMoreName: the bounds, ZZnewObject, givenTwice by contracts.
-/
import Derived.Test.Qxb6613108aParts
namespace Go.Proofs.Qxb6613108a
open Go.RowKit
set_option linter.unusedVariables false

theorem info47 : (Try.prog.info? 47).map (fun i => (i.zero, i.size, i.bytes)) = some (some (.agg #[.slice .none 0 0, .bool false, .nilIface]), 3, 48) := by kernel_rfl

/-- AN OBJECT at block p: its names' slice, its slots; slot i's flag. -/
structure Obj (w : World) (p g : Nat) (a : Option Addr) (n c m : Nat) (ts : List Bool) : Prop where
  c0 : w.cell? ⟨p, 0, .none⟩ = some (.slice a n c)
  c1 : w.cell? ⟨p, 1, .none⟩ = some (.slice (some ⟨g, 0, .none⟩) m m)
  len : ts.length = m
  flag : ∀ i b, ts[i]? = some b → w.cell? ⟨g, i * 3 + 1, .none⟩ = some (.bool b)

theorem new_any (a b : Option Addr) (n c m c' B : Nat) (ts : List Bool) (w : World) (hB : B ≤ w.heap.size) (hr : Rd B w b (ts.map Value.bool)) (hm : ts.length = m) (hlen : m ≤ 1048576) :
    Calls Try.prog 11 #[.slice a n c, .slice b m c'] w fun e w' => ∃ p g, e = .returned (.pointer (some ⟨p, 0, .none⟩)) ∧ Obj w' p g a n c m ts ∧ Below w.heap.size w w' := by
  obtain ⟨i0, hi, hz0, hz1, hz2⟩ := info_parts info47
  go_enter Try.func11, Try.ntmps11
  go_wp2_with (first
    | (at_make; go_must (refine wpList_make_full _ rfl _ _ 41 rfl w.heap.size 47 i0 _ 3 Try.underlying41 hi hz0 hz1 .i64 .i64 _ _ m rfl rfl rfl rfl (by rw [hz2]; omega) (by unfold maxLen; omega) (Nat.le_refl _) ?_); intro w2 hrow2 hg2)
    | fail)
  have hb2 : Below w.heap.size w w2 := (Below.refl _ w).grown hg2 (Nat.le_refl _) (fun j hj => by cases hj)
  clear hg2
  go_loopw [6] (fun i wr => ∃ (k : Nat) (xs : List Value), k ≤ m ∧ i = .int .i64 k ∧ wr.ownsRow w.heap.size 47 3 (.slice (some ⟨w.heap.size, 0, .none⟩) m m) m xs ∧ (∀ j b, j < k → ts[j]? = some b → xs[j * 3 + 1]? = some (.bool b)) ∧ xs.length = m * 3 ∧ Below w.heap.size w wr) (fun i _ => m - (intOf i).toNat)
  case atStart => exact ⟨0, _, Nat.zero_le _, rfl, hrow2, fun j b hj => by omega, hrow2.1, hb2⟩
  case round =>
    obtain ⟨k, xs, hk, rfl, hrow, hxs, hxl, hnx⟩ := hrel
    by_cases hlt : k < m
    · rcases hr.below (hnx.mono hB) with h | ⟨b, off, rfl, _, hc⟩
      · simp at h; subst h; simp at hm; omega
      · obtain ⟨t, ht⟩ : ∃ t, ts[k]? = some t := ⟨_, List.getElem?_eq_getElem (by omega)⟩
        have c1 : wr.cell? ⟨b, off + k, .none⟩ = some (.bool t) := hc k _ (by simp [ht])
        obtain ⟨v0, hv0⟩ : ∃ v, wr.cell? ⟨w.heap.size, k * 3 + 1, .none⟩ = some v := by
          rw [hrow.cellAt (k * 3 + 1) (by omega)]; exact ⟨_, List.getElem?_eq_getElem (by omega)⟩
        have hfr := hrow.frozenAt (k * 3 + 1)
        have HST := hide (hrow.stored (k * 3 + 1) (.bool t))
        have HXS : Hid (∀ j b, j < k + 1 → ts[j]? = some b → (xs.set (k * 3 + 1) (.bool t))[j * 3 + 1]? = some (.bool b)) := by
          intro j b hj hb
          rw [List.getElem?_set]
          by_cases e : k = j
          · subst e
            rw [ht] at hb
            cases hb
            simp; omega
          · rw [if_neg (by omega)]; exact hxs j b (by omega) hb
        clear ht hxs hc hr
        go_wp2
        go_roundw
        case rel => exact ⟨k + 1, xs.set (k * 3 + 1) (.bool t), by omega, by go_num, HST.out.1, HXS.out, by simp [hxl], hnx.setCell (Nat.le_refl _) _⟩
        case measure => simp [intOf]; omega
    · clear hr
      go_wp2
      go_ret
      refine ⟨wr.heap.size, w.heap.size, rfl, ⟨by simp [go_sem], by simp [go_sem], hm, fun i b hb => ?_⟩, hnx.alloc hnx.size _⟩
      have hi : i < ts.length := (List.getElem?_eq_some_iff.1 hb).1
      rw [World.cell?_alloc_past _ _ _ (hrow.lt _ rfl).2, hrow.cellAt _ (by omega)]
      exact hxs i b (by omega) hb

/-- What the object answers. -/
def given (ss : List ByteArray) (ts : List Bool) (x : ByteArray) : Bool := if 0 ≤ idx x ss 0 then ts.getD (idx x ss 0).toNat false else false
theorem idx_bd (x : ByteArray) : ∀ (ss : List ByteArray) (k : Nat), idx x ss k = -1 ∨ ((k : Int) ≤ idx x ss k ∧ idx x ss k < k + ss.length)
  | [], k => .inl rfl
  | s :: r, k => by
    rw [idx_cons]
    split
    · right; simp; omega
    · rcases idx_bd x r (k + 1) with h | ⟨h1, h2⟩
      · exact .inl h
      · right; simp; omega
theorem given_any (p g : Nat) (a : Option Addr) (n c B : Nat) (ss : List ByteArray) (ts : List Bool) (x : ByteArray) (w : World) (ho : Obj w p g a n c n ts) (hr : Rd B w a (ss.map Value.string)) (hn : ss.length = n) (hlen : n ≤ 1048576) :
    Calls Try.prog 14 #[.pointer (some ⟨p, 0, .none⟩), .string x] w fun e w' => e = .returned (.bool (given ss ts x)) ∧ w = w' := by
  obtain ⟨c0, c1, hl, hf⟩ := ho
  have hix := index_any a n c B ss x w hr hn hlen
  have hg : given ss ts x = if 0 ≤ idx x ss 0 then ts.getD (idx x ss 0).toNat false else false := rfl
  rcases idx_bd x ss 0 with h | ⟨h1, h2⟩
  · rw [h] at hix hg
    rw [hg]
    have HIX := hide hix
    clear hix hg hf hr h
    go_enter Try.func14, Try.ntmps14
    go_wp2_with (go_at_call 16; refine HIX.out.mono ?_; rintro e w' ⟨rfl, rfl⟩)
    go_ret
    exact ⟨rfl, rfl⟩
  · obtain ⟨k, hk⟩ : ∃ k : Nat, idx x ss 0 = (k : Int) := Int.eq_ofNat_of_zero_le (by omega)
    rw [hk] at hix hg h2
    have hkn : k < ts.length := by omega
    obtain ⟨t, ht⟩ : ∃ t, ts[k]? = some t := ⟨_, List.getElem?_eq_getElem hkn⟩
    have hc := hf k t ht
    have hgt : given ss ts x = t := by rw [hg]; simp [List.getD_eq_getElem?_getD, ht]
    rw [hgt]
    have HIX := hide hix
    have hkm : (k : Int) < n := by omega
    clear hix hg hf hr hk h1 hgt ht
    go_enter Try.func14, Try.ntmps14
    go_wp2_with (go_at_call 16; refine HIX.out.mono ?_; rintro e w' ⟨rfl, rfl⟩)
    go_ret
    exact ⟨rfl, rfl⟩
theorem zzGiven_any (p g : Nat) (a : Option Addr) (n c B : Nat) (ss : List ByteArray) (ts : List Bool) (x : ByteArray) (w : World) (ho : Obj w p g a n c n ts) (hr : Rd B w a (ss.map Value.string)) (hn : ss.length = n) (hlen : n ≤ 1048576) :
    Calls Try.prog 12 #[.pointer (some ⟨p, 0, .none⟩), .string x] w fun e w' => e = .returned (.bool (given ss ts x)) ∧ w = w' := by
  have HH := hide (given_any p g a n c B ss ts x w ho hr hn hlen)
  clear ho hr
  go_enter Try.func12, Try.ntmps12
  go_wp2_with (go_at_call 14; refine HH.out.mono ?_; rintro e w' ⟨rfl, rfl⟩)
  go_ret
  exact ⟨rfl, rfl⟩
theorem sz_at {ss : List ByteArray} {n : Nat} (hs : ∀ s ∈ ss, s.size ≤ n) {k : Nat} {s : ByteArray} (h : ss[k]? = some s) : s.size ≤ n := hs s (List.mem_of_getElem? h)
theorem small_step {ss : List ByteArray} {k : Nat} {s : ByteArray} (h : Hid (∀ j s, j < k → ss[j]? = some s → s.size ≤ 1048576)) (hs : ss[k]? = some s) (hz : s.size ≤ 1048576) : Hid (∀ j s, j < k + 1 → ss[j]? = some s → s.size ≤ 1048576) := by
  intro j s' hj hs'
  by_cases e : j = k
  · subst e; rw [hs] at hs'; cases hs'; exact hz
  · exact h.out j s' (by omega) hs'
theorem all_small {ss : List ByteArray} {n k : Nat} (hn : ss.length = n) (hk : n ≤ k) (h : Hid (∀ j s, j < k → ss[j]? = some s → s.size ≤ 1048576)) : Hid (∀ s ∈ ss, s.size ≤ 1048576) := by
  intro s hs
  obtain ⟨j, hj⟩ := List.getElem?_of_mem hs
  exact h.out j s (by have := (List.getElem?_eq_some_iff.1 hj).1; omega) hj
/-- zzNamesTooBig: where it says no, the names are few. -/
theorem big_any (a : Option Addr) (n c B : Nat) (ss : List ByteArray) (r : Int) (w : World) (hr : Rd B w a (ss.map Value.string)) (hn : ss.length = n) (hm : n ≤ maxLen) (hs : ∀ s ∈ ss, s.size ≤ 1048576) (hr0 : 0 ≤ r) (hr1 : r ≤ 4194304) :
    Calls Try.prog 8 #[.slice a n c, .int .i64 r] w fun e w' => (e = .returned (.bool true) ∧ w = w') ∨ (e = .returned (.bool false) ∧ w = w' ∧ n ≤ 65536) := by
  unfold maxLen at hm
  by_cases b1 : 65536 < (n : Int)
  · go_enter Try.func8, Try.ntmps8
    go_wp2
    go_ret
    exact .inl ⟨rfl, rfl⟩
  by_cases b2 : 1048576 < r + 16 * (n : Int)
  · go_enter Try.func8, Try.ntmps8
    go_wp2
    go_ret
    exact .inl ⟨rfl, rfl⟩
  go_enter Try.func8, Try.ntmps8
  go_wp2
  go_loop [5, 6] (fun t i => ∃ (k : Nat) (z : Int), k ≤ n ∧ i = .int .i64 k ∧ 0 ≤ z ∧ z ≤ 1048576 ∧ t = .int .i64 z) (fun _ i => n - (intOf i).toNat)
  case atStart => exact ⟨0, r + 16 * n, Nat.zero_le _, rfl, by omega, by omega, rfl⟩
  case round =>
    obtain ⟨k, z, hk, rfl, hz0, hz1, rfl⟩ := hrel
    by_cases hlt : k < n
    · rcases hr with h | ⟨b, off, rfl, _, hc⟩
      · simp at h; subst h; simp at hn; omega
      · obtain ⟨s, hs'⟩ : ∃ s, ss[k]? = some s := ⟨_, List.getElem?_eq_getElem (by omega)⟩
        have c1 : w.cell? ⟨b, off + k, .none⟩ = some (.string s) := hc k _ (by simp [hs'])
        have hsz := sz_at hs hs'
        clear hs' hc
        by_cases b3 : 1048576 < z + (s.size : Int)
        · go_wp2
          go_ret
          exact .inl ⟨rfl, rfl⟩
        · go_wp2
          go_round
          case rel => exact ⟨k + 1, z + s.size, by omega, by go_num, by omega, by omega, by go_num⟩
          case measure => simp [intOf]; omega
    · go_wp2
      go_ret
      exact .inr ⟨rfl, rfl, by omega⟩
/-- The byte bound: whatever it says, nothing turns. -/
theorem bytes7_any (a b : Option Addr) (n c m c' B : Nat) (ss : List ByteArray) (x y : ByteArray) (t : Bool) (w : World) (hr : Rd B w a (ss.map Value.string)) (hn : ss.length = n) (hm : n ≤ maxLen) (hm' : m ≤ maxLen) (hs : ∀ s ∈ ss, s.size ≤ maxLen) (hx : x.size ≤ maxLen) (hy : y.size ≤ maxLen) :
    Calls Try.prog 7 #[.slice a n c, .slice b m c', .string x, .bool t, .string y] w fun e w' => (e = .returned (.bool false) ∧ w = w') ∨ (e = .returned (.bool true) ∧ w = w' ∧ Hid (∀ s ∈ ss, s.size ≤ 1048576)) := by
  unfold maxLen at hm hm' hs hx hy
  by_cases b1 : 1048576 < (n : Int)
  · go_enter Try.func7, Try.ntmps7
    go_wp2
    go_ret
    exact .inl ⟨rfl, rfl⟩
  go_enter Try.func7, Try.ntmps7
  go_wp2
  go_loop [11, 12] (fun t i => ∃ (k : Nat) (z : Int), k ≤ n ∧ i = .int .i64 k ∧ 0 ≤ z ∧ z ≤ 1048576 ∧ t = .int .i64 z ∧ Hid (∀ j s, j < k → ss[j]? = some s → s.size ≤ 1048576)) (fun _ i => n - (intOf i).toNat)
  case atStart => exact ⟨0, n, Nat.zero_le _, rfl, by omega, by omega, rfl, fun j s hj => by omega⟩
  case round =>
    obtain ⟨k, z, hk, rfl, hz0, hz1, rfl, HQ⟩ := hrel
    by_cases hlt : k < n
    · rcases hr with h | ⟨b, off, rfl, _, hc⟩
      · simp at h; subst h; simp at hn; omega
      · obtain ⟨s, hs'⟩ : ∃ s, ss[k]? = some s := ⟨_, List.getElem?_eq_getElem (by omega)⟩
        have c1 : w.cell? ⟨b, off + k, .none⟩ = some (.string s) := hc k _ (by simp [hs'])
        have hsz := sz_at hs hs'
        have HS := hide hs'
        clear hs' hc
        by_cases b2 : 1048576 < (s.size : Int)
        · go_wp2
          go_ret
          exact .inl ⟨rfl, rfl⟩
        by_cases b3 : 1048576 < z + (s.size : Int)
        · go_wp2
          go_ret
          exact .inl ⟨rfl, rfl⟩
        · go_wp2
          go_round
          case rel => exact ⟨k + 1, z + s.size, by omega, by go_num, by omega, by omega, by go_num, small_step HQ HS.out (by omega)⟩
          case measure => simp [intOf]; omega
    · clear hr hs
      by_cases d1 : 1048576 < (m : Int)
      · go_wp2
        go_ret
        exact .inl ⟨rfl, rfl⟩
      by_cases d2 : 1048576 < z + (m : Int)
      · go_wp2
        go_ret
        exact .inl ⟨rfl, rfl⟩
      by_cases d3 : 1048576 < (x.size : Int)
      · go_wp2
        go_ret
        exact .inl ⟨rfl, rfl⟩
      by_cases d4 : 1048576 < z + (m : Int) + x.size
      · go_wp2
        go_ret
        exact .inl ⟨rfl, rfl⟩
      by_cases d5 : 1048576 < (y.size : Int)
      · go_wp2
        go_ret
        exact .inl ⟨rfl, rfl⟩
      by_cases d6 : 1048576 < z + (m : Int) + x.size + y.size
      · go_wp2
        go_ret
        exact .inl ⟨rfl, rfl⟩
      · go_wp2
        go_ret
        exact .inr ⟨rfl, rfl, all_small hn (by omega) HQ⟩
end Go.Proofs.Qxb6613108a
