/-
  FnAlgorithmEqualSeesOnlyOIDAndFullBytes: small laws ('Rd': a slice that is read) and the helpers' contracts.
-/
import Derived.Test.Qxb6613964aRows
import Derived.WalkKit
import Derived.WalkSpells
import Derived.WalkLawsBesides
import Derived.ProofKit
import Derived.Laws.CopyOwn
import Derived.Laws.BytesArg
import Derived.Shelf.Bytes.SlSmallAll
import Derived.Maps.AppendAt
import Derived.Deep.QuietTactic
import Derived.BigQuiet
import Derived.Deep.DeepMust
import Derived.Lib.SliceRun
import Derived.Outline
namespace Go.Proofs.Qxb6613964a
open Go.RowKit
set_option linter.unusedVariables false

theorem hide {p : Prop} (h : p) : Hid p := h

/-- THE SLICE AT a READS AS vs, AND LIES BELOW BLOCK B (where it has an element at all). -/
def Rd (B : Nat) (w : World) (a : Option Addr) (vs : List Value) : Prop :=
  vs = [] ∨ ∃ b off, a = some ⟨b, off, .none⟩ ∧ b < B ∧ ∀ j v, vs[j]? = some v → w.cell? ⟨b, off + j, .none⟩ = some v
theorem Rd.nil (B : Nat) (w : World) (a : Option Addr) : Rd B w a [] := .inl rfl
theorem Rd.mono {B B' : Nat} {w : World} {a : Option Addr} {vs : List Value} (h : Rd B w a vs) (hB : B ≤ B') : Rd B' w a vs := by
  rcases h with h | ⟨b, off, h1, h2, h3⟩
  · exact .inl h
  · exact .inr ⟨b, off, h1, by omega, h3⟩
theorem Rd.below {B : Nat} {w w' : World} {a : Option Addr} {vs : List Value} (h : Rd B w a vs) (hb : Below B w w') : Rd B w' a vs := by
  rcases h with h | ⟨b, off, h1, h2, h3⟩
  · exact .inl h
  · exact .inr ⟨b, off, h1, h2, fun j v hv => by rw [hb.cell (p := ⟨b, off + j, .none⟩) h2]; exact h3 j v hv⟩
theorem Rd.at {B g : Nat} {w : World} {vs : List Value} (h : Rd B w (some ⟨g, 0, .none⟩) vs) : ∀ j v, vs[j]? = some v → w.cell? ⟨g, j, .none⟩ = some v := by
  intro j v hv
  rcases h with h | ⟨b, off, h1, h2, h3⟩
  · subst h; cases hv
  · simp only [Option.some.injEq, Addr.mk.injEq, and_true] at h1
    obtain ⟨rfl, rfl⟩ := h1
    have := h3 j v hv
    rwa [Nat.zero_add] at this
/-- A part of it. -/
theorem Rd.part {B g : Nat} {w : World} {us vs ts : List Value} (h : Rd B w (some ⟨g, 0, .none⟩) (us ++ vs ++ ts)) : Rd B w (some ⟨g, us.length, .none⟩) vs := by
  by_cases hv : vs = []
  · exact .inl hv
  · rcases h with h | ⟨b, off, h1, h2, h3⟩
    · simp at h; exact .inl h.2.1
    · simp only [Option.some.injEq, Addr.mk.injEq, and_true] at h1
      obtain ⟨rfl, rfl⟩ := h1
      refine .inr ⟨_, us.length, rfl, h2, fun j v hj => ?_⟩
      have := h3 (us.length + j) v (by
        rw [List.append_assoc, List.getElem?_append_right (by omega), List.getElem?_append_left (by
          have := (List.getElem?_eq_some_iff.1 hj).1; omega)]
        rw [← hj]; congr 1; omega)
      rwa [Nat.zero_add] at this
/-- What a row owns is read. -/
theorem Rd.own {w : World} {base : Nat} {e : TypeId} {a : Option Addr} {n m cap : Nat} {xs : List Value} (h : w.ownsRow base e 1 (.slice a m cap) n xs) : Rd w.heap.size w a xs ∧ m = n ∧ xs.length = n := by
  have hl := h.1
  have hb := fun k hk => (h.lt k hk).2
  rcases h.2 with ⟨h1, h2⟩ | ⟨g, cap', cur, h1, h2, h3, h4, h5, h6, h7⟩
  · simp only [Value.slice.injEq] at h1
    obtain ⟨rfl, rfl, rfl⟩ := h1
    subst h2
    exact ⟨.inl (List.eq_nil_of_length_eq_zero (by simpa using hl)), rfl, by simpa using hl⟩
  · simp only [Value.slice.injEq] at h1
    obtain ⟨rfl, rfl, rfl⟩ := h1
    refine ⟨.inr ⟨g, 0, rfl, hb g rfl, fun j v hv => ?_⟩, rfl, by simpa using hl⟩
    have hj : j < xs.length := (List.getElem?_eq_some_iff.1 hv).1
    rw [Nat.zero_add, h.cellAt j (by omega)]
    exact hv

/-- A row that is full: its block, written out. -/
theorem own_full {w : World} {base g n : Nat} {e : TypeId} {xs : List Value} (h : w.ownsRow base e 1 (.slice (some ⟨g, 0, .none⟩) n n) n xs) : w.heap[g]? = some (.cells xs.toArray e (0, 0)) ∧ xs.length = n := by
  have hl := h.1
  rcases h.2 with ⟨h1, h2⟩ | ⟨g', cap', cur, h1, h2, h3, h4, h5, h6, h7⟩
  · cases h1
  · simp only [Value.slice.injEq, Option.some.injEq, Addr.mk.injEq, and_true, true_and] at h1
    obtain ⟨rfl, rfl⟩ := h1
    rw [List.take_of_length_le (by rw [Array.length_toList]; omega)] at h7
    subst h7
    exact ⟨by simpa using h3, by simpa using hl⟩
theorem own_full_ex {w : World} {base g n : Nat} {e : TypeId} {xs : List Value} (h : w.ownsRow base e 1 (.slice (some ⟨g, 0, .none⟩) n n) n xs) : ∃ cur : List Value, w.heap[g]? = some (.cells cur.toArray e (0, 0)) ∧ cur.length = n := ⟨xs, own_full h⟩
/-- .. and back. -/
theorem full_own {w : World} {base g n : Nat} {e : TypeId} {xs : List Value} (h : w.heap[g]? = some (.cells xs.toArray e (0, 0))) (hb : base ≤ g) (hn : xs.length = n) (hm : n ≤ maxLen) : w.ownsRow base e 1 (.slice (some ⟨g, 0, .none⟩) n n) n xs :=
  ⟨by omega, .inr ⟨g, n, xs.toArray, rfl, hb, h, Nat.le_refl _, hm, by simpa using hn, by subst hn; simp⟩⟩
theorem splice_all {α : Type} (L cs : List α) (h : L.length = cs.length) : splice L 0 cs = cs := by
  simp [splice, List.drop_of_length_le (Nat.le_of_eq h)]
/-- What a copy asks of its source. -/
theorem Rd.src {B : Nat} {w w' : World} {a : Option Addr} {vs : List Value} {g : Nat} (h : Rd B w a vs) (hb : Below B w w') :
    0 < vs.length → (some (⟨g, 0, .none⟩ : Addr)) = some ⟨g, 0, .none⟩ ∧ ∃ ad, a = some ad ∧ ∀ j v, vs[j]? = some v → w'.cell? (ad.add j) = some v := by
  intro hp
  rcases h.below hb with h | ⟨b, off, h1, h2, h3⟩
  · subst h; simp at hp
  · exact ⟨rfl, _, h1, fun j v hv => by rw [Go.WideShapes.add_plain]; exact h3 j v hv⟩


theorem info5 : (Try.prog.info? 5).map (fun i => (i.zero, i.size, i.bytes)) = some (some (.int .u8 0), 1, 1) := by kernel_rfl
theorem size5 : (Try.prog.info? 5).map (·.size) = some 1 := by kernel_rfl
theorem info3 : (Try.prog.info? 3).map (fun i => (i.zero, i.size, i.bytes)) = some (some (.int .i64 0), 1, 8) := by kernel_rfl
theorem size3 : (Try.prog.info? 3).map (·.size) = some 1 := by kernel_rfl

theorem cloneI_any (a : Option Addr) (n c B : Nat) (vs : List Value) (w : World) (hB : B ≤ w.heap.size) (hr : Rd B w a vs) (hn : vs.length = n) (hlen : n ≤ 1048576) (h1 : ∀ v ∈ vs, v.oneCell' = true) (h0 : a = .none → n = 0) :
    Calls Try.prog 5 #[.slice a n c] w fun e w' => ∃ a', e = .returned (.slice a' n n) ∧ w'.ownsRow w.heap.size 3 1 (.slice a' n n) n vs ∧ Below w.heap.size w w' := by
  obtain ⟨i0, hi, hz0, hz1, hz2⟩ := info_parts info3
  have hmin : vs.length = Nat.min n n := by rw [hn]; exact (Nat.min_self n).symm
  have hnil := fun a n c => Lib.run_eql_slice_nil (P := Try.prog) w 22 3 a n c 0 0 Try.underlying22
  cases a with
  | none =>
    obtain rfl := h0 rfl
    go_enter Try.func5, Try.ntmps5
    go_wp2
    go_ret
    exact ⟨.none, rfl, by rw [List.eq_nil_of_length_eq_zero hn]; exact World.ownsRow_nil _ _ _ _, Below.refl _ _⟩
  | some x =>
    go_enter Try.func5, Try.ntmps5
    go_wp2_with (first
      | (at_make; go_must (refine wpList_make_full _ rfl _ _ 22 rfl w.heap.size 3 i0 (.int .i64 0) 1 Try.underlying22 hi hz0 hz1 .i64 .i64 _ _ n rfl rfl rfl rfl (by rw [hz2]; omega) (by unfold maxLen; omega) (Nat.le_refl _) ?_); intro w2 hrow2 hg2; obtain ⟨cur, hfull, hcl⟩ := own_full_ex hrow2; have hfit : 0 + vs.length ≤ cur.length := (by omega); have hb2 : Below w.heap.size w w2 := (Below.refl _ w).grown hg2 (Nat.le_refl _) (fun j hj => by cases hj))
      | (show wpList _ _ _ ({ dst := _, op := .call { callee := .builtin .copy, args := _, argTypes := _ }, type := _, pos := _, after := _, guard := _ } :: _) _ _; go_must (refine wpList_copy_splice rfl _ _ 22 22 rfl 3 Try.underlying22 size3 _ _ _ _ _ _ rfl rfl w.heap.size 0 cur 3 hfull vs hmin (hr.src (hb2.mono hB)) hfit h1 w.heap.size w hb2 (Nat.le_refl _) ?_); intro w3 HG3 hb3)
      | fail)
    go_ret
    have hg3 := HG3.out
    rw [splice_all _ _ (by rw [hcl, hn])] at hg3
    exact ⟨_, rfl, full_own hg3 (Nat.le_refl _) hn (by unfold maxLen; omega), hb3⟩

theorem cloneB_any (a : Option Addr) (n c B : Nat) (vs : List Value) (w : World) (hB : B ≤ w.heap.size) (hr : Rd B w a vs) (hn : vs.length = n) (hlen : n ≤ 1048576) (h1 : ∀ v ∈ vs, v.oneCell' = true) (h0 : a = .none → n = 0) :
    Calls Try.prog 6 #[.slice a n c] w fun e w' => ∃ a', e = .returned (.slice a' n n) ∧ w'.ownsRow w.heap.size 5 1 (.slice a' n n) n vs ∧ Below w.heap.size w w' := by
  obtain ⟨i0, hi, hz0, hz1, hz2⟩ := info_parts info5
  have hmin : vs.length = Nat.min n n := by rw [hn]; exact (Nat.min_self n).symm
  have hnil := fun a n c => Lib.run_eql_slice_nil (P := Try.prog) w 23 5 a n c 0 0 Try.underlying23
  cases a with
  | none =>
    obtain rfl := h0 rfl
    go_enter Try.func6, Try.ntmps6
    go_wp2
    go_ret
    exact ⟨.none, rfl, by rw [List.eq_nil_of_length_eq_zero hn]; exact World.ownsRow_nil _ _ _ _, Below.refl _ _⟩
  | some x =>
    go_enter Try.func6, Try.ntmps6
    go_wp2_with (first
      | (at_make; go_must (refine wpList_make_full _ rfl _ _ 23 rfl w.heap.size 5 i0 (.int .u8 0) 1 Try.underlying23 hi hz0 hz1 .i64 .i64 _ _ n rfl rfl rfl rfl (by rw [hz2]; omega) (by unfold maxLen; omega) (Nat.le_refl _) ?_); intro w2 hrow2 hg2; obtain ⟨cur, hfull, hcl⟩ := own_full_ex hrow2; have hfit : 0 + vs.length ≤ cur.length := (by omega); have hb2 : Below w.heap.size w w2 := (Below.refl _ w).grown hg2 (Nat.le_refl _) (fun j hj => by cases hj))
      | (show wpList _ _ _ ({ dst := _, op := .call { callee := .builtin .copy, args := _, argTypes := _ }, type := _, pos := _, after := _, guard := _ } :: _) _ _; go_must (refine wpList_copy_splice rfl _ _ 23 23 rfl 5 Try.underlying23 size5 _ _ _ _ _ _ rfl rfl w.heap.size 0 cur 5 hfull vs hmin (hr.src (hb2.mono hB)) hfit h1 w.heap.size w hb2 (Nat.le_refl _) ?_); intro w3 HG3 hb3)
      | fail)
    go_ret
    have hg3 := HG3.out
    rw [splice_all _ _ (by rw [hcl, hn])] at hg3
    exact ⟨_, rfl, full_own hg3 (Nat.le_refl _) hn (by unfold maxLen; omega), hb3⟩

/-- A row that owns something: its shape. -/
theorem own_shape {w : World} {base n : Nat} {e : TypeId} {v : Value} {xs : List Value} (h : w.ownsRow base e 1 v (n + 1) xs) : ∃ g cap, v = .slice (some ⟨g, 0, .none⟩) (n + 1) cap := by
  rcases h.2 with ⟨_, h2⟩ | ⟨g, cap, cur, h1, _⟩
  · omega
  · exact ⟨g, cap, h1⟩

/-- The insertion: only its length matters to the law. -/
theorem insertI_any (a : Option Addr) (n c B : Nat) (xs : List Int) (kn : Nat) (x : Int) (w : World) (hB : B ≤ w.heap.size) (hr : Rd B w a (xs.map (Value.int .i64))) (hn : xs.length = n) (hlen : n ≤ 1048576) (hk : kn ≤ n) :
    Calls Try.prog 8 #[.slice a n c, .int .i64 (kn : Int), .int .i64 x] w fun e w' => ∃ g cap, e = .returned (.slice (some ⟨g, 0, .none⟩) (n + 1) cap) ∧ (∃ ys : List Int, ys.length = n + 1 ∧ w'.ownsRow w.heap.size 3 1 (.slice (some ⟨g, 0, .none⟩) (n + 1) cap) (n + 1) (ys.map (Value.int .i64))) ∧ Below w.heap.size w w' := by
  obtain ⟨i0, hi, hz0, hz1, hz2⟩ := info_parts info3
  go_enter Try.func8, Try.ntmps8
  go_wp2_with (first
    | (at_make; go_must (refine wpList_make_own _ rfl _ _ 22 rfl w.heap.size 3 i0 (.int .i64 0) 1 Try.underlying22 hi hz0 hz1 .i64 .i64 _ (n + 1) rfl rfl (by omega) (by rw [hz2]; omega) (by unfold maxLen; omega) (Nat.le_refl _) ?_); intro w2 hrow2 hg2)
    | fail)
  have hb2 : Below w.heap.size w w2 := (Below.refl _ w).grown hg2 (Nat.le_refl _) (fun j hj => by cases hj)
  clear hg2
  go_loopw [7, 8] (fun v i wr => ∃ (k : Nat) (ys : List Int), k ≤ kn ∧ i = .int .i64 k ∧ ys.length = k ∧ wr.ownsRow w.heap.size 3 1 v k (ys.map (Value.int .i64)) ∧ Below w.heap.size w wr) (fun _ i _ => kn - (intOf i).toNat)
  case atStart => exact ⟨0, [], Nat.zero_le _, rfl, rfl, hrow2, hb2⟩
  case round =>
    obtain ⟨k, ys, hkk, rfl, hyl, hown, hnx⟩ := hrel
    by_cases hlt : k < kn
    · rcases hr.below (hnx.mono hB) with h | ⟨b, off, rfl, _, hc⟩
      · simp at h; subst h; simp at hn; omega
      · obtain ⟨y, hy⟩ : ∃ y, xs[k]? = some y := ⟨_, List.getElem?_eq_getElem (by omega)⟩
        have c1 : wr.cell? ⟨b, off + k, .none⟩ = some (.int .i64 y) := hc k _ (by simp [hy])
        have hki : (k : Int) < n := by omega
        have hbs : w.heap.size ≤ (wr.alloc (.cells #[.int .i64 y] 3)).heap.size := by have := hnx.size; simp; omega
        clear hc hr hy
        go_wp2_with (first
          | (at_builtin; go_must (refine wpList_append_own _ rfl (.tmp 19) (.tmp 24) 22 rfl w.heap.size 3 i0 (.int .i64 0) 1 8 Try.underlying22 hi hz0 hz1 hz2 rfl (by decide) _ k _ rfl (hown.alloc _) ⟨wr.heap.size, 0, .none⟩ 1 1 [.int .i64 y] rfl rfl (cell_one_new _ _ _) (ints_oneCell .i64 [y]) (by unfold maxLen; omega) (by omega) hbs ?_); intro v1 w1 hrow1 hg1 _)
          | fail)
        go_roundw
        case rel => exact ⟨k + 1, ys ++ [y], by omega, by go_num, by simp [hyl], by simpa using hrow1, (hnx.alloc hnx.size _).grown hg1 hbs (fun j hj => (hown.lt j hj).1)⟩
        case measure => simp [intOf]; omega
    · obtain rfl : kn = k := by omega
      have hbs : w.heap.size ≤ (wr.alloc (.cells #[.int .i64 x] 3)).heap.size := by have := hnx.size; simp; omega
      clear hkk hlt
      go_wp2_with (first
        | (at_builtin; go_must (refine wpList_append_own _ rfl (.tmp 26) (.tmp 28) 22 rfl w.heap.size 3 i0 (.int .i64 0) 1 8 Try.underlying22 hi hz0 hz1 hz2 rfl (by decide) _ kn _ rfl (hown.alloc _) ⟨wr.heap.size, 0, .none⟩ 1 1 [.int .i64 x] rfl rfl (cell_one_new _ _ _) (ints_oneCell .i64 [x]) (by unfold maxLen; omega) (by omega) hbs ?_); intro v1 w1 hrow1 hg1 _)
        | fail)
      have hb1 : Below w.heap.size w w1 := (hnx.alloc hnx.size _).grown hg1 hbs (fun j hj => (hown.lt j hj).1)
      have hr1 : w1.ownsRow w.heap.size 3 1 v1 (kn + 1) ((ys ++ [x]).map (Value.int .i64)) := by simpa using hrow1
      clear hrow1 hg1 hown hnx hbs
      go_loopw [7, 9] (fun v i wr => ∃ (k : Nat) (zs : List Int), kn ≤ k ∧ k ≤ n ∧ i = .int .i64 k ∧ zs.length = k + 1 ∧ wr.ownsRow w.heap.size 3 1 v (k + 1) (zs.map (Value.int .i64)) ∧ Below w.heap.size w wr) (fun _ i _ => n - (intOf i).toNat)
      case atStart => exact ⟨kn, ys ++ [x], Nat.le_refl _, hk, rfl, by simp [hyl], hr1, hb1⟩
      case round =>
        obtain ⟨k, zs, hk1, hk2, rfl, hzl, hown, hnx⟩ := hrel
        by_cases hlt : k < n
        · rcases hr.below (hnx.mono hB) with h | ⟨b, off, rfl, _, hc⟩
          · simp at h; subst h; simp at hn; omega
          · obtain ⟨y, hy⟩ : ∃ y, xs[k]? = some y := ⟨_, List.getElem?_eq_getElem (by omega)⟩
            have c1 : wr.cell? ⟨b, off + k, .none⟩ = some (.int .i64 y) := hc k _ (by simp [hy])
            have hbs : w.heap.size ≤ (wr.alloc (.cells #[.int .i64 y] 3)).heap.size := by have := hnx.size; simp; omega
            clear hc hr hy
            go_wp2_with (first
              | (at_builtin; go_must (refine wpList_append_own _ rfl (.tmp 37) (.tmp 42) 22 rfl w.heap.size 3 i0 (.int .i64 0) 1 8 Try.underlying22 hi hz0 hz1 hz2 rfl (by decide) _ (k + 1) _ rfl (hown.alloc _) ⟨wr.heap.size, 0, .none⟩ 1 1 [.int .i64 y] rfl rfl (cell_one_new _ _ _) (ints_oneCell .i64 [y]) (by unfold maxLen; omega) (by omega) hbs ?_); intro v2 w2 hrow2 hg2 _)
              | fail)
            go_roundw
            case rel => exact ⟨k + 1, zs ++ [y], by omega, by omega, by go_num, by simp [hzl], by simpa using hrow2, (hnx.alloc hnx.size _).grown hg2 hbs (fun j hj => (hown.lt j hj).1)⟩
            case measure => simp [intOf]; omega
        · obtain rfl : n = k := by omega
          obtain ⟨g, cap, hv⟩ := own_shape hown
          go_wp2
          go_ret
          rw [hv] at hown
          exact ⟨g, cap, congrArg Ending.returned hv, ⟨zs, hzl, hown⟩, hnx⟩
end Go.Proofs.Qxb6613964a
