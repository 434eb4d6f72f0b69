/-
  FnGivenTwiceAfterOneMoreName: small laws ('Rd': a slice that is read) and the helpers' contracts.
-/
import Derived.Test.Qxb6613108aRows
import Derived.WalkKit
import Derived.WalkSpells
import Derived.WalkLawsBesides
import Derived.ProofKit
import Derived.Laws.CopyOwn
import Derived.Maps.AppendAt
import Derived.Deep.DeepMust
import Derived.Lib.SliceRun
import Derived.Outline
namespace Go.Proofs.Qxb6613108a
open Go.RowKit
set_option linter.unusedVariables false

theorem hide {p : Prop} (h : p) : Hid p := h

/-- THE SLICE AT a READS AS vs, AND LIES BELOW BLOCK B (where it has an element at all). -/
def Rd (B : Nat) (w : World) (a : Option Addr) (vs : List Value) : Prop :=
  vs = [] ∨ ∃ b off, a = some ⟨b, off, .none⟩ ∧ b < B ∧ ∀ j v, vs[j]? = some v → w.cell? ⟨b, off + j, .none⟩ = some v
theorem Rd.nil (B : Nat) (w : World) (a : Option Addr) : Rd B w a [] := .inl rfl
theorem Rd.mono {B B' : Nat} {w : World} {a : Option Addr} {vs : List Value} (h : Rd B w a vs) (hB : B ≤ B') : Rd B' w a vs := by
  rcases h with h | ⟨b, off, h1, h2, h3⟩
  · exact .inl h
  · exact .inr ⟨b, off, h1, by omega, h3⟩
theorem Rd.below {B : Nat} {w w' : World} {a : Option Addr} {vs : List Value} (h : Rd B w a vs) (hb : Below B w w') : Rd B w' a vs := by
  rcases h with h | ⟨b, off, h1, h2, h3⟩
  · exact .inl h
  · exact .inr ⟨b, off, h1, h2, fun j v hv => by rw [hb.cell (p := ⟨b, off + j, .none⟩) h2]; exact h3 j v hv⟩
theorem Rd.at {B g : Nat} {w : World} {vs : List Value} (h : Rd B w (some ⟨g, 0, .none⟩) vs) : ∀ j v, vs[j]? = some v → w.cell? ⟨g, j, .none⟩ = some v := by
  intro j v hv
  rcases h with h | ⟨b, off, h1, h2, h3⟩
  · subst h; cases hv
  · simp only [Option.some.injEq, Addr.mk.injEq, and_true] at h1
    obtain ⟨rfl, rfl⟩ := h1
    have := h3 j v hv
    rwa [Nat.zero_add] at this
/-- A part of it. -/
theorem Rd.part {B g : Nat} {w : World} {us vs ts : List Value} (h : Rd B w (some ⟨g, 0, .none⟩) (us ++ vs ++ ts)) : Rd B w (some ⟨g, us.length, .none⟩) vs := by
  by_cases hv : vs = []
  · exact .inl hv
  · rcases h with h | ⟨b, off, h1, h2, h3⟩
    · simp at h; exact .inl h.2.1
    · simp only [Option.some.injEq, Addr.mk.injEq, and_true] at h1
      obtain ⟨rfl, rfl⟩ := h1
      refine .inr ⟨_, us.length, rfl, h2, fun j v hj => ?_⟩
      have := h3 (us.length + j) v (by
        rw [List.append_assoc, List.getElem?_append_right (by omega), List.getElem?_append_left (by
          have := (List.getElem?_eq_some_iff.1 hj).1; omega)]
        rw [← hj]; congr 1; omega)
      rwa [Nat.zero_add] at this
/-- What a row owns is read. -/
theorem Rd.own {w : World} {base : Nat} {e : TypeId} {a : Option Addr} {n m cap : Nat} {xs : List Value} (h : w.ownsRow base e 1 (.slice a m cap) n xs) : Rd w.heap.size w a xs ∧ m = n ∧ xs.length = n := by
  have hl := h.1
  have hb := fun k hk => (h.lt k hk).2
  rcases h.2 with ⟨h1, h2⟩ | ⟨g, cap', cur, h1, h2, h3, h4, h5, h6, h7⟩
  · simp only [Value.slice.injEq] at h1
    obtain ⟨rfl, rfl, rfl⟩ := h1
    subst h2
    exact ⟨.inl (List.eq_nil_of_length_eq_zero (by simpa using hl)), rfl, by simpa using hl⟩
  · simp only [Value.slice.injEq] at h1
    obtain ⟨rfl, rfl, rfl⟩ := h1
    refine ⟨.inr ⟨g, 0, rfl, hb g rfl, fun j v hv => ?_⟩, rfl, by simpa using hl⟩
    have hj : j < xs.length := (List.getElem?_eq_some_iff.1 hv).1
    rw [Nat.zero_add, h.cellAt j (by omega)]
    exact hv

/-- A row that is full: its block, written out. -/
theorem own_full {w : World} {base g n : Nat} {e : TypeId} {xs : List Value} (h : w.ownsRow base e 1 (.slice (some ⟨g, 0, .none⟩) n n) n xs) : w.heap[g]? = some (.cells xs.toArray e (0, 0)) ∧ xs.length = n := by
  have hl := h.1
  rcases h.2 with ⟨h1, h2⟩ | ⟨g', cap', cur, h1, h2, h3, h4, h5, h6, h7⟩
  · cases h1
  · simp only [Value.slice.injEq, Option.some.injEq, Addr.mk.injEq, and_true, true_and] at h1
    obtain ⟨rfl, rfl⟩ := h1
    rw [List.take_of_length_le (by rw [Array.length_toList]; omega)] at h7
    subst h7
    exact ⟨by simpa using h3, by simpa using hl⟩
theorem own_full_ex {w : World} {base g n : Nat} {e : TypeId} {xs : List Value} (h : w.ownsRow base e 1 (.slice (some ⟨g, 0, .none⟩) n n) n xs) : ∃ cur : List Value, w.heap[g]? = some (.cells cur.toArray e (0, 0)) ∧ cur.length = n := ⟨xs, own_full h⟩
/-- .. and back. -/
theorem full_own {w : World} {base g n : Nat} {e : TypeId} {xs : List Value} (h : w.heap[g]? = some (.cells xs.toArray e (0, 0))) (hb : base ≤ g) (hn : xs.length = n) (hm : n ≤ maxLen) : w.ownsRow base e 1 (.slice (some ⟨g, 0, .none⟩) n n) n xs :=
  ⟨by omega, .inr ⟨g, n, xs.toArray, rfl, hb, h, Nat.le_refl _, hm, by simpa using hn, by subst hn; simp⟩⟩
theorem splice_all {α : Type} (L cs : List α) (h : L.length = cs.length) : splice L 0 cs = cs := by
  simp [splice, List.drop_of_length_le (Nat.le_of_eq h)]
/-- What a copy asks of its source. -/
theorem Rd.src {B : Nat} {w w' : World} {a : Option Addr} {vs : List Value} {g : Nat} (h : Rd B w a vs) (hb : Below B w w') :
    0 < vs.length → (some (⟨g, 0, .none⟩ : Addr)) = some ⟨g, 0, .none⟩ ∧ ∃ ad, a = some ad ∧ ∀ j v, vs[j]? = some v → w'.cell? (ad.add j) = some v := by
  intro hp
  rcases h.below hb with h | ⟨b, off, h1, h2, h3⟩
  · subst h; simp at hp
  · exact ⟨rfl, _, h1, fun j v hv => by rw [Go.WideShapes.add_plain]; exact h3 j v hv⟩


theorem cell_lt {w : World} {b o : Nat} {v : Value} (h : w.cell? ⟨b, o, .none⟩ = some v) : b < w.heap.size := by
  by_cases hb : b < w.heap.size
  · exact hb
  · exfalso
    simp [World.cell?, Array.getElem?_eq_none (Nat.le_of_not_lt hb)] at h
theorem set_step {f : Nat → Value} {xs : List Value} {k : Nat} {v : Value} (h : ∀ j, j < k → xs[j]? = some (f j)) (hv : v = f k) (hk : k < xs.length) : ∀ j, j < k + 1 → (xs.set k v)[j]? = some (f j) := by
  intro j hj
  rw [List.getElem?_set]
  by_cases e : k = j
  · subst e; simp [hk, hv]
  · rw [if_neg e]; exact h j (by omega)
theorem list_of {xs ys : List Value} (hl : xs.length = ys.length) (h : ∀ j, j < ys.length → xs[j]? = ys[j]?) : xs = ys := by
  apply List.ext_getElem?
  intro j
  by_cases hj : j < ys.length
  · exact h j hj
  · rw [List.getElem?_eq_none (by omega), List.getElem?_eq_none (by omega)]
theorem info9 : (Try.prog.info? 9).map (fun i => (i.zero, i.size, i.bytes)) = some (some (.string ByteArray.empty), 1, 16) := by kernel_rfl
theorem info4 : (Try.prog.info? 4).map (fun i => (i.zero, i.size, i.bytes)) = some (some (.bool false), 1, 1) := by kernel_rfl

theorem cloneS_any (a : Option Addr) (n c B : Nat) (ss : List ByteArray) (w : World) (hB : B ≤ w.heap.size) (hr : Rd B w a (ss.map Value.string)) (hn : ss.length = n) (hlen : n ≤ 1048576) (h0 : a = .none → n = 0) :
    Calls Try.prog 9 #[.slice a n c] w fun e w' => ∃ a', e = .returned (.slice a' n n) ∧ w'.ownsRow w.heap.size 9 1 (.slice a' n n) n (ss.map Value.string) ∧ Below w.heap.size w w' := by
  obtain ⟨i0, hi, hz0, hz1, hz2⟩ := info_parts info9
  have hnil := fun a n c => Lib.run_eql_slice_nil (P := Try.prog) w 29 9 a n c 0 0 Try.underlying29
  cases a with
  | none =>
    obtain rfl := h0 rfl
    go_enter Try.func9, Try.ntmps9
    go_wp2
    go_ret
    exact ⟨.none, rfl, by rw [List.eq_nil_of_length_eq_zero hn]; exact World.ownsRow_nil _ _ _ _, Below.refl _ _⟩
  | some x =>
    go_enter Try.func9, Try.ntmps9
    go_wp2_with (first
      | (at_make; go_must (refine wpList_make_full _ rfl _ _ 29 rfl w.heap.size 9 i0 (.string ByteArray.empty) 1 Try.underlying29 hi hz0 hz1 .i64 .i64 _ _ n rfl rfl rfl rfl (by rw [hz2]; omega) (by unfold maxLen; omega) (Nat.le_refl _) ?_); intro w2 hrow2 hg2)
      | fail)
    have hb2 : Below w.heap.size w w2 := (Below.refl _ w).grown hg2 (Nat.le_refl _) (fun j hj => by cases hj)
    clear hg2
    go_loopw [4] (fun i wr => ∃ (k : Nat) (xs : List Value), k ≤ n ∧ i = .int .i64 k ∧ wr.ownsRow w.heap.size 9 1 (.slice (some ⟨w.heap.size, 0, .none⟩) n n) n xs ∧ (∀ j, j < k → xs[j]? = (ss.map Value.string)[j]?) ∧ xs.length = n ∧ Below w.heap.size w wr) (fun i _ => n - (intOf i).toNat)
    case atStart => exact ⟨0, _, Nat.zero_le _, rfl, hrow2, fun j hj => by omega, by simpa using hrow2.1, hb2⟩
    case round =>
      obtain ⟨k, xs, hk, rfl, hrow, hxs, hxl, hnx⟩ := hrel
      by_cases hlt : k < n
      · rcases hr.below (hnx.mono hB) with h | ⟨b, off, hx, _, hc⟩
        · simp at h; subst h; simp at hn; omega
        · cases hx
          obtain ⟨s, hs⟩ : ∃ s, ss[k]? = some s := ⟨_, List.getElem?_eq_getElem (by omega)⟩
          have c1 : wr.cell? ⟨b, off + k, .none⟩ = some (Value.string s) := hc k _ (by simp [hs])
          obtain ⟨v0, hv0⟩ : ∃ v, wr.cell? ⟨w.heap.size, k, .none⟩ = some v := by
            rw [hrow.cellAt k (by omega)]; exact ⟨_, List.getElem?_eq_getElem (by omega)⟩
          have hfr := hrow.frozenAt k
          have hst := hrow.stored k (Value.string s)
          have hxs' : ∀ j, j < k + 1 → (xs.set k (Value.string s))[j]? = (ss.map Value.string)[j]? := by
            intro j hj
            rw [List.getElem?_set]
            by_cases e : k = j
            · subst e; simp [hs, hxl, hlt]
            · rw [if_neg e]; exact hxs j (by omega)
          have HST := hide hst
          have HXS := hide hxs'
          clear hs hst hxs hxs' hc hr
          go_wp2
          go_roundw
          case rel => exact ⟨k + 1, xs.set k (Value.string s), by omega, by go_num, HST.out.1, HXS.out, by simp [hxl], hnx.setCell (Nat.le_refl _) _⟩
          case measure => simp [intOf]; omega
      · obtain rfl : n = k := by omega
        have e : xs = ss.map Value.string := list_of (by simp; omega) (fun j hj => hxs j (by simp at hj; omega))
        rw [e] at hrow
        clear hxs hr e
        go_wp2
        go_ret
        exact ⟨_, rfl, hrow, hnx⟩

theorem cloneB_any (a : Option Addr) (n c B : Nat) (ss : List Bool) (w : World) (hB : B ≤ w.heap.size) (hr : Rd B w a (ss.map Value.bool)) (hn : ss.length = n) (hlen : n ≤ 1048576) (h0 : a = .none → n = 0) :
    Calls Try.prog 10 #[.slice a n c] w fun e w' => ∃ a', e = .returned (.slice a' n n) ∧ w'.ownsRow w.heap.size 4 1 (.slice a' n n) n (ss.map Value.bool) ∧ Below w.heap.size w w' := by
  obtain ⟨i0, hi, hz0, hz1, hz2⟩ := info_parts info4
  have hnil := fun a n c => Lib.run_eql_slice_nil (P := Try.prog) w 30 4 a n c 0 0 Try.underlying30
  cases a with
  | none =>
    obtain rfl := h0 rfl
    go_enter Try.func10, Try.ntmps10
    go_wp2
    go_ret
    exact ⟨.none, rfl, by rw [List.eq_nil_of_length_eq_zero hn]; exact World.ownsRow_nil _ _ _ _, Below.refl _ _⟩
  | some x =>
    go_enter Try.func10, Try.ntmps10
    go_wp2_with (first
      | (at_make; go_must (refine wpList_make_full _ rfl _ _ 30 rfl w.heap.size 4 i0 (.bool false) 1 Try.underlying30 hi hz0 hz1 .i64 .i64 _ _ n rfl rfl rfl rfl (by rw [hz2]; omega) (by unfold maxLen; omega) (Nat.le_refl _) ?_); intro w2 hrow2 hg2)
      | fail)
    have hb2 : Below w.heap.size w w2 := (Below.refl _ w).grown hg2 (Nat.le_refl _) (fun j hj => by cases hj)
    clear hg2
    go_loopw [4] (fun i wr => ∃ (k : Nat) (xs : List Value), k ≤ n ∧ i = .int .i64 k ∧ wr.ownsRow w.heap.size 4 1 (.slice (some ⟨w.heap.size, 0, .none⟩) n n) n xs ∧ (∀ j, j < k → xs[j]? = (ss.map Value.bool)[j]?) ∧ xs.length = n ∧ Below w.heap.size w wr) (fun i _ => n - (intOf i).toNat)
    case atStart => exact ⟨0, _, Nat.zero_le _, rfl, hrow2, fun j hj => by omega, by simpa using hrow2.1, hb2⟩
    case round =>
      obtain ⟨k, xs, hk, rfl, hrow, hxs, hxl, hnx⟩ := hrel
      by_cases hlt : k < n
      · rcases hr.below (hnx.mono hB) with h | ⟨b, off, hx, _, hc⟩
        · simp at h; subst h; simp at hn; omega
        · cases hx
          obtain ⟨s, hs⟩ : ∃ s, ss[k]? = some s := ⟨_, List.getElem?_eq_getElem (by omega)⟩
          have c1 : wr.cell? ⟨b, off + k, .none⟩ = some (Value.bool s) := hc k _ (by simp [hs])
          obtain ⟨v0, hv0⟩ : ∃ v, wr.cell? ⟨w.heap.size, k, .none⟩ = some v := by
            rw [hrow.cellAt k (by omega)]; exact ⟨_, List.getElem?_eq_getElem (by omega)⟩
          have hfr := hrow.frozenAt k
          have hst := hrow.stored k (Value.bool s)
          have hxs' : ∀ j, j < k + 1 → (xs.set k (Value.bool s))[j]? = (ss.map Value.bool)[j]? := by
            intro j hj
            rw [List.getElem?_set]
            by_cases e : k = j
            · subst e; simp [hs, hxl, hlt]
            · rw [if_neg e]; exact hxs j (by omega)
          have HST := hide hst
          have HXS := hide hxs'
          clear hs hst hxs hxs' hc hr
          go_wp2
          go_roundw
          case rel => exact ⟨k + 1, xs.set k (Value.bool s), by omega, by go_num, HST.out.1, HXS.out, by simp [hxl], hnx.setCell (Nat.le_refl _) _⟩
          case measure => simp [intOf]; omega
      · obtain rfl : n = k := by omega
        have e : xs = ss.map Value.bool := list_of (by simp; omega) (fun j hj => hxs j (by simp at hj; omega))
        rw [e] at hrow
        clear hxs hr e
        go_wp2
        go_ret
        exact ⟨_, rfl, hrow, hnx⟩

/-- Do two strings hold the same bytes, as the model asks it? -/
def eqS (x s : ByteArray) : Bool := x.toList == s.toList
/-- The first place of x among ss. -/
def idx (x : ByteArray) : List ByteArray → Nat → Int
  | [], _ => -1
  | s :: r, k => if eqS x s then k else idx x r (k + 1)

theorem idx_cons (x s : ByteArray) (r : List ByteArray) (k : Nat) : idx x (s :: r) k = if eqS x s then (k : Int) else idx x r (k + 1) := rfl
theorem index_any (a : Option Addr) (n c B : Nat) (ss : List ByteArray) (x : ByteArray) (w : World) (hr : Rd B w a (ss.map Value.string)) (hn : ss.length = n) (hlen : n ≤ 1048576) :
    Calls Try.prog 16 #[.slice a n c, .string x] w fun e w' => e = .returned (.int .i64 (idx x ss 0)) ∧ w = w' := by
  go_enter Try.func16, Try.ntmps16
  go_wp2
  go_loop [8] (fun i => ∃ k : Nat, k ≤ n ∧ i = .int .i64 k ∧ idx x ss 0 = idx x (ss.drop k) k) (fun i => n - (intOf i).toNat)
  case atStart => exact ⟨0, Nat.zero_le _, rfl, rfl⟩
  case round =>
    obtain ⟨k, hk, rfl, hid⟩ := hrel
    by_cases hlt : k < n
    · rcases hr with h | ⟨b, off, rfl, _, hc⟩
      · simp at h; subst h; simp at hn; omega
      · obtain ⟨s, hs⟩ : ∃ s, ss[k]? = some s := ⟨_, List.getElem?_eq_getElem (by omega)⟩
        have c1 : w.cell? ⟨b, off + k, .none⟩ = some (.string s) := hc k _ (by simp [hs])
        have hd : ss.drop k = s :: ss.drop (k + 1) := by
          rw [List.drop_eq_getElem_cons (by omega)]; rw [List.getElem?_eq_getElem (by omega)] at hs; simp at hs; rw [hs]
        rw [hd, idx_cons] at hid
        have HID := hide hid
        clear hs hc hd hid
        cases he : (x.toList == s.toList)
        · go_wp2
          go_round
          case rel => exact ⟨k + 1, by omega, by go_num, by rw [HID.out, eqS, he]; rfl⟩
          case measure => simp [intOf]; omega
        · go_wp2
          go_ret
          exact ⟨congrArg (fun z => Ending.returned (.int .i64 z)) (by rw [HID.out, eqS, he]; rfl), rfl⟩
    · have HID := hide hid
      clear hid
      go_wp2
      go_ret
      refine ⟨congrArg (fun z => Ending.returned (.int .i64 z)) ?_, rfl⟩
      rw [HID.out, List.drop_of_length_le (by omega)]
      rfl
end Go.Proofs.Qxb6613108a
