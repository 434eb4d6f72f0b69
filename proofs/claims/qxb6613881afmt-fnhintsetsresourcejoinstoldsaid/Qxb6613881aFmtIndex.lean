/-
  numalign: newNodeIndex, NewHintSets.
-/
import Derived.Test.Qxb6613881aFmtPos
import Derived.Test.Qxb6613881aFmtSorted
import Derived.Test.Qxb6613881aFmtRepeat
namespace Go.Proofs.Qxb6613881aFmt
open Go.RowKit
set_option linter.unusedVariables false

/-- The table when the first k nodes are in it. -/
def tblAt (ns : List Int) (k S : Nat) : List Value := (List.range S).map fun j : Nat => Value.int .i64 (posOf (ns.take k) (j : Int))
theorem tblAt_length (ns : List Int) (k S : Nat) : (tblAt ns k S).length = S := by simp [tblAt]
theorem tblAt_zero (ns : List Int) (S : Nat) : tblAt ns 0 S = List.replicate S (.int .i64 (-1)) := by
  apply List.ext_getElem
  · simp [tblAt]
  · intro i h1 h2
    simp [tblAt, posOf]
theorem take_mem_lt {ns : List Int} (hs : ns.Pairwise (· < ·)) {k : Nat} (hk : k < ns.length) {x : Int} (hx : x ∈ ns.take k) : x < ns[k]?.getD 0 := by
  obtain ⟨j, hj, e⟩ := List.getElem_of_mem hx
  have hj' : j < k := by simp at hj; omega
  have := pair_lt hs hj' hk
  rw [List.getElem?_eq_getElem (by omega)] at this
  simp at e
  simpa [e] using this
theorem posOf_take_succ {ns : List Int} (hs : ns.Pairwise (· < ·)) {k : Nat} (hk : k < ns.length) (x : Int) : posOf (ns.take (k + 1)) x = if x = ns[k]?.getD 0 then (k : Int) else posOf (ns.take k) x := by
  have e : ns.take (k + 1) = ns.take k ++ [ns[k]?.getD 0] := by
    rw [List.take_succ_eq_append_getElem hk, List.getElem?_eq_getElem hk]; rfl
  by_cases h : x = ns[k]?.getD 0
  · rw [if_pos h]
    have hn : x ∉ ns.take k := fun hm => by have := take_mem_lt hs hk hm; omega
    unfold posOf
    rw [e, if_pos (by simp [h]), List.idxOf_append, if_neg hn, h]
    simp
    omega
  · rw [if_neg h]
    unfold posOf
    rw [e]
    by_cases hm : x ∈ ns.take k
    · rw [if_pos hm, if_pos (by simp [hm]), List.idxOf_append, if_pos hm]
    · rw [if_neg hm, if_neg (by simp [hm, h])]
theorem posOf_take_big {ns : List Int} (hs : ns.Pairwise (· < ·)) {k : Nat} (hk : k < ns.length) {x : Int} (hx : x < ns[k]?.getD 0) : posOf (ns.take k) x = posOf ns x := by
  have key : ∀ m, k + m ≤ ns.length → posOf (ns.take (k + m)) x = posOf (ns.take k) x := by
    intro m
    induction m with
    | zero => intro _; rfl
    | succ m ih =>
      intro hm
      rw [← Nat.add_assoc, posOf_take_succ hs (by omega), if_neg, ih (by omega)]
      intro e
      by_cases hm0 : m = 0
      · subst hm0; simp at e; omega
      · have := pair_lt hs (i := k) (j := k + m) (by omega) (by omega); omega
  have := key (ns.length - k) (by omega)
  rw [show k + (ns.length - k) = ns.length by omega, List.take_length] at this
  exact this.symm
theorem tblAt_set {ns : List Int} (hs : ns.Pairwise (· < ·)) {k S h : Nat} (hk : k < ns.length) (hh : ns[k]?.getD 0 = (h : Int)) : (tblAt ns k S).set h (.int .i64 (k : Int)) = tblAt ns (k + 1) S := by
  apply List.ext_getElem
  · simp [tblAt]
  · intro i h1 h2
    rw [List.getElem_set]
    simp only [tblAt, List.getElem_map, List.getElem_range]
    rw [posOf_take_succ hs hk, hh]
    by_cases e : h = i
    · subst e; simp
    · rw [if_neg e, if_neg (by omega)]
theorem tblAt_big {ns : List Int} (hs : ns.Pairwise (· < ·)) {k S : Nat} (hk : k < ns.length) (hh : (S : Int) ≤ ns[k]?.getD 0) : tblAt ns k S = tblAt ns ns.length S := by
  apply List.ext_getElem
  · simp [tblAt]
  · intro i h1 h2
    simp only [tblAt, List.getElem_map, List.getElem_range]
    have : i < S := by simpa [tblAt] using h1
    rw [posOf_take_big hs hk (by omega), List.take_length]
theorem own_cells {w : World} {base g n cap : Nat} {xs : List Int} (h : w.ownsRow base 3 1 (.slice (some ⟨g, 0, .none⟩) n cap) n (xs.map (Value.int .i64))) : xs.length = n ∧ ∀ j, j < n → w.cell? ⟨g, j, .none⟩ = some (.int .i64 (xs[j]?.getD 0)) := by
  have hl : xs.length = n := by simpa using h.1
  refine ⟨hl, fun j hj => ?_⟩
  have := h.cells (g := g) rfl j (.int .i64 (xs[j]?.getD 0)) (by rw [List.getElem?_map, List.getElem?_eq_getElem (by omega)]; rfl)
  rwa [Go.WideShapes.add_plain, Nat.zero_add] at this

theorem nonneg_at {ns : List Int} (h : ∀ x ∈ ns, 0 ≤ x) {k : Nat} (hk : k < ns.length) : ¬ (ns[k]?.getD 0 < 0) := by
  rw [List.getElem?_eq_getElem hk]
  have := h _ (List.getElem_mem hk)
  simpa using this

theorem repeat_z (b S : Nat) (z : Int) (w : World) (hb : b < w.heap.size) (hc : w.cell? ⟨b, 0, .none⟩ = some (.int .i64 (-1))) (hz : z = (S : Int)) (hS0 : 0 < S) (hS : S ≤ 1048576) :
    Calls Tryf.prog 31 #[.slice (some ⟨b, 0, .none⟩) 1 1, .int .i64 z] w fun e w' => ∃ g, e = .returned (.slice (some ⟨g, 0, .none⟩) S S) ∧ w'.heap[g]? = some (.cells (List.replicate S (Value.int .i64 (-1))).toArray 3 (0, 0)) ∧ w.heap.size ≤ g ∧ Below w.heap.size w w' := by
  subst hz; exact repeat_any b S w hb hc hS0 hS
theorem row_keep {w w' : World} {base base' g n c : Nat} {e : TypeId} {xs : List Value} (h : w.ownsRow base e 1 (.slice (some ⟨g, 0, .none⟩) n c) n xs) (hb : base' ≤ base) (hg : g < w.heap.size) (heq : w'.heap[g]? = w.heap[g]?) : w'.ownsRow base' e 1 (.slice (some ⟨g, 0, .none⟩) n c) n xs := by
  refine ⟨h.1, ?_⟩
  rcases h.2 with ⟨h1, _⟩ | ⟨g', cap, cur, h1, h2, h3, h4⟩
  · cases h1
  · simp only [Value.slice.injEq, Option.some.injEq, Addr.mk.injEq, and_true, true_and] at h1
    obtain ⟨rfl, rfl⟩ := h1
    exact .inr ⟨g, c, cur, rfl, by omega, by rw [heq]; exact h3, h4⟩
theorem heap_lt {w : World} {k : Nat} {o : Obj} (h : w.heap[k]? = some o) : k < w.heap.size := (Array.getElem?_eq_some_iff.1 h).1
theorem _root_.Go.World.grownBy.trans_set {w wr : World} {T x : Nat} {v : Value} (h : w.grownBy wr (some T)) (_ : True) : w.grownBy (wr.setCell ⟨T, x, .none⟩ v) (some T) :=
  ⟨h.os, h.tape, h.output, by simp; exact h.size, fun k hk hne => (heap_setCell_other _ _ _ _ (fun e => hne (by rw [e]))).trans (h.block k hk hne)⟩
theorem index_end (w w4 wr : World) (g c n S T R : Nat) (ns : List Int) {a b : Value} (hR : w4.heap[R]? = some (.cells #[a, b] 50 (0, 0))) (hrow : w4.ownsRow w.heap.size 3 1 (.slice (some ⟨g, 0, .none⟩) n c) n (ns.map (Value.int .i64)))
    (hb : Below w.heap.size w w4) (hg : w4.grownBy wr (some T)) (hT : wr.heap[T]? = some (.cells (tblAt ns n S).toArray 3 (0, 0))) (hgT : g ≠ T) (hRT : R ≠ T) (hgR : g ≠ R) (hR0 : w.heap.size ≤ R) (hT0 : w.heap.size ≤ T) {u v : Value} :
    ((wr.setCell ⟨R, 0, .none⟩ u).setCell ⟨R, 1, .none⟩ v).heap[R]? = some (.cells #[u, v] 50 (0, 0)) ∧ ((wr.setCell ⟨R, 0, .none⟩ u).setCell ⟨R, 1, .none⟩ v).ownsRow w.heap.size 3 1 (.slice (some ⟨g, 0, .none⟩) n c) n (ns.map (Value.int .i64)) ∧
      ((wr.setCell ⟨R, 0, .none⟩ u).setCell ⟨R, 1, .none⟩ v).heap[T]? = some (.cells (tblAt ns n S).toArray 3 (0, 0)) ∧ Below w.heap.size w ((wr.setCell ⟨R, 0, .none⟩ u).setCell ⟨R, 1, .none⟩ v) := by
  have hgl : g < w4.heap.size := (hrow.lt g rfl).2
  have hRr : wr.heap[R]? = some (.cells #[a, b] 50 (0, 0)) := (hg.block _ (heap_lt hR) (fun e => hRT (Option.some.inj e))).trans hR
  refine ⟨?_, ?_, ?_, ?_⟩
  · exact heap_setCell_same _ _ _ _ _ _ (heap_setCell_same _ _ _ _ _ _ hRr)
  · exact row_keep hrow (Nat.le_refl _) hgl (by rw [heap_setCell_other _ _ _ _ hgR, heap_setCell_other _ _ _ _ hgR]; exact hg.block g hgl (fun e => hgT (Option.some.inj e)))
  · rw [heap_setCell_other _ _ _ _ (fun e => hRT e.symm), heap_setCell_other _ _ _ _ (fun e => hRT e.symm)]; exact hT
  · exact ((hb.grown hg hb.size (fun k e => by cases e; exact hT0)).setCell (p := ⟨R, 0, .none⟩) hR0 _).setCell (p := ⟨R, 1, .none⟩) hR0 _
theorem two_cells {w : World} {X : Nat} {u v : Value} {t : TypeId} (h : w.heap[X]? = some (.cells #[u, v] t (0, 0))) : (w.cell? ⟨X, 0, .none⟩ = some u ∧ w.cell? ⟨X, 1, .none⟩ = some v) ∧ (∀ j, w.frozen? ⟨X, j, .none⟩ = false) := by
  refine ⟨⟨?_, ?_⟩, fun j => frozen_of_row _ _ _ _ _ h⟩
  · rw [cell_of_row _ _ _ _ _ (0, 0) h]; rfl
  · rw [cell_of_row _ _ _ _ _ (0, 0) h]; rfl

set_option maxHeartbeats 1000000 in
set_option maxRecDepth 100000 in
theorem index_any (b off n cap M S h : Nat) (zs ns : List Int) (w : World) (hns : srt zs = ns) (hne : zs ≠ []) (hn : zs.length = n) (hn1 : 0 < n) (hlen : n ≤ 65536) (hb : b < w.heap.size) (hI : ∀ j, j < zs.length → w.cell? ⟨b, off + j, .none⟩ = some (.int .i64 (zs[j]?.getD 0)))
    (hs : ns.Pairwise (· < ·)) (h0 : ∀ x ∈ ns, 0 ≤ x) (hMx : Hid (max (1024 : Int) (4 * (n : Int)) = (M : Int))) (hh : ns[n - 1]?.getD 0 = (h : Int)) (hcase : Hid (((h : Int) < (M : Int) ∧ (h : Int) + 1 = (S : Int)) ∨ ((M : Int) ≤ (h : Int) ∧ (M : Int) = (S : Int)))) (hS0 : 0 < S) (hSl : S ≤ 1048576) :
    Calls Tryf.prog 23 #[.slice (some ⟨b, off, .none⟩) n cap] w fun e w' => ∃ g c T, e = .returned (.tuple #[.agg #[.slice (some ⟨g, 0, .none⟩) n c, .slice (some ⟨T, 0, .none⟩) S S], .nilIface]) ∧
      w'.ownsRow w.heap.size 3 1 (.slice (some ⟨g, 0, .none⟩) n c) n (ns.map (Value.int .i64)) ∧ w'.heap[T]? = some (.cells (tblAt ns n S).toArray 3 (0, 0)) ∧ w.heap.size ≤ T ∧ Below w.heap.size w w' := by
  obtain ⟨W1, hW1⟩ : ∃ W1, W1 = (w.alloc (.cells #[.slice none 0 0, .slice none 0 0] 50)).alloc (.cells #[.slice (some ⟨b, off, .none⟩) n cap] 22) := ⟨_, rfl⟩
  have hb1 : Below w.heap.size w W1 := by rw [hW1]; exact ((Below.refl _ w).alloc (Nat.le_refl _) _).alloc (by simp) _
  have hs1 : W1.heap.size = w.heap.size + 2 := by rw [hW1]; simp
  have hS := sorted_any (w.heap.size + 1) b off cap zs hne (by omega) W1 (by omega) (by rw [hW1, hn]; simp [go_sem]) (by omega) (fun j hj => (hb1.cell (p := ⟨b, off + j, .none⟩) hb).trans (hI j hj))
  rw [hn, hns] at hS
  subst hW1
  have hnp : ((n : Int) == 0) = false := by simp; omega
  have HN := hide hn
  have HS := hide hs
  have H0 := hide h0
  have HH := hide hh
  clear hn hs h0 hh hI hne hns
  go_enter Tryf.func23, Tryf.ntmps23
  go_wp2_with (first
    | (go_at_call 29; refine (values_any (some ⟨b, off, .none⟩) n cap _).mono ?_; rintro e w1 ⟨rfl, rfl⟩)
    | (go_at_call 28; refine hS.mono ?_; rintro e w2 ⟨g, c, rfl, hrow, hb2⟩)
    | fail)
  have hs2 : w.heap.size + 2 ≤ w2.heap.size := by rw [← hs1]; exact hb2.size
  have hbw2 : Below w.heap.size w w2 := hb1.trans (hb2.mono (by omega))
  obtain ⟨hl, hc2⟩ := own_cells hrow
  have hgl : g < w2.heap.size := (hrow.lt g rfl).2
  have hc3 : ∀ j, j < n → (w2.alloc (.cells #[.slice (some ⟨g, 0, .none⟩) n c, .slice none 0 0] 50)).cell? ⟨g, j, .none⟩ = some (.int .i64 (ns[j]?.getD 0)) := fun j hj => by
    rw [World.cell?_alloc_past _ _ _ hgl]; exact hc2 j hj
  have hR2 : Hid (w2.heap[w.heap.size]? = some (.cells #[.slice none 0 0, .slice none 0 0] 50 (0, 0))) := by
    show w2.heap[w.heap.size]? = _
    rw [hb2.block _ (by omega)]; exact (Below.heap_alloc _ _ _ (by simp)).trans (heap_alloc_new w _)
  have HL := hide hl
  clear hS hl hc2 hb2 hb1 hs1 hb
  go_loopw [23] (fun i wr => ∃ k : Nat, k ≤ n ∧ i = .int .i64 k ∧ wr = (w2.alloc (.cells #[.slice (some ⟨g, 0, .none⟩) n c, .slice none 0 0] 50))) (fun i _ => n - (intOf i).toNat)
  case atStart => exact ⟨0, Nat.zero_le _, rfl, rfl⟩
  case round =>
    obtain ⟨k, hk, rfl, rfl⟩ := hrel
    by_cases hlt : k < n
    · have hck := hc3 k hlt
      have hlti : (k : Int) < n := Int.ofNat_lt.2 hlt
      obtain ⟨x, hx⟩ : ∃ x, x = ns[k]?.getD 0 := ⟨_, rfl⟩
      rw [← hx] at hck
      have hx0 : ¬ (x < 0) := by rw [hx]; exact nonneg_at H0.out (by rw [HL.out]; exact hlt)
      rcases Nat.eq_zero_or_pos k with rfl | hkp
      · clear hx hc3
        go_wp2
        go_roundw
        case rel => exact ⟨1, by omega, rfl, by trivial⟩
        case measure => simp [intOf]; omega
      · obtain ⟨k', rfl⟩ : ∃ k', k = k' + 1 := ⟨k - 1, by omega⟩
        have hck' := hc3 k' (by omega)
        obtain ⟨y, hy⟩ : ∃ y, y = ns[k']?.getD 0 := ⟨_, rfl⟩
        rw [← hy] at hck'
        have hxy : ¬ (x = y) := by
          have := pair_lt HS.out (i := k') (j := k' + 1) (by omega) (by rw [HL.out]; exact hlt)
          omega
        clear hx hy hc3
        go_wp2
        go_roundw
        case rel => exact ⟨k' + 2, by omega, by go_num, by trivial⟩
        case measure => simp [intOf]; omega
    · have hlast := hc3 (n - 1) (Nat.sub_lt hn1 Nat.one_pos)
      rw [HH.out] at hlast
      have hmax := hMx.out
      rcases hcase.out with ⟨hhM, hSz⟩ | ⟨hhM, hSz⟩
      all_goals (
        have HSz := hide hSz
        clear hSz
        go_wp2_with fail
        refine (repeat_z (w2.heap.size + 1) S _ _ (by simp) (by simp [go_sem]) HSz.out hS0 hSl).mono ?_
        rintro e w3 ⟨T, rfl, hT, hTl, hb3⟩
        have hTl' : w2.heap.size + 2 ≤ T := by simp at hTl; omega
        have hX3 : w3.heap[w2.heap.size]? = some (.cells #[.slice (some ⟨g, 0, .none⟩) n c, .slice none 0 0] 50 (0, 0)) := by
          rw [hb3.block _ (by simp; omega)]; exact (Below.heap_alloc _ _ _ (by simp)).trans (heap_alloc_new w2 _)
        have hb23 : Below w2.heap.size w2 w3 := (((Below.refl _ w2).alloc (Nat.le_refl _) _).alloc (by simp) _).trans (hb3.mono (by simp; omega))
        have hR3 : w3.heap[w.heap.size]? = some (.cells #[.slice none 0 0, .slice none 0 0] 50 (0, 0)) := by
          rw [hb23.block _ (by omega)]; exact hR2.out
        obtain ⟨hX3c, hX3f⟩ := two_cells hX3
        have hTn : w2.heap.size ≠ T := by omega
        have hgT : g ≠ T := by omega
        have hgR : g ≠ w.heap.size := by have := (hrow.lt g rfl).1; simp at this; omega
        have hX4 : (w3.setCell ⟨w2.heap.size, 1, .none⟩ (.slice (some ⟨T, 0, .none⟩) S S)).heap[w2.heap.size]? = some (.cells #[.slice (some ⟨g, 0, .none⟩) n c, .slice (some ⟨T, 0, .none⟩) S S] 50 (0, 0)) := heap_setCell_same _ _ _ _ _ _ hX3
        have hT4 : (w3.setCell ⟨w2.heap.size, 1, .none⟩ (.slice (some ⟨T, 0, .none⟩) S S)).heap[T]? = some (.cells (tblAt ns 0 S).toArray 3 (0, 0)) := by
          rw [heap_setCell_other _ _ _ _ (fun e => hTn e.symm), tblAt_zero]; exact hT
        have hrow4 : (w3.setCell ⟨w2.heap.size, 1, .none⟩ (.slice (some ⟨T, 0, .none⟩) S S)).ownsRow w.heap.size 3 1 (.slice (some ⟨g, 0, .none⟩) n c) n (ns.map (Value.int .i64)) := row_keep hrow (by simp; omega) hgl (by rw [heap_setCell_other _ _ _ _ (by simp; omega)]; exact hb23.block g hgl)
        have hR4 : (w3.setCell ⟨w2.heap.size, 1, .none⟩ (.slice (some ⟨T, 0, .none⟩) S S)).heap[w.heap.size]? = some (.cells #[.slice none 0 0, .slice none 0 0] 50 (0, 0)) := by
          rw [heap_setCell_other _ _ _ _ (by simp; omega)]; exact hR3
        have hb4 : Below w.heap.size w (w3.setCell ⟨w2.heap.size, 1, .none⟩ (.slice (some ⟨T, 0, .none⟩) S S)) := (hbw2.trans (hb23.mono (by omega))).setCell (p := ⟨w2.heap.size, 1, .none⟩) (by simp; omega) _
        clear hlast hmax hX3 hb3 hb23 hR3 hT
        have hRn : w.heap.size ≠ T := by omega
        clear hTl hrow hbw2 hc3
        go_wp2_with fail
        clear hX3c hX3f
        generalize w3.setCell ⟨w2.heap.size, 1, .none⟩ (.slice (some ⟨T, 0, .none⟩) S S) = w4 at *
        obtain ⟨_, hc4⟩ := own_cells hrow4
        go_loopw [78] (fun i wr => ∃ k : Nat, k ≤ n ∧ i = .int .i64 k ∧ wr.heap[T]? = some (.cells (tblAt ns k S).toArray 3 (0, 0)) ∧ w4.grownBy wr (some T)) (fun i _ => n - (intOf i).toNat)
        case atStart => exact ⟨0, Nat.zero_le _, rfl, hT4, ⟨rfl, rfl, rfl, Nat.le_refl _, fun _ _ _ => rfl⟩⟩
        case round =>
          obtain ⟨k, hk, rfl, hTk, hgk⟩ := hrel
          have hXk : wr.heap[w2.heap.size]? = _ := (hgk.block _ (heap_lt hX4) (fun e => hTn (Option.some.inj e))).trans hX4
          have hRk : wr.heap[w.heap.size]? = _ := (hgk.block _ (heap_lt hR4) (fun e => hRn (Option.some.inj e))).trans hR4
          obtain ⟨⟨hXk0, hXk1⟩, hXkf⟩ := two_cells hXk
          obtain ⟨⟨hRk0, hRk1⟩, hRkf⟩ := two_cells hRk
          by_cases hlt2 : k < n
          · have hck : wr.cell? ⟨g, k, .none⟩ = some (.int .i64 (ns[k]?.getD 0)) := hgk.cell (hc4 k hlt2) (fun e => hgT (Option.some.inj e))
            have hlti : (k : Int) < n := Int.ofNat_lt.2 hlt2
            obtain ⟨x, hx⟩ : ∃ x : Nat, ns[k]?.getD 0 = (x : Int) := ⟨(ns[k]?.getD 0).toNat, (Int.toNat_of_nonneg (Int.not_lt.1 (nonneg_at H0.out (by rw [HL.out]; exact hlt2)))).symm⟩
            rw [hx] at hck
            have HX := hide hx
            clear hx hXk hRk
            by_cases hxS : x < S
            · have hxSi : (x : Int) < S := Int.ofNat_lt.2 hxS
              obtain ⟨y, hTc⟩ : ∃ y, wr.cell? ⟨T, x, .none⟩ = some y := by
                rw [cell_of_row _ _ _ _ _ (0, 0) hTk, List.getElem?_toArray]
                exact ⟨_, List.getElem?_eq_getElem (by rw [tblAt_length]; exact hxS)⟩
              have hTf : wr.frozen? ⟨T, x, .none⟩ = false := frozen_of_row _ _ _ _ _ hTk
              clear hc4
              go_wp2
              go_roundw
              case rel => exact ⟨k + 1, by omega, by go_num, by rw [heap_setCell_same _ _ _ _ _ _ hTk, ← tblAt_set HS.out (by rw [HL.out]; exact hlt2) HX.out]; simp, hgk.trans_set (by trivial)⟩
              case measure => simp [intOf]; omega
            · have hxSi : (S : Int) ≤ (x : Int) := Int.ofNat_le.2 (Nat.le_of_not_lt hxS)
              have hTN : wr.heap[T]? = some (.cells (tblAt ns n S).toArray 3 (0, 0)) := by
                rw [hTk, tblAt_big HS.out (by rw [HL.out]; exact hlt2) (by rw [HX.out]; exact hxSi), HL.out]
              clear hc4 hTk
              go_wp2_with fail
              obtain ⟨f1, f2, f3, f4⟩ := index_end w w4 wr g c n S T w.heap.size ns hR4 hrow4 hb4 hgk hTN hgT hRn hgR (Nat.le_refl _) (by omega)
              generalize (wr.setCell ⟨w.heap.size, 0, .none⟩ (.slice (some ⟨g, 0, .none⟩) n c)).setCell ⟨w.heap.size, 1, .none⟩ (.slice (some ⟨T, 0, .none⟩) S S) = w5 at f1 f2 f3 f4 ⊢
              obtain ⟨⟨f5, f6⟩, _⟩ := two_cells f1
              simp only [bodyPost, results, Tryf.results23]
              simp [go_sem, f5, f6]
              exact ⟨g, c, T, ⟨⟨rfl, rfl⟩, rfl⟩, f2, f3, by omega, f4⟩
          · have hTN : wr.heap[T]? = some (.cells (tblAt ns n S).toArray 3 (0, 0)) := by
              rw [hTk, show k = n by omega]
            clear hc4 hTk
            go_wp2_with fail
            obtain ⟨f1, f2, f3, f4⟩ := index_end w w4 wr g c n S T w.heap.size ns hR4 hrow4 hb4 hgk hTN hgT hRn hgR (Nat.le_refl _) (by omega)
            generalize (wr.setCell ⟨w.heap.size, 0, .none⟩ (.slice (some ⟨g, 0, .none⟩) n c)).setCell ⟨w.heap.size, 1, .none⟩ (.slice (some ⟨T, 0, .none⟩) S S) = w5 at f1 f2 f3 f4 ⊢
            obtain ⟨⟨f5, f6⟩, _⟩ := two_cells f1
            simp only [bodyPost, results, Tryf.results23]
            simp [go_sem, f5, f6]
            exact ⟨g, c, T, ⟨⟨rfl, rfl⟩, rfl⟩, f2, f3, by omega, f4⟩)
end Go.Proofs.Qxb6613881aFmt
