/-
  numalign: a HintSets in memory; NewHintSets.
-/
import Derived.Test.Qxb6613881aFmtIndex
namespace Go.Proofs.Qxb6613881aFmt
open Go.RowKit
set_option linter.unusedVariables false

/-- The node ids are ascending and distinct, none below 0; some, and not too many. -/
structure Nodes (ns : List Int) (n : Nat) : Prop where
  len : ns.length = n
  pos : 0 < n
  small : n ≤ 65536
  up : ns.Pairwise (· < ·)
  nonneg : ∀ x ∈ ns, 0 ≤ x

/-- A HintSets at block H: its ids, its table, its records, how many were added, its error. -/
structure HS (w : World) (H g T n S c : Nat) (ns : List Int) (rv : Value) (rs : List UInt8) (add : Nat) (er : Value) : Prop where
  blk : w.heap[H]? = some (.cells #[.slice (some ⟨g, 0, .none⟩) n c, .slice (some ⟨T, 0, .none⟩) S S, rv, .int .i64 (add : Int), er] 55 (0, 0))
  ids : w.ownsRow 0 3 1 (.slice (some ⟨g, 0, .none⟩) n c) n (ns.map (Value.int .i64))
  tbl : w.heap[T]? = some (.cells (tblAt ns n S).toArray 3 (0, 0))
  recs : w.ownsRow 0 5 1 rv rs.length (rs.map e8)

theorem Nodes.last {ns : List Int} {n : Nat} (h : Nodes ns n) : ∃ k : Nat, ns[n - 1]?.getD 0 = (k : Int) :=
  ⟨(ns[n - 1]?.getD 0).toNat, (Int.toNat_of_nonneg (Int.not_lt.1 (nonneg_at h.nonneg (by have := h.len; have := h.pos; omega)))).symm⟩

/-- newNodeIndex, the table's length left open. -/
theorem index_some (b off n cap : Nat) (zs ns : List Int) (w : World) (hns : srt zs = ns) (hn : zs.length = n) (hN : Nodes ns n) (hb : b < w.heap.size) (hI : ∀ j, j < zs.length → w.cell? ⟨b, off + j, .none⟩ = some (.int .i64 (zs[j]?.getD 0))) :
    Calls Tryf.prog 23 #[.slice (some ⟨b, off, .none⟩) n cap] w fun e w' => ∃ g c T S, e = .returned (.tuple #[.agg #[.slice (some ⟨g, 0, .none⟩) n c, .slice (some ⟨T, 0, .none⟩) S S], .nilIface]) ∧ S ≤ 1048576 ∧
      w'.ownsRow w.heap.size 3 1 (.slice (some ⟨g, 0, .none⟩) n c) n (ns.map (Value.int .i64)) ∧ w'.heap[T]? = some (.cells (tblAt ns n S).toArray 3 (0, 0)) ∧ w.heap.size ≤ T ∧ Below w.heap.size w w' := by
  obtain ⟨h, hh⟩ := hN.last
  have hne : zs ≠ [] := by
    intro e
    subst e
    have := hN.pos
    simp at hn
    omega
  have hM : Hid (max (1024 : Int) (4 * (n : Int)) = ((max 1024 (4 * n) : Nat) : Int)) := by show _ = _; omega
  have hsm := hN.small
  by_cases hc : h < max 1024 (4 * n)
  · refine (index_any b off n cap (max 1024 (4 * n)) (h + 1) h zs ns w hns hne hn hN.pos hN.small hb hI hN.up hN.nonneg hM hh (.inl ⟨by omega, by omega⟩) (by omega) (by omega)).mono ?_
    rintro e w' ⟨g, c, T, rfl, h1, h2, h3, h4⟩
    exact ⟨g, c, T, h + 1, rfl, by omega, h1, h2, h3, h4⟩
  · refine (index_any b off n cap (max 1024 (4 * n)) (max 1024 (4 * n)) h zs ns w hns hne hn hN.pos hN.small hb hI hN.up hN.nonneg hM hh (.inr ⟨by omega, rfl⟩) (by omega) (by omega)).mono ?_
    rintro e w' ⟨g, c, T, rfl, h1, h2, h3, h4⟩
    exact ⟨g, c, T, _, rfl, by omega, h1, h2, h3, h4⟩

theorem row_base {w : World} {base base' n : Nat} {e : TypeId} {v : Value} {xs : List Value} (h : w.ownsRow base e 1 v n xs) (hb : base' ≤ base) : w.ownsRow base' e 1 v n xs := by
  refine ⟨h.1, ?_⟩
  rcases h.2 with h1 | ⟨g', cap, cur, h1, h2, h3⟩
  · exact .inl h1
  · exact .inr ⟨g', cap, cur, h1, by omega, h3⟩

set_option maxHeartbeats 1000000 in
set_option maxRecDepth 100000 in
/-- NewHintSets(nodes), the nodes being good. -/
theorem newHintSets_any (b off n cap : Nat) (zs ns : List Int) (w : World) (hns : srt zs = ns) (hn : zs.length = n) (hN : Nodes ns n) (hb : b < w.heap.size) (hI : ∀ j, j < zs.length → w.cell? ⟨b, off + j, .none⟩ = some (.int .i64 (zs[j]?.getD 0))) :
    Calls Tryf.prog 10 #[.slice (some ⟨b, off, .none⟩) n cap] w fun e w' => ∃ H g c T S, e = .returned (.tuple #[.pointer (some ⟨H, 0, .none⟩), .nilIface]) ∧ S ≤ 1048576 ∧ HS w' H g T n S c ns (.slice none 0 0) [] 0 .nilIface ∧ w.heap.size ≤ H ∧ w.heap.size ≤ g ∧ w.heap.size ≤ T ∧ Below w.heap.size w w' := by
  have hX := index_some b off n cap zs ns w hns hn hN hb hI
  clear hI
  go_enter Tryf.func10, Tryf.ntmps10
  go_wp2_with (first
    | (go_at_call 23; refine hX.mono ?_; rintro e w1 ⟨g, c, T, S, rfl, hS, hrow, hT, hTl, hb1⟩)
    | fail)
  go_ret2
  have hsz := hb1.size
  have hTl1 := heap_lt hT
  refine ⟨w1.heap.size + 1, g, c, T, S, rfl, hS, ⟨?_, ((row_base hrow (Nat.zero_le _)).alloc _).alloc _, ?_, World.ownsRow_nil _ _ _ _⟩, by omega, (hrow.lt g rfl).1, hTl, (hb1.alloc hsz _).alloc (by simp; omega) _⟩
  · have := heap_alloc_new (w1.alloc (.cells #[.slice (some ⟨g, 0, .none⟩) n c, .slice (some ⟨T, 0, .none⟩) S S] 50)) (.cells #[.slice (some ⟨g, 0, .none⟩) n c, .slice (some ⟨T, 0, .none⟩) S S, .slice none 0 0, .int .i64 0, .nilIface] 55)
    rw [World.size_alloc] at this
    exact this
  · rw [Below.heap_alloc _ _ _ (by simp; omega), Below.heap_alloc _ _ _ hTl1]; exact hT
end Go.Proofs.Qxb6613881aFmt
