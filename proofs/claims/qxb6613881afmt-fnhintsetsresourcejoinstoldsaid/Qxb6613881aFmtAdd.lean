/-
  numalign: nodeIndex.position, addTo.
-/
import Derived.Test.Qxb6613881aFmtState
namespace Go.Proofs.Qxb6613881aFmt
open Go.RowKit
set_option linter.unusedVariables false

theorem cell_lt' {w : World} {b o : Nat} {v : Value} (h : w.cell? ⟨b, o, .none⟩ = some v) : b < w.heap.size := World.block_lt_of_cell? w ⟨b, o, .none⟩ h
theorem countP_at {ns : List Int} (hs : ns.Pairwise (· < ·)) {i : Nat} (hi : i < ns.length) : ns.countP (· < ns[i]?.getD 0) = i := by
  have e : ns.countP (· < ns[i]?.getD 0) = (ns.take i).countP (· < ns[i]?.getD 0) + (ns.drop i).countP (· < ns[i]?.getD 0) := by
    rw [← List.countP_append, List.take_append_drop]
  rw [e, List.countP_eq_length.2, List.countP_eq_zero.2]
  · simp; omega
  · intro x hx
    obtain ⟨j, hj, ej⟩ := List.getElem_of_mem hx
    rw [List.getElem_drop] at ej
    have hj' : i + j < ns.length := by simp at hj; omega
    have : ns[i]?.getD 0 ≤ ns[i + j]?.getD 0 := by
      by_cases h0 : j = 0
      · subst h0; exact Int.le_refl _
      · have := pair_lt hs (i := i) (j := i + j) (by omega) hj'; omega
    rw [List.getElem?_eq_getElem hj'] at this
    simp at this
    simp
    omega
  · intro x hx
    have := take_mem_lt hs hi hx
    simpa using this
theorem posOf_search {ns : List Int} (hs : ns.Pairwise (· < ·)) (id : Int) : posOf ns id = if ns.contains id = true then ((ns.countP (· < id) : Nat) : Int) else -1 := by
  by_cases h : id ∈ ns
  · obtain ⟨i, hi, e⟩ := List.getElem_of_mem h
    have e' : ns[i]?.getD 0 = id := by rw [List.getElem?_eq_getElem hi]; exact e
    rw [if_pos (by simpa using h), ← e', posOf_hit hs hi, countP_at hs hi]
  · rw [if_neg (by simpa using h)]
    unfold posOf
    rw [if_neg h]

/-- search(id). -/
theorem search_any (H g n c : Nat) (id : Int) (ns : List Int) (w : World) (hN : Nodes ns n) (h0 : w.cell? ⟨H, 0, .none⟩ = some (.slice (some ⟨g, 0, .none⟩) n c)) (hc : ∀ j, j < n → w.cell? ⟨g, j, .none⟩ = some (.int .i64 (ns[j]?.getD 0))) :
    Calls Tryf.prog 67 #[.pointer (some ⟨H, 0, .none⟩), .int .i64 id] w fun e w' => e = .returned (.int .i64 (posOf ns id)) ∧ ∃ q, w.drewN q = w' := by
  have hl := hN.len
  have hsm := hN.small
  have hB := Tryf.slices_BinarySearch_int g 0 n c ns id w (by omega) (by omega) (fun j hj => by rw [Nat.zero_add, hc j (by omega), List.getD_eq_getElem?_getD]) (by rw [List.take_of_length_le (by omega)]; exact hN.up.imp (fun h => by omega))
  rw [List.take_of_length_le (by omega)] at hB
  have hp := posOf_search hN.up id
  have HN := hide hN
  clear hc hN hl hsm
  by_cases hm : ns.contains id = true
  · rw [if_pos hm] at hp
    rw [hm] at hB
    clear hm
    have HP := hide hp
    clear hp
    go_enter Tryf.func67, Tryf.ntmps67
    go_wp2_with (first | (go_at_call 74; refine hB.mono ?_; rintro e w1 ⟨rfl, q, rfl⟩) | fail)
    go_ret
    exact ⟨ret_int HP.out, q, rfl⟩
  · rw [if_neg hm] at hp
    rw [Bool.eq_false_iff.2 hm] at hB
    clear hm
    have HP := hide hp
    clear hp
    go_enter Tryf.func67, Tryf.ntmps67
    go_wp2_with (first | (go_at_call 74; refine hB.mono ?_; rintro e w1 ⟨rfl, q, rfl⟩) | fail)
    go_ret
    exact ⟨ret_int HP.out, q, rfl⟩

def inI64 (z : Int) : Prop := -9223372036854775808 ≤ z ∧ z < 9223372036854775808
theorem wrapU_pos {id : Int} {S : Nat} (h0 : 0 ≤ id) (h : id < S) (hS : S ≤ 1048576) : IntKind.u64.wrap id < (S : Int) := by
  have e : IntKind.u64.wrap id = id % 18446744073709551616 := IntKind.wrap_u64 id
  rw [e]; omega
theorem wrapU_neg {id : Int} {S : Nat} (hi : inI64 id) (h : ¬ (0 ≤ id ∧ id < S)) (hS : S ≤ 1048576) : (S : Int) ≤ IntKind.u64.wrap id := by
  have e : IntKind.u64.wrap id = id % 18446744073709551616 := IntKind.wrap_u64 id
  rw [e]; unfold inI64 at hi; omega
theorem tbl_cell {w : World} {T S n : Nat} {ns : List Int} (hl : ns.length = n) (hT : w.heap[T]? = some (.cells (tblAt ns n S).toArray 3 (0, 0))) {j : Nat} (hj : j < S) : w.cell? ⟨T, j, .none⟩ = some (.int .i64 (posOf ns (j : Int))) := by
  rw [cell_of_row _ _ _ _ _ (0, 0) hT, List.getElem?_toArray, List.getElem?_eq_getElem (by rw [tblAt_length]; exact hj)]
  simp [tblAt, ← hl]

/-- position(id). -/
theorem position_any (H g T S n c : Nat) (id : Int) (ns : List Int) (w : World) (hN : Nodes ns n) (h0 : w.cell? ⟨H, 0, .none⟩ = some (.slice (some ⟨g, 0, .none⟩) n c)) (h1 : w.cell? ⟨H, 1, .none⟩ = some (.slice (some ⟨T, 0, .none⟩) S S)) (hS : S ≤ 1048576) (hc : ∀ j, j < n → w.cell? ⟨g, j, .none⟩ = some (.int .i64 (ns[j]?.getD 0)))
    (hT : w.heap[T]? = some (.cells (tblAt ns n S).toArray 3 (0, 0))) (hid : inI64 id) :
    Calls Tryf.prog 53 #[.pointer (some ⟨H, 0, .none⟩), .int .i64 id] w fun e w' => e = .returned (.int .i64 (posOf ns id)) ∧ ∃ q, w.drewN q = w' := by
  by_cases h : 0 ≤ id ∧ id < S
  · have hw := wrapU_pos h.1 h.2 hS
    obtain ⟨j, rfl⟩ := Int.eq_ofNat_of_zero_le h.1
    have hjS : (j : Int) < S := h.2
    have hcT := tbl_cell hN.len hT (Int.ofNat_lt.1 h.2)
    clear hc hT h
    go_enter Tryf.func53, Tryf.ntmps53
    go_wp2_with fail
    go_ret
    exact ⟨rfl, 0, rfl⟩
  · have hw := wrapU_neg hid h hS
    clear hT
    go_enter Tryf.func53, Tryf.ntmps53
    go_wp2_with (first | (go_at_call 67; refine (search_any H g n c id ns _ hN h0 hc).mono ?_; rintro e w1 ⟨rfl, q, rfl⟩) | fail)
    go_ret
    exact ⟨rfl, q, rfl⟩
end Go.Proofs.Qxb6613881aFmt
