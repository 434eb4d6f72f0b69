/-
  numalign: recordsMatchB1.
-/
import Derived.Test.Qxb6613881aFmtSeen
import Derived.Test.Qxb6613881aFmtForgets
namespace Go.Proofs.Qxb6613881aFmt
open Go.RowKit
set_option linter.unusedVariables false

theorem info4 : (Tryf.prog.info? 4).map (fun i => (i.zero, i.size, i.bytes)) = some (some (.bool false), 1, 1) := by kernel_rfl
abbrev vb (bs : List Bool) : List Value := bs.map Value.bool
/-- The flags: position p is among the ids'. -/
def flags (ns ids : List Int) (n : Nat) : List Bool := (List.range n).map fun p => hits ns ids p
theorem flags_length (ns ids : List Int) (n : Nat) : (flags ns ids n).length = n := by simp [flags]
theorem flags_nil (ns : List Int) (n : Nat) : flags ns [] n = List.replicate n false := by
  apply List.ext_getElem
  · simp [flags]
  · intro i h1 h2
    simp [flags, hits]
theorem flags_get (ns ids : List Int) (n p : Nat) (hp : p < n) : (flags ns ids n)[p]? = some (hits ns ids p) := by
  simp [flags, hp]
theorem flags_set (ns ids : List Int) (n : Nat) (x : Int) (hx : ns.idxOf x < n) : (flags ns ids n).set (ns.idxOf x) true = flags ns (ids ++ [x]) n := by
  apply List.ext_getElem
  · simp [flags]
  · intro i h1 h2
    rw [List.getElem_set]
    simp only [flags, List.getElem_map, List.getElem_range]
    unfold hits
    rw [List.any_append]
    by_cases e : ns.idxOf x = i
    · simp [e]
    · simp [e]
theorem flags_same (ns ids : List Int) (n : Nat) (x : Int) (h : hits ns ids (ns.idxOf x) = true) : flags ns (ids ++ [x]) n = flags ns ids n := by
  apply List.ext_getElem
  · simp [flags]
  · intro i h1 h2
    simp only [flags, List.getElem_map, List.getElem_range]
    unfold hits at h ⊢
    rw [List.any_append]
    by_cases e : ns.idxOf x = i
    · subst e; rw [h]; rfl
    · simp [e]
/-- While clearing: those of the first j ids are struck. -/
def clr (ns ids : List Int) (j n : Nat) : List Bool := (List.range n).map fun p => hits ns ids p && !hits ns (ids.take j) p
theorem clr_zero (ns ids : List Int) (n : Nat) : clr ns ids 0 n = flags ns ids n := by
  simp [clr, flags, hits]
theorem clr_full (ns ids : List Int) (n : Nat) : clr ns ids ids.length n = List.replicate n false := by
  apply List.ext_getElem
  · simp [clr]
  · intro i h1 h2
    simp [clr]
theorem clr_length (ns ids : List Int) (j n : Nat) : (clr ns ids j n).length = n := by simp [clr]
theorem clr_set (ns ids : List Int) (j n : Nat) (hj : j < ids.length) (hx : ns.idxOf (ids[j]?.getD 0) < n) : (clr ns ids j n).set (ns.idxOf (ids[j]?.getD 0)) false = clr ns ids (j + 1) n := by
  apply List.ext_getElem
  · simp [clr]
  · intro i h1 h2
    rw [List.getElem_set]
    simp only [clr, List.getElem_map, List.getElem_range]
    have e2 : ids.take (j + 1) = ids.take j ++ [ids[j]?.getD 0] := by
      rw [List.take_succ_eq_append_getElem hj, List.getElem?_eq_getElem hj]; rfl
    have e3 : hits ns (ids.take (j + 1)) i = (hits ns (ids.take j) i || decide (ns.idxOf (ids[j]?.getD 0) = i)) := by
      rw [e2]; unfold hits; rw [List.any_append]; simp
    rw [e3]
    by_cases e : ns.idxOf (ids[j]?.getD 0) = i
    · simp [e]
    · simp [e]
theorem str_at {rs : List UInt8} {s : ByteArray} {i : Nat} {y : UInt8} {z : Int} (hs : s = ⟨rs.toArray⟩) (hy : rs[i]? = some y) (hz : z = (i : Int)) (w : World) : (Instr.index 9 (.string s) (.int .i64 z)).run Tryf.prog w = .ok (.int .u8 (y.toNat : Int)) w := by
  subst hs hz
  obtain ⟨hi, e⟩ := List.getElem?_eq_some_iff.1 hy
  have hsz : (ByteArray.mk rs.toArray).size = rs.length := by simp [ByteArray.size]
  rw [run_index_string w 9 _ .i64 _ Tryf.underlying9, dif_pos ⟨by omega, by rw [hsz]; omega⟩]
  rw [← e]
  rfl
theorem vb_cell {w : World} {g : Nat} {L : List Bool} (h : w.heap[g]? = some (.cells (vb L).toArray 4 (0, 0))) {j : Nat} {y : Bool} (hj : L[j]? = some y) : w.cell? ⟨g, j, .none⟩ = some (.bool y) := by
  rw [cell_of_row _ _ _ _ _ (0, 0) h, List.getElem?_toArray, List.getElem?_map, hj]; rfl
theorem vb_set {w : World} {g j : Nat} {L L' : List Bool} {y : Bool} (h : w.heap[g]? = some (.cells (vb L).toArray 4 (0, 0))) (e : L.set j y = L') : (w.setCell ⟨g, j, .none⟩ (.bool y)).heap[g]? = some (.cells (vb L').toArray 4 (0, 0)) := by
  subst e
  rw [heap_setCell_same _ _ _ _ _ _ h]
  congr 2
  apply Array.ext'
  simp [vb, List.map_set]
theorem vb_made {w : World} {base n : Nat} (h : w.ownsRow base 4 1 (.slice (some ⟨base, 0, .none⟩) n n) n (madeCells (Value.bool false).cells (n * 1)).toList) : w.heap[base]? = some (.cells (vb (List.replicate n false)).toArray 4 (0, 0)) := by
  rw [made_list _ rfl, Nat.mul_one] at h
  have := (own_full h).1
  rw [this]
  simp [vb]

theorem sl_eq (n : Nat) : ((n : Int) + 7) / 8 = (((n + 7) / 8 : Nat) : Int) := by omega
theorem idx_small {ns : List Int} {n sl : Nat} {x : Int} (hn : ns.length = n) (hsl : (n + 7) / 8 = sl) (hx : x ∈ ns) : ns.idxOf x < n ∧ ns.idxOf x < 8 * sl := by
  have := List.idxOf_lt_length_of_mem hx
  omega
theorem mem_of_known {ns ids : List Int} (h : known ns ids = true) : ∀ x ∈ ids, x ∈ ns := by
  intro x hx
  unfold known at h
  have := List.all_eq_true.1 h x hx
  simpa using this
theorem ok_at {ns : List Int} {hl : List (List Int)} {k : Nat} (h : okAll ns hl = true) (hk : k < hl.length) : known ns (hl[k]?.getD []) = true := by
  unfold okAll at h
  have := List.all_eq_true.1 h hl[k] (List.getElem_mem hk)
  rw [List.getElem?_eq_getElem hk]
  simp at this
  exact this.2
/-- The first b bytes' bits. -/
def sumTo (bs : List UInt8) (b : Nat) : Nat := pcSum (bs.take b)
theorem sumTo_succ (bs : List UInt8) (b : Nat) (y : UInt8) (h : bs[b]? = some y) : sumTo bs (b + 1) = sumTo bs b + pc y := by
  obtain ⟨hb, e⟩ := List.getElem?_eq_some_iff.1 h
  unfold sumTo pcSum
  rw [List.take_succ_eq_append_getElem hb, List.map_append, List.sum_append, e]
  simp
theorem pc_le (b : UInt8) : pc b ≤ 8 := by
  have := pcTo_le b 8
  exact this
theorem sumTo_le (bs : List UInt8) : ∀ b, sumTo bs b ≤ 8 * b := by
  intro b
  induction b with
  | zero => simp [sumTo, pcSum]
  | succ b ih =>
    cases h : bs[b]? with
    | none =>
      have e : bs.take (b + 1) = bs.take b := by
        have hl := List.getElem?_eq_none_iff.1 h
        rw [List.take_of_length_le (by omega), List.take_of_length_le hl]
      unfold sumTo at ih ⊢
      rw [e]; omega
    | some y =>
      rw [sumTo_succ bs b y h]
      have := pc_le y
      omega
end Go.Proofs.Qxb6613881aFmt
