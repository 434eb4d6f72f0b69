/-
  numalign: slices.Sorted(slices.Values(ids)).
-/
import Derived.Test.Qxb6613881aFmtSeq
import Derived.Test.Qxb6613881aFmtShelf
import Derived.Lib.SlKeysI
namespace Go.Proofs.Qxb6613881aFmt
open Go.RowKit Go.Sort
set_option linter.unusedVariables false

/-- The ids, ascending. -/
def srt (zs : List Int) : List Int := zs.mergeSort fun x y => decide (x ≤ y)
theorem srt_length (zs : List Int) : (srt zs).length = zs.length := by simp [srt]

set_option maxHeartbeats 1000000 in
theorem sorted_any (Bs b off cap : Nat) (zs : List Int) (hne : zs ≠ []) (hlen : zs.length ≤ 1048576) (w : World)
    (hBs : Bs < w.heap.size) (hc : w.cell? ⟨Bs, 0, none⟩ = some (.slice (some ⟨b, off, none⟩) zs.length cap)) (hb : b < w.heap.size) (hI : ∀ j, j < zs.length → w.cell? ⟨b, off + j, none⟩ = some (.int .i64 (zs[j]?.getD 0))) :
    Calls Tryf.prog 28 #[.func (.func 35) #[] #[.pointer (some ⟨Bs, 0, none⟩)]] w fun e w' => ∃ g c, e = .returned (.slice (some ⟨g, 0, .none⟩) zs.length c) ∧ w'.ownsRow w.heap.size 3 1 (.slice (some ⟨g, 0, .none⟩) zs.length c) zs.length ((srt zs).map (Value.int .i64)) ∧ Below w.heap.size w w' := by
  have hC := collect_any Bs b off cap zs hlen w hBs hc hb hI
  clear hI hc
  go_enter Tryf.func28, Tryf.ntmps28
  go_wp2_with (go_at_call 33; refine hC.mono ?_; rintro e w1 ⟨v, rfl, hr, hn, hb1⟩; obtain ⟨g, c, cur, rfl, hbase, hgb, r1, r2, r3, r4⟩ : ∃ g c cur, v = .slice (some ⟨g, 0, none⟩) zs.length c ∧ w.heap.size ≤ g ∧ w1.heap[g]? = some (.cells cur 3 (0, 0)) ∧ zs.length ≤ c ∧ c ≤ maxLen ∧ cur.size = c * 1 ∧ cur.toList.take (zs.length * 1) = zs.map (Value.int .i64) := (by
      rcases hr.2 with ⟨h1, _⟩ | h
      · exact absurd (hn.1 h1) hne
      · exact h))
  have hS := Tryf.slices_Sort_int g 0 c zs w1 (holds_of_block_i hgb (by simpa using r4)) (Array.getElem?_eq_some_iff.1 hgb).1 (by omega)
  go_wp2_with (go_at_call 34; refine hS.mono ?_; rintro e w2 ⟨rfl, nn, os, rfl⟩)
  go_ret
  exact ⟨g, c, rfl, ownsRow_sorted_i (by simp) hbase hgb r1 r2 r3, hb1.grown (grownBy_sorted_i _) hb1.size (fun j hj => by cases hj; exact hbase)⟩
end Go.Proofs.Qxb6613881aFmt
