/-
  numalign: FnHintSetsResourceJoins at nil nodes.
-/
import Derived.Test.Qxb6613881aFmtJoins
import Derived.Test.Qxb6613881aFmtOpen
namespace Go.Proofs.Qxb6613881aFmt
open Go.RowKit
set_option linter.unusedVariables false

set_option maxHeartbeats 4000000 in
set_option maxRecDepth 100000 in
/-- Joins at nil nodes. -/
theorem walk4_nil (c NA ca PA pca NB cb PB pcb : Nat) (ha pa hb pb : Option Addr) (zs : List Int) (hA hB : List (List Int)) (psA psB : List Bool) (w : World)
    (hin : Inp w none 0 zs ha NA hA pa PA psA hb NB hB pb PB psB) :
    Calls Tryf.prog 4 #[.slice none 0 c, .slice ha NA ca, .slice pa PA pca, .slice hb NB cb, .slice pb PB pcb] w fun e w' => e = .returned (.bool true) ∧ Below w.heap.size w w' := by
  have HIN := hide hin
  clear hin
  go_enter Tryf.func4, Tryf.ntmps4
  go_wp2_with fail
  refine (zz20_any w.heap.size 0 c NA ca PA pca NB cb PB pcb _ ha pa hb pb hA hB w HIN.out.rA HIN.out.rB HIN.out.m1 HIN.out.m2 HIN.out.m3 HIN.out.m4 HIN.out.m5).mono ?_
  rintro e w' ⟨rfl | rfl, rfl⟩
  rotate_left
  · go_wp2_with fail
    go_ret
    exact ⟨rfl, Below.refl _ _⟩
  go_wp2_with fail
  refine (over_any w.heap.size 0 c NA ca PA pca NB cb PB pcb _ ha pa hb pb hA hB w HIN.out.rA HIN.out.rB HIN.out.m1 HIN.out.m2 HIN.out.m3 HIN.out.m4 HIN.out.m5).mono ?_
  rintro e w' ⟨rfl, rfl | ⟨rfl, _⟩⟩
  · go_wp2_with fail
    go_ret
    exact ⟨rfl, Below.refl _ _⟩
  go_wp2_with fail
  refine (sortedCopy_any w.heap.size 0 c none zs w (Nat.le_refl _) HIN.out.rd HIN.out.len (by decide)).mono ?_
  rintro e w4 ⟨rfl, hs4, hb4⟩
  go_wp2_with fail
  refine (valid_any w.heap.size 0 0 (srt zs) w4 (fun j hj => absurd hj (Nat.not_lt_zero _)) (by rw [srt_length]; exact HIN.out.len) (srt_sorted zs) (by decide)).mono ?_
  rintro e w' ⟨⟨md, rfl⟩, ⟨rfl, hgood⟩ | rfl⟩
  · exact absurd (List.eq_nil_of_length_eq_zero (by rw [srt_length]; exact HIN.out.len)) hgood.1
  · go_wp2_with fail
    go_ret
    exact ⟨rfl, below_drewN' hb4 _⟩
end Go.Proofs.Qxb6613881aFmt
