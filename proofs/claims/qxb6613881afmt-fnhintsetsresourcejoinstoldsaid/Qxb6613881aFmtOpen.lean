/-
  numalign: what comes in, opened: ints, bools, rows of ints.
-/
import Derived.Test.Qxb6613881aFmtForgets
import Derived.WalkKit
import Derived.ProofKit
import Derived.OpenShut
import Derived.Deep.Grids
import Derived.Deep.Matrix
namespace Go.Proofs.Qxb6613881aFmt
open Go.ChangeShapes Go.WideShapes Go.ChangeAt Go.RowKit
set_option linter.unusedVariables false

theorem plain_addr {w : World} {x : Addr} {k : Nat} {f : Nat → Value} (h : ∀ i, i < k → w.cell? (x.add i) = some (f i)) (hk : 0 < k) : ∃ b off, x = ⟨b, off, .none⟩ ∧ ∀ i, i < k → w.cell? ⟨b, off + i, .none⟩ = some (f i) := by
  obtain ⟨b, off, spot⟩ := x
  have hspot : spot = none := by simpa [Addr.add] using World.cell?_spot (h 0 hk)
  subst hspot
  exact ⟨b, off, rfl, fun j hj => by rw [← Go.WideShapes.add_plain]; exact h j hj⟩
theorem wf_i64' {n : Int} (h : (Lit.int .i64 n).wf = true) : inI64 n := by
  unfold inI64
  have e : IntKind.i64.min = -9223372036854775808 := by decide
  simp [Lit.wf, e] at h
  omega
/-- A slice whose first 'len' cells are f's. -/
theorem rd_open {w : World} {x : Addr} {len cap : Nat} {f : Nat → Value} (hl : len ≤ cap) (h : ∀ i, i < cap → w.cell? (x.add i) = some (f i)) (vs : List Value) (hv : vs.length = len) (hf : ∀ i, i < len → vs[i]? = some (f i)) : Rd w.heap.size w (some x) vs := by
  by_cases h0 : len = 0
  · subst h0
    exact .inl (List.eq_nil_of_length_eq_zero hv)
  · obtain ⟨b, off, rfl, hc⟩ := plain_addr h (by omega)
    refine .inr ⟨b, off, rfl, cell_lt' (hc 0 (by omega)), fun j v hj => ?_⟩
    have hj' : j < len := by have := (List.getElem?_eq_some_iff.1 hj).1; omega
    rw [hc j (by omega), ← hf j hj', hj]
theorem ints_open {w : World} {a : Option Addr} {len cap : Nat} {zs : List Int} (h : (a = none ∧ len = 0 ∧ cap = 0 ∧ zs = []) ∨ ∃ x, a = some x ∧ len ≤ cap ∧ cap ≤ maxLen ∧ zs.length = cap ∧ (∀ i, i < zs.length → w.cell? (x.add i) = some (.int .i64 (zs.getD i 0)))) :
    Rd w.heap.size w a (vi (zs.take len)) ∧ (zs.take len).length = len ∧ (a = none → len = 0) ∧ len ≤ 9223372036854775807 := by
  rcases h with ⟨rfl, rfl, rfl, rfl⟩ | ⟨x, rfl, hl, hm, rfl, hc⟩
  · exact ⟨.inl rfl, rfl, fun _ => rfl, by omega⟩
  · refine ⟨rd_open (f := fun i => .int .i64 (zs.getD i 0)) hl hc _ (by simp; omega) (fun i hi => ?_), by simp; omega, fun h => (by cases h), (by unfold maxLen at hm; omega)⟩
    rw [List.getElem?_map, List.getElem?_take_of_lt hi, List.getElem?_eq_getElem (by omega), List.getD_eq_getElem?_getD, List.getElem?_eq_getElem (by omega)]
    rfl
theorem bools_open {w : World} {a : Option Addr} {len cap : Nat} {Bf : Nat → Bool} (h : (a = none ∧ len = 0 ∧ cap = 0) ∨ ∃ x, a = some x ∧ len ≤ cap ∧ cap ≤ maxLen ∧ (∀ i, i < cap → w.cell? (x.add i) = some (.bool (Bf i)))) :
    Rd w.heap.size w a (((List.range len).map Bf).map Value.bool) ∧ ((List.range len).map Bf).length = len ∧ len ≤ 9223372036854775807 := by
  rcases h with ⟨rfl, rfl, rfl⟩ | ⟨x, rfl, hl, hm, hc⟩
  · exact ⟨.inl rfl, rfl, by omega⟩
  · refine ⟨rd_open (f := fun i => .bool (Bf i)) hl hc _ (by simp) (fun i hi => ?_), by simp, by unfold maxLen at hm; omega⟩
    rw [List.getElem?_map, List.getElem?_map, List.getElem?_range hi]
    rfl
theorem rows_open {w : World} {a : Option Addr} {len cap : Nat} {A : Nat → Option Addr} {L C : Nat → Nat} {Z : Nat → List Int}
    (h : (a = none ∧ len = 0 ∧ cap = 0) ∨ ∃ x, a = some x ∧ len ≤ cap ∧ cap ≤ maxLen ∧ ∀ r, r < cap → w.cell? (x.add r) = some (.slice (A r) (L r) (C r)) ∧ L r ≤ C r ∧ C r ≤ maxLen ∧ (Z r).length = C r ∧ (∀ n ∈ Z r, (Lit.int .i64 n).wf = true) ∧ (A r = none → C r = 0) ∧
        ∀ a', A r = some a' → ∀ c, c < C r → w.cell? (a'.add c) = some (.int .i64 ((Z r).getD c 0))) :
    Rows0 w.heap.size w a len ((List.range len).map fun r => (Z r).take (L r)) ∧ len ≤ 9223372036854775807 := by
  rcases h with ⟨rfl, rfl, rfl⟩ | ⟨x, rfl, hl, hm, hc⟩
  · exact ⟨⟨rfl, [], rfl, .inl rfl, fun k v h hv => by cases hv⟩, by omega⟩
  · refine ⟨⟨by simp, (List.range len).map (fun r => (A r, L r, C r)), by simp, ?_, ?_⟩, by unfold maxLen at hm; omega⟩
    · refine rd_open (f := fun r => .slice (A r) (L r) (C r)) hl (fun i hi => (hc i hi).1) _ (by simp) (fun i hi => ?_)
      rw [List.getElem?_map, List.getElem?_map, List.getElem?_range hi]
      rfl
    · intro k v h hv hh
      have hk : k < len := by have := (List.getElem?_eq_some_iff.1 hv).1; simpa using this
      rw [List.getElem?_map, List.getElem?_range hk] at hv hh
      simp at hv hh
      subst hv hh
      obtain ⟨q1, q2, q3, q4, q5, q6, q7⟩ := hc k (by omega)
      refine ⟨?_, by simp; omega, by unfold maxLen at q3; simp; omega, fun y hy => wf_i64' (q5 y (List.mem_of_mem_take hy))⟩
      cases hA : A k with
      | none =>
        have hL : L k = 0 := by have := q6 hA; omega
        rw [hL]
        exact .inl (by simp)
      | some a' =>
        refine rd_open (f := fun c => .int .i64 ((Z k).getD c 0)) q2 (q7 a' hA) _ (by simp; omega) (fun i hi => ?_)
        rw [List.getElem?_map, List.getElem?_take_of_lt hi, List.getElem?_eq_getElem (by omega), List.getD_eq_getElem?_getD, List.getElem?_eq_getElem (by omega)]
        rfl

set_option maxHeartbeats 4000000 in
set_option maxRecDepth 100000 in
/-- Forgets at nil nodes. -/
theorem walk3_nil (c NA ca PA pca NB cb PB pcb : Nat) (ha pa hb pb : Option Addr) (zs : List Int) (hA hB : List (List Int)) (psA psB : List Bool) (w : World)
    (hin : Inp w none 0 zs ha NA hA pa PA psA hb NB hB pb PB psB) :
    Calls Tryf.prog 3 #[.slice none 0 c, .slice ha NA ca, .slice pa PA pca, .slice hb NB cb, .slice pb PB pcb] w fun e w' => e = .returned (.bool true) ∧ Below w.heap.size w w' := by
  have HIN := hide hin
  clear hin
  go_enter Tryf.func3, Tryf.ntmps3
  go_wp2_with fail
  refine (zz5_any w.heap.size 0 c NA ca PA pca NB cb PB pcb _ ha pa hb pb hA hB w HIN.out.rA HIN.out.rB HIN.out.m1 HIN.out.m2 HIN.out.m3 HIN.out.m4 HIN.out.m5).mono ?_
  rintro e w' ⟨rfl | rfl, rfl⟩
  rotate_left
  · go_wp2_with fail
    go_ret
    exact ⟨rfl, Below.refl _ _⟩
  go_wp2_with fail
  refine (over_any w.heap.size 0 c NA ca PA pca NB cb PB pcb _ ha pa hb pb hA hB w HIN.out.rA HIN.out.rB HIN.out.m1 HIN.out.m2 HIN.out.m3 HIN.out.m4 HIN.out.m5).mono ?_
  rintro e w' ⟨rfl, rfl | ⟨rfl, _⟩⟩
  · go_wp2_with fail
    go_ret
    exact ⟨rfl, Below.refl _ _⟩
  go_wp2_with fail
  refine (sortedCopy_any w.heap.size 0 c none zs w (Nat.le_refl _) HIN.out.rd HIN.out.len (by decide)).mono ?_
  rintro e w4 ⟨rfl, hs4, hb4⟩
  go_wp2_with fail
  refine (valid_any w.heap.size 0 0 (srt zs) w4 (fun j hj => absurd hj (Nat.not_lt_zero _)) (by rw [srt_length]; exact HIN.out.len) (srt_sorted zs) (by decide)).mono ?_
  rintro e w' ⟨⟨md, rfl⟩, ⟨rfl, hgood⟩ | rfl⟩
  · exact absurd (List.eq_nil_of_length_eq_zero (by rw [srt_length]; exact HIN.out.len)) hgood.1
  · go_wp2_with fail
    go_ret
    exact ⟨rfl, below_drewN' hb4 _⟩
theorem trodAll_five {H : Type} {enc : TypeId × Value → H} {P : Program} {w : World} {base : Nat} {spare : Nat → Bool} {held : Bool} {t0 t1 t2 t3 t4 : TypeId} {args : Array Value} {ds : List (DataW H)} {ps : List MemPlace} (h : DataW.TrodAll enc P w base spare held [t0, t1, t2, t3, t4] args.toList ds ps) :
    ∃ v0 v1 v2 v3 v4 d0 d1 d2 d3 d4 p0 p1 p2 p3 p4, args = #[v0, v1, v2, v3, v4] ∧ ds = [d0, d1, d2, d3, d4] ∧ ps = p0 ++ p1 ++ p2 ++ p3 ++ p4 ∧ DataW.Trod enc P w base spare held t0 v0 d0 p0 ∧ DataW.Trod enc P w base spare held t1 v1 d1 p1 ∧ DataW.Trod enc P w base spare held t2 v2 d2 p2 ∧ DataW.Trod enc P w base spare held t3 v3 d3 p3 ∧ DataW.Trod enc P w base spare held t4 v4 d4 p4 := by
  obtain ⟨v0, vs0, d0, e0, p0, q0, hargs, rfl, rfl, k0, r0⟩ := trodAll_cons h
  obtain ⟨v1, vs1, d1, e1, p1, q1, rfl, rfl, rfl, k1, r1⟩ := trodAll_cons r0
  obtain ⟨v2, vs2, d2, e2, p2, q2, rfl, rfl, rfl, k2, r2⟩ := trodAll_cons r1
  obtain ⟨v3, vs3, d3, e3, p3, q3, rfl, rfl, rfl, k3, r3⟩ := trodAll_cons r2
  obtain ⟨v4, vs4, d4, e4, p4, q4, rfl, rfl, rfl, k4, r4⟩ := trodAll_cons r3
  obtain ⟨rfl, rfl, rfl⟩ := trodAll_nil r4
  exact ⟨v0, v1, v2, v3, v4, d0, d1, d2, d3, d4, p0, p1, p2, p3, p4, by cases args; simp_all, rfl, by simp, k0, k1, k2, k3, k4⟩
theorem cells22 : Tryf.prog.cellsOf 22 = 1 := by kernel_rfl
theorem cells3 : Tryf.prog.cellsOf 3 = 1 := by kernel_rfl
theorem cells4 : Tryf.prog.cellsOf 4 = 1 := by kernel_rfl
theorem arg_ints {H : Type} {enc : TypeId × Value → H} {W : World} {a : Option Addr} {n c : Nat} {d : DataW H} {p : List MemPlace} (h : DataW.Trod enc Tryf.prog W 0 (fun _ => true) true 22 (.slice a n c) d p) :
    ∃ zs : List Int, Rd W.heap.size W a (vi zs) ∧ zs.length = n ∧ (a = none → n = 0) ∧ n ≤ 9223372036854775807 := by
  obtain ⟨fuel, hf⟩ := h
  rcases open_ints Tryf.underlying22 Tryf.underlying3 cells3 hf with ⟨hcs, _⟩ | ⟨x, l, c', zs, hcs, _, hl, hm, hz, _, hcell, hwz⟩
  · simp [Value.cells] at hcs
    obtain ⟨rfl, rfl, rfl⟩ := hcs
    exact ⟨_, ints_open (zs := []) (.inl ⟨rfl, rfl, rfl, rfl⟩)⟩
  · simp [Value.cells] at hcs
    obtain ⟨rfl, rfl, rfl⟩ := hcs
    exact ⟨_, ints_open (.inr ⟨_, rfl, hl, hm, by simpa using hz, hcell⟩)⟩
theorem arg_bools {H : Type} {enc : TypeId × Value → H} {W : World} {a : Option Addr} {n c : Nat} {d : DataW H} {p : List MemPlace} (h : DataW.Trod enc Tryf.prog W 0 (fun _ => true) true 24 (.slice a n c) d p) :
    ∃ ps : List Bool, Rd W.heap.size W a (ps.map Value.bool) ∧ ps.length = n ∧ n ≤ 9223372036854775807 := by
  obtain ⟨fuel, hf⟩ := h
  rcases Go.Deep.open_bools Tryf.underlying24 Tryf.underlying4 cells4 hf with ⟨hcs, _⟩ | ⟨x, l, c', Bf, hcs, _, hl, hm, _, hcell⟩
  · simp [Value.cells] at hcs
    obtain ⟨rfl, rfl, rfl⟩ := hcs
    exact ⟨_, bools_open (Bf := fun _ => false) (.inl ⟨rfl, rfl, rfl⟩)⟩
  · simp [Value.cells] at hcs
    obtain ⟨rfl, rfl, rfl⟩ := hcs
    exact ⟨_, bools_open (.inr ⟨_, rfl, hl, hm, hcell⟩)⟩
theorem arg_rows {H : Type} {enc : TypeId × Value → H} {W : World} {a : Option Addr} {n c : Nat} {d : DataW H} {p : List MemPlace} (h : DataW.Trod enc Tryf.prog W 0 (fun _ => true) true 23 (.slice a n c) d p) :
    ∃ hl : List (List Int), Rows0 W.heap.size W a n hl ∧ n ≤ 9223372036854775807 := by
  obtain ⟨fuel, hf⟩ := h
  rcases Go.Deep.open_int_rows Tryf.underlying23 Tryf.underlying22 Tryf.underlying3 cells22 cells3 hf with ⟨hcs, _⟩ | ⟨x, l, c', A, L, C, Z, hcs, _, hl, hm, _, hr⟩
  · simp [Value.cells] at hcs
    obtain ⟨rfl, rfl, rfl⟩ := hcs
    exact ⟨_, rows_open (A := fun _ => none) (L := fun _ => 0) (C := fun _ => 0) (Z := fun _ => []) (.inl ⟨rfl, rfl, rfl⟩)⟩
  · simp [Value.cells] at hcs
    obtain ⟨rfl, rfl, rfl⟩ := hcs
    refine ⟨_, rows_open (A := A) (L := L) (C := C) (Z := Z) (.inr ⟨_, rfl, hl, hm, fun r hrr => ?_⟩)⟩
    obtain ⟨q1, q2, q3, q4, q5, q6, q7⟩ := hr r hrr
    exact ⟨q1, q2, q3, q4, q5, q6, fun a' ha' => (q7 a' ha').2⟩
end Go.Proofs.Qxb6613881aFmt
