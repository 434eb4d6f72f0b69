/-
  numalign: slices.Repeat([]int{-1}, size).
-/
import Derived.Test.Qxb6613881aFmtParts
import Derived.Test.Qxb6613881aFmtShelf
import Derived.Deep.RegionLaw
import Derived.BigRegion
import Derived.Shelf.Spec.SlicesInsert
namespace Go.Proofs.Qxb6613881aFmt
open Go.RowKit
set_option linter.unusedVariables false

theorem cut_from_run (t e : TypeId) (ht : Tryf.prog.underlying t = some (.slice e)) (hz : ∀ w, (sizeOf e).run Tryf.prog w = .ok 1 w) (a : Option Addr) (len cap l : Nat) (h1 : l ≤ len) (w : World) :
    (Instr.slice t (.slice a len cap) (some (.int .i64 (l : Int))) .none .none).run Tryf.prog w = .ok (.slice (if cap = l then a else a.map (·.add l)) (len - l) (cap - l)) w := by
  simp [Instr.slice, run_underlying ht, Instr.sliceBounds, run_sliceBound, h1, hz]
theorem cut_lo (t e : TypeId) (ht : Tryf.prog.underlying t = some (.slice e)) (hz : ∀ w, (sizeOf e).run Tryf.prog w = .ok 1 w) (g len cap l : Nat) (h1 : l ≤ len) (h2 : l < cap) (w : World) :
    (Instr.slice t (.slice (some ⟨g, 0, .none⟩) len cap) (some (.int .i64 (l : Int))) .none .none).run Tryf.prog w = .ok (.slice (some ⟨g, l, .none⟩) (len - l) (cap - l)) w := by
  rw [cut_from_run t e ht hz _ _ _ _ h1, if_neg (by omega), Option.map_some, Go.WideShapes.add_plain, Nat.zero_add]
theorem cut_hi (t e : TypeId) (ht : Tryf.prog.underlying t = some (.slice e)) (hz : ∀ w, (sizeOf e).run Tryf.prog w = .ok 1 w) (g len cap l : Nat) (h1 : l ≤ len) (h2 : len ≤ cap) (w : World) :
    (Instr.slice t (.slice (some ⟨g, 0, .none⟩) len cap) .none (some (.int .i64 (l : Int))) .none).run Tryf.prog w = .ok (.slice (some ⟨g, 0, .none⟩) l cap) w := by
  have h3 : l ≤ cap := by omega
  simp [Instr.slice, run_underlying ht, Instr.sliceBounds, run_sliceBound, h3, hz, Addr.add]

def rep (k S : Nat) : List Value := List.replicate k (.int .i64 (-1)) ++ List.replicate (S - k) (.int .i64 0)
theorem rep_length {k S : Nat} (h : k ≤ S) : (rep k S).length = S := by simp [rep]; omega
theorem rep_get {k S j : Nat} (h : j < k) : (rep k S)[j]? = some (.int .i64 (-1)) := by simp [rep, List.getElem?_append_left, h]
theorem rep_step {k m S : Nat} (h : k + m ≤ S) : (rep k S).take k ++ List.replicate m (.int .i64 (-1)) ++ (rep k S).drop (k + m) = rep (k + m) S := by
  have e1 : (rep k S).take k = List.replicate k (.int .i64 (-1)) := by
    unfold rep; rw [List.take_append_of_le_length (by simp)]; simp
  have e2 : (rep k S).drop (k + m) = List.replicate (S - (k + m)) (.int .i64 0) := by
    unfold rep
    rw [List.drop_append, List.drop_eq_nil_of_le (by simp), List.nil_append, List.length_replicate, List.drop_replicate]
    congr 1
    omega
  rw [e1, e2]
  unfold rep
  rw [← List.replicate_append_replicate]
/-- The copy of a round. -/
theorem copy_round (g k S : Nat) (ty : TypeId) (w : World) (hg : w.heap[g]? = some (.cells (rep k S).toArray 3 (0, 0))) (hk : 0 < k) (hS : k < S) :
    (Builtin.copy_ #[22, 22] ty #[.slice (some ⟨g, k, .none⟩) (S - k) (S - k), .slice (some ⟨g, 0, .none⟩) k S]).run Tryf.prog w =
      .ok (.int .i64 ((min k (S - k) : Nat) : Int)) (w.setRow g (rep (k + min k (S - k)) S).toArray) := by
  have hl : (List.replicate (min k (S - k)) (Value.int .i64 (-1))).length = min k (S - k) := by simp
  have h := run_copy_row (P := Tryf.prog) w 22 22 ty 3 g k (S - k) (S - k) ⟨g, 0, .none⟩ k S (rep k S).toArray 3 (List.replicate (min k (S - k)) (.int .i64 (-1))) Tryf.underlying22 size3 hg (by rw [hl])
    (fun j v hj => by
      have hj' : j < min k (S - k) := by have := (List.getElem?_eq_some_iff.1 hj).1; simpa using this
      rw [Go.WideShapes.add_plain, cell_of_row _ _ _ _ 3 (0, 0) hg, Nat.zero_add]
      rw [List.getElem?_toArray, rep_get (by omega), ← hj, List.getElem?_replicate, if_pos hj'])
    (by rw [hl]; simp [rep_length (Nat.le_of_lt hS)]; omega) (fun v hv => by rw [List.eq_of_mem_replicate hv]; rfl)
  rw [h, hl, List.toList_toArray, rep_step (by omega)]
  rfl

theorem made_list (v : Value) (hv : v.cells = #[v]) (n : Nat) : (madeCells v.cells n).toList = List.replicate n v := by
  rw [hv]
  simp [madeCells]
  apply List.ext_getElem
  · simp
  · intro i h1 h2
    simp [Nat.mod_one]
theorem made_full {w : World} {base g n : Nat} {k : IntKind} {e : TypeId} (h : w.ownsRow base e 1 (.slice (some ⟨g, 0, .none⟩) n n) n (madeCells (Value.int k 0).cells (n * 1)).toList) :
    w.heap[g]? = some (.cells (List.replicate n (Value.int k 0)).toArray e (0, 0)) := by
  rw [made_list _ rfl, Nat.mul_one] at h
  exact (own_full h).1
theorem rep_one (S : Nat) (h : 0 < S) : splice (List.replicate S (Value.int .i64 0)) 0 [.int .i64 (-1)] = rep 1 S := by
  simp [splice, rep, List.drop_replicate]
theorem wrap_min {k S : Nat} (hk : k ≤ S) (hS : S ≤ 1048576) : IntKind.i64.wrap ((k : Int) + ((min k (S - k) : Nat) : Int)) = ((k + min k (S - k) : Nat) : Int) := by
  rw [IntKind.wrap_i64]; omega
theorem min_less {k S : Nat} (hk0 : 0 < k) (hlt : k < S) (hS : S ≤ 1048576) : S - (intOf (.int .i64 (IntKind.i64.wrap ((k : Int) + ((min k (S - k) : Nat) : Int))))).toNat < S - (intOf (.int .i64 (k : Int))).toNat := by
  rw [wrap_min (by omega) hS]; simp [intOf]; omega
theorem mixedO : Tryf.prog.follows .mixedOrders = true := by kernel_rfl
theorem rep_zero (S : Nat) : rep 0 S = List.replicate S (.int .i64 0) := by simp [rep]
theorem rep_full (S : Nat) : rep S S = List.replicate S (.int .i64 (-1)) := by simp [rep]
theorem size_setRow' (w : World) (g : Nat) (cs : Array Value) : (w.setRow g cs).heap.size = w.heap.size := by simp

set_option maxHeartbeats 1000000 in
set_option maxRecDepth 100000 in
/-- slices.Repeat([]int{-1}, S), 0 < S. -/
theorem repeat_any (b S : Nat) (w : World) (hb : b < w.heap.size) (hc : w.cell? ⟨b, 0, .none⟩ = some (.int .i64 (-1))) (hS0 : 0 < S) (hS : S ≤ 1048576) :
    Calls Tryf.prog 31 #[.slice (some ⟨b, 0, .none⟩) 1 1, .int .i64 (S : Int)] w fun e w' => ∃ g, e = .returned (.slice (some ⟨g, 0, .none⟩) S S) ∧ w'.heap[g]? = some (.cells (List.replicate S (Value.int .i64 (-1))).toArray 3 (0, 0)) ∧ w.heap.size ≤ g ∧ Below w.heap.size w w' := by
  obtain ⟨i0, hi, hz0, hz1, hz2⟩ := info_parts info3
  have hM := Tryf.bits_Mul 1 S (by omega) (by omega) w
  rw [Nat.one_mul, Nat.div_eq_of_lt (by omega), Nat.mod_eq_of_lt (by omega)] at hM
  have hr : Rd w.heap.size w (some ⟨b, 0, .none⟩) [.int .i64 (-1)] := .inr ⟨b, 0, rfl, hb, fun j v hj => by
    match j, hj with
    | 0, hj => simp at hj; subst hj; exact hc⟩
  have hmin : [Value.int .i64 (-1)].length = Nat.min 1 S := by simp [Nat.min_def]; omega
  clear hc
  have mixed : Tryf.prog.follows .mixedOrders = true := mixedO
  go_enter Tryf.func31, Tryf.ntmps31
  go_wp2_with (first
    | (go_at_call 37; refine hM.mono ?_; rintro e w' ⟨rfl, rfl⟩)
    | (at_make; go_must (refine wpList_make_full _ rfl _ _ 22 rfl w'.heap.size 3 i0 (.int .i64 0) 1 Tryf.underlying22 hi hz0 hz1 .i64 .i64 _ _ S rfl rfl rfl rfl (by rw [hz2]; omega) (by unfold maxLen; omega) (Nat.le_refl _) ?_); intro w2 hrow2 hg2; have hfull := made_full hrow2; have hfit : 0 + [Value.int .i64 (-1)].length ≤ (List.replicate S (Value.int .i64 0)).length := (by simp; omega); have hb2 : Below w'.heap.size w' w2 := (Below.refl _ w').grown hg2 (Nat.le_refl _) (fun j hj => by cases hj))
    | (show wpList _ _ _ ({ dst := _, op := .call { callee := .builtin .copy, args := _, argTypes := _ }, type := _, pos := _, after := _, guard := _ } :: _) _ _; go_must (refine wpList_copy_splice rfl _ _ 22 22 rfl 3 Tryf.underlying22 size3 _ _ _ _ _ _ rfl rfl w'.heap.size 0 (List.replicate S (Value.int .i64 0)) 3 hfull [.int .i64 (-1)] hmin (hr.src hb2) hfit (ints_oneCell .i64 [-1]) w'.heap.size w' hb2 (Nat.le_refl _) ?_); intro w3 HG3 hb3)
    | fail)
  have hg3 : w3.heap[w'.heap.size]? = some (.cells (rep 1 S).toArray 3 (0, 0)) := by rw [← rep_one S hS0]; exact HG3.out
  have HS0 := hide hS0
  have HSL := hide hS
  clear hM hr hmin hfull hfit hb2 hrow2 hg2 HG3 hb hS0 hS
  go_loopw [8] (fun i wr => ∃ k : Nat, 0 < k ∧ k ≤ S ∧ i = .int .i64 k ∧ wr.heap[w'.heap.size]? = some (.cells (rep k S).toArray 3 (0, 0)) ∧ Below w'.heap.size w' wr) (fun i _ => S - (intOf i).toNat)
  case atStart => exact ⟨1, by omega, HS0.out, by rw [show Nat.min 1 S = 1 from Nat.min_eq_left HS0.out], hg3, hb3⟩
  case round =>
    obtain ⟨k, hk0, hk, rfl, hgr, hbr⟩ := hrel
    by_cases hlt : k < S
    · have c1 := cut_lo 22 3 Tryf.underlying22 Tryf.sizeOf3 w'.heap.size S S k hk hlt
      have c2 := cut_hi 22 3 Tryf.underlying22 Tryf.sizeOf3 w'.heap.size S S k hk (Nat.le_refl _)
      have c3 := copy_round w'.heap.size k S 3 wr.drew hgr hk0 hlt
      have hlti : (k : Int) < S := Int.ofNat_lt.2 hlt
      clear hg3 hb3
      go_wp2_with fail
      go_region_law_o (refine step_copy_runI rfl (.tmp 41) (.tmp 44) 22 22 rfl (.slice (some ⟨w'.heap.size, k, .none⟩) (S - k) (S - k)) (.slice (some ⟨w'.heap.size, 0, .none⟩) k S) (by simp [Act.eval, Act.put]) (by simp [Act.eval, Act.put]) c3 ?_)
      go_wp2_with fail
      go_roundw
      case rel =>
        refine ⟨_, _, _, _, _, _, _, _, _, _, _, _, _, _, ?_, rfl⟩
        exact ⟨k + min k (S - k), by omega, by omega, congrArg (Value.int .i64) (wrap_min hk HSL.out), setRow_heap wr w'.heap.size _ _ 3 _ hgr, below_setRow hbr.drew (Nat.le_refl _) _⟩
      case measure => exact min_less hk0 hlt HSL.out
    · go_wp2
      go_ret
      exact ⟨w'.heap.size, rfl, (by have e : k = S := Nat.le_antisymm hk (Nat.le_of_not_lt hlt); rw [e, rep_full] at hgr; exact hgr), Nat.le_refl _, hbr⟩
end Go.Proofs.Qxb6613881aFmt
