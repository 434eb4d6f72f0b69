/-
  numalign: the errors: fmt.Errorf at the three formats of the road, hintError, nodeIndex.unknown: each hands back SOME error that is not nil, whatever text fmt gives; nothing that was there turns.
-/
import Derived.Test.Qxb6613881aFmtRows
import Derived.WalkKit
import Derived.WalkSpells
import Derived.WalkLawsBesides
import Derived.ProofKit
import Derived.Stop.CallBack
import Derived.Stop.IfaceNil
import Derived.Laws.Cells
import Derived.Deep.WholeRow
import Derived.Deep.DeepMust
import Derived.Outline
namespace Go.Proofs.Qxb6613881aFmt
open Go.RowKit
open Go.Extern.Stop Go.Stop Go.Extern
set_option linter.unusedVariables false

theorem hide {p : Prop} (h : p) : Hid p := h
theorem call36 (args : Array Value) (w : World) : (callFunc 36 args).run Tryf.prog w = ((FmtStop.errorf #[9, 78] #[31] args).run Tryf.prog w).andThen fun v w' => .ok (.value v) w' :=
  run_callFunc_extern Tryf.func36 (by kernel_rfl) (by kernel_rfl) (by kernel_rfl) (by kernel_rfl) args w
theorem fmtGuard (name : String) (w : World) : (FmtStop.guard name).run Tryf.prog w = .ok () w := by kernel_rfl
theorem ptr73 (w : World) : (FmtStop.ptrTo "errors.errorString").run Tryf.prog w = .ok 73 w := by kernel_rfl
theorem elem73 (w : World) : (elemOf 73).run Tryf.prog w = .ok 75 w := by kernel_rfl
theorem ptr79 (w : World) : (FmtStop.ptrTo "fmt.wrapError").run Tryf.prog w = .ok 79 w := by kernel_rfl
theorem elem79 (w : World) : (elemOf 79).run Tryf.prog w = .ok 141 w := by kernel_rfl
theorem isError73 (w : World) : (FmtDoors.textMethod 73 "Error").run Tryf.prog w = .ok true w := by kernel_rfl

theorem fmtA (w : World) : (FmtDoors.printed ⟨#[104, 105, 110, 116, 115, 91, 37, 100, 93, 32, 110, 97, 109, 101, 115, 32, 110, 111, 32, 110, 111, 100, 101]⟩ 1).run Tryf.prog w = .ok [(0, 100, false)] w := by kernel_rfl
theorem fmtB (w : World) : (FmtDoors.printed ⟨#[104, 105, 110, 116, 115, 91, 37, 100, 93, 58, 32, 37, 119]⟩ 2).run Tryf.prog w = .ok [(0, 100, false), (1, 119, false)] w := by kernel_rfl

theorem op3 (name : String) (x : Int) (w : World) : (FmtStop.operand name true 100 false (.iface 3 (.int .i64 x))).run Tryf.prog w = .ok ([5, 3, 0, 0, 0, 0, 0, 0, 0, 105, 110, 116], digits 8 (x % 18446744073709551616).toNat) w := by kernel_rfl
theorem run_cells_list (g n c : Nat) (vs : List Value) (w : World) (hn : vs.length = n) (hc : ∀ j v, vs[j]? = some v → w.cell? ⟨g, j, .none⟩ = some v) :
    (FmtStop.cells (.slice (some ⟨g, 0, .none⟩) n c)).run Tryf.prog w = .ok vs w := by
  subst hn
  have := run_loadCells_list (P := Tryf.prog) w ⟨g, 0, .none⟩ vs (fun j v hv => by rw [Go.WideShapes.add_plain, Nat.zero_add]; exact hc j v hv)
  simp [FmtStop.cells, this]
/-- Whatever fmt writes. -/
theorem run_text (name : String) (head : List (List UInt8)) (ops : List (List UInt8 × List UInt8)) (w : World) :
    ∃ s w1, (FmtStop.text name head ops).run Tryf.prog w = .ok (.string s) w1 ∧ (w1 = w ∨ w1 = w.drew) := by
  unfold FmtStop.text
  generalize (Question.extern (word name (head ++ ops.flatMap fun (ty, v) => [ty, v]) 0) 0) = q
  by_cases h : q.forced = true
  · exact ⟨_, w, by simp [h, FmtStop.str_eq, Result.andThen]; rfl, .inl rfl⟩
  · exact ⟨_, w.drew, by simp [h, FmtStop.str_eq, Result.andThen]; rfl, .inr rfl⟩
theorem newVar75 (s : ByteArray) (w : World) : (newVar 75 (.agg #[.string s])).run Tryf.prog w = .ok ⟨w.heap.size, 0, .none⟩ (w.alloc (.cells #[.string s] 75)) := by kernel_rfl
theorem newVar141 (s : ByteArray) (v : Value) (w : World) : (newVar 141 (.agg #[.string s, v])).run Tryf.prog w = .ok ⟨w.heap.size, 0, .none⟩ (w.alloc (.cells #[.string s, v] 141)) := by kernel_rfl
theorem errorf_A (j : Int) (w : World) (g : Nat) (hc : w.cell? ⟨g, 0, .none⟩ = some (.iface 3 (.int .i64 j))) :
    ∃ s w1, (w1 = w ∨ w1 = w.drew) ∧ (callFunc 36 #[.string ⟨#[104, 105, 110, 116, 115, 91, 37, 100, 93, 32, 110, 97, 109, 101, 115, 32, 110, 111, 32, 110, 111, 100, 101]⟩, .slice (some ⟨g, 0, .none⟩) 1 1]).run Tryf.prog w =
      .ok (.value (.iface 73 (.pointer (some ⟨w1.heap.size, 0, .none⟩)))) (w1.alloc (.cells #[.string s] 75)) := by
  have hcs := run_cells_list g 1 1 [.iface 3 (.int .i64 j)] w rfl (fun i v hv => by
    match i, hv with
    | 0, hv => simp at hv; subst hv; exact hc)
  obtain ⟨s, w1, ht, hw⟩ := run_text "fmt.errorf" [[104, 105, 110, 116, 115, 91, 37, 100, 93, 32, 110, 97, 109, 101, 115, 32, 110, 111, 32, 110, 111, 100, 101]] [([5, 3, 0, 0, 0, 0, 0, 0, 0, 105, 110, 116], digits 8 (j % 18446744073709551616).toNat)] w
  refine ⟨s, w1, hw, ?_⟩
  rw [call36, FmtStop.errorf_lit]
  simp only [Sem.run_bind, fmtGuard, hcs, Result.andThen]
  simp [fmtA, FmtStop.readAll, op3, Result.andThen]
  rw [ht]
  simp only [ptr73, elem73, newVar75]
theorem op73w (name : String) (a : Addr) (s : ByteArray) (w : World) (hc : w.cell? a = some (.string s)) :
    ∃ t, (FmtStop.operand name true 119 false (.iface 73 (.pointer (some a)))).run Tryf.prog w = .ok (t, s.data.toList) w := by
  have h1 : (typeStr 73).run Tryf.prog w = .ok "*errors.errorString" w := by kernel_rfl
  have d2 : Tryf.t73.desc = .pointer 75 := rfl
  have d3 : Tryf.t75.desc = .named "errors.errorString" 74 := rfl
  exact ⟨_, by simp [FmtStop.operand, h1, d2, d3, run_load, hc]; rfl⟩
theorem errorf_B (j : Int) (a : Addr) (s0 : ByteArray) (w : World) (g : Nat) (hc : w.cell? ⟨g, 0, .none⟩ = some (.iface 3 (.int .i64 j))) (hc1 : w.cell? ⟨g, 1, .none⟩ = some (.iface 73 (.pointer (some a)))) (ha : w.cell? a = some (.string s0)) :
    ∃ s w1, (w1 = w ∨ w1 = w.drew) ∧ (callFunc 36 #[.string ⟨#[104, 105, 110, 116, 115, 91, 37, 100, 93, 58, 32, 37, 119]⟩, .slice (some ⟨g, 0, .none⟩) 2 2]).run Tryf.prog w =
      .ok (.value (.iface 79 (.pointer (some ⟨w1.heap.size, 0, .none⟩)))) (w1.alloc (.cells #[.string s, .iface 73 (.pointer (some a))] 141)) := by
  have hcs := run_cells_list g 2 2 [.iface 3 (.int .i64 j), .iface 73 (.pointer (some a))] w rfl (fun i v hv => by
    match i, hv with
    | 0, hv => simp at hv; subst hv; exact hc
    | 1, hv => simp at hv; subst hv; exact hc1)
  obtain ⟨t, hop⟩ := op73w "fmt.errorf" a s0 w ha
  obtain ⟨s, w1, ht, hw⟩ := run_text "fmt.errorf" [[104, 105, 110, 116, 115, 91, 37, 100, 93, 58, 32, 37, 119]] [([5, 3, 0, 0, 0, 0, 0, 0, 0, 105, 110, 116], digits 8 (j % 18446744073709551616).toNat), (t, s0.data.toList)] w
  refine ⟨s, w1, hw, ?_⟩
  rw [call36, FmtStop.errorf_lit]
  simp only [Sem.run_bind, fmtGuard, hcs, Result.andThen]
  simp [fmtB, FmtStop.readAll, op3, hop, Result.andThen]
  rw [ht]
  simp [isError73, ptr79, elem79, newVar141]
theorem fmtC (w : World) : (FmtDoors.printed ⟨#[110, 111, 100, 101, 32, 37, 100, 32, 105, 115, 32, 110, 111, 116, 32, 111, 110, 101, 32, 111, 102, 32, 116, 104, 101, 32, 109, 97, 99, 104, 105, 110, 101, 39, 115, 32, 78, 85, 77, 65, 32, 110, 111, 100, 101, 115, 32, 37, 118]⟩ 2).run Tryf.prog w = .ok [(0, 100, false), (1, 118, false)] w := by kernel_rfl
theorem value3 (name : String) (x : Int) (w : World) : (FmtStop.value name FmtStop.depth 3 [.int .i64 x]).run Tryf.prog w = .ok (digits 8 (x % 18446744073709551616).toNat) w := by kernel_rfl
theorem values3 (name : String) (w : World) : ∀ xs : List Int, (List.mapM ((fun c => FmtStop.value name FmtStop.depth 3 [c]) ∘ Value.int IntKind.i64) xs).run Tryf.prog w = .ok (xs.map fun x => digits 8 (x % 18446744073709551616).toNat) w
  | [] => by simp [List.mapM_nil]
  | x :: xs => by
    have ih := values3 name w xs
    have h := value3 name x w
    simp [List.mapM_cons, h, ih, Result.andThen]
theorem op22 (name : String) (a : Addr) (cap : Nat) (xs : List Int) (w : World) (hc : ∀ j v, (xs.map (Value.int .i64))[j]? = some v → w.cell? (a.add j) = some v) :
    ∃ t v, (FmtStop.operand name true 118 false (.iface 22 (.slice (some a) xs.length cap))).run Tryf.prog w = .ok (t, v) w := by
  have h1 : (typeStr 22).run Tryf.prog w = .ok "[]int" w := by kernel_rfl
  have d2 : Tryf.t22.desc = .slice 3 := rfl
  have hb : (FmtStop.bare (FmtStop.asked true 118 false) 22).run Tryf.prog w = .ok true w := by kernel_rfl
  have hs : (FmtStop.scalar 3).run Tryf.prog w = .ok true w := by kernel_rfl
  have hy : (Extern.Stop.isByte 3).run Tryf.prog w = .ok false w := by kernel_rfl
  have hsh : (FmtStop.shape name (FmtStop.asked true 118 false) FmtStop.depth 3).run Tryf.prog w = .ok [5, 3, 0, 0, 0, 0, 0, 0, 0, 105, 110, 116] w := by kernel_rfl
  have hl := run_loadCells_list (P := Tryf.prog) w a (xs.map (Value.int .i64)) hc
  rw [List.length_map] at hl
  exact ⟨_, _, by simp [FmtStop.operand, h1, hb, hs, hy, hsh, hl, values3]; exact ⟨rfl, rfl⟩⟩
theorem errorf_C (id : Int) (a : Addr) (cap : Nat) (xs : List Int) (w : World) (g : Nat) (hc : w.cell? ⟨g, 0, .none⟩ = some (.iface 3 (.int .i64 id))) (hc1 : w.cell? ⟨g, 1, .none⟩ = some (.iface 22 (.slice (some a) xs.length cap))) (ha : ∀ j v, (xs.map (Value.int .i64))[j]? = some v → w.cell? (a.add j) = some v) :
    ∃ s w1, (w1 = w ∨ w1 = w.drew) ∧ (callFunc 36 #[.string ⟨#[110, 111, 100, 101, 32, 37, 100, 32, 105, 115, 32, 110, 111, 116, 32, 111, 110, 101, 32, 111, 102, 32, 116, 104, 101, 32, 109, 97, 99, 104, 105, 110, 101, 39, 115, 32, 78, 85, 77, 65, 32, 110, 111, 100, 101, 115, 32, 37, 118]⟩, .slice (some ⟨g, 0, .none⟩) 2 2]).run Tryf.prog w =
      .ok (.value (.iface 73 (.pointer (some ⟨w1.heap.size, 0, .none⟩)))) (w1.alloc (.cells #[.string s] 75)) := by
  have hcs := run_cells_list g 2 2 [.iface 3 (.int .i64 id), .iface 22 (.slice (some a) xs.length cap)] w rfl (fun i v hv => by
    match i, hv with
    | 0, hv => simp at hv; subst hv; exact hc
    | 1, hv => simp at hv; subst hv; exact hc1)
  obtain ⟨t, v, hop⟩ := op22 "fmt.errorf" a cap xs w ha
  obtain ⟨s, w1, ht, hw⟩ := run_text "fmt.errorf" [[110, 111, 100, 101, 32, 37, 100, 32, 105, 115, 32, 110, 111, 116, 32, 111, 110, 101, 32, 111, 102, 32, 116, 104, 101, 32, 109, 97, 99, 104, 105, 110, 101, 39, 115, 32, 78, 85, 77, 65, 32, 110, 111, 100, 101, 115, 32, 37, 118]] [([5, 3, 0, 0, 0, 0, 0, 0, 0, 105, 110, 116], digits 8 (id % 18446744073709551616).toNat), (t, v)] w
  refine ⟨s, w1, hw, ?_⟩
  rw [call36, FmtStop.errorf_lit]
  simp only [Sem.run_bind, fmtGuard, hcs, Result.andThen]
  simp [fmtC, FmtStop.readAll, op3, hop, Result.andThen]
  rw [ht]
  simp only [ptr73, elem73, newVar75]

/-- fmt.Errorf hands on what the stop gives, where that is not nil. -/
theorem errorf30 (f : ByteArray) (a : Value) (t : TypeId) (p : Value) (w w2 : World) (h : (callFunc 36 #[.string f, a]).run Tryf.prog w = .ok (.value (.iface t p)) w2) :
    Calls Tryf.prog 30 #[.string f, a] w fun e w' => e = .returned (.iface t p) ∧ w2 = w' := by
  go_enter Tryf.func30, Tryf.ntmps30
  go_wp2
  go_ret
  exact ⟨rfl, rfl⟩
theorem below_of {B : Nat} {w w1 : World} (h : w1 = w ∨ w1 = w.drew) (o : Obj) (hB : B ≤ w.heap.size) : Below B w (w1.alloc o) := by
  rcases h with rfl | rfl
  · exact (Below.refl _ _).alloc hB _
  · exact (Below.refl _ _).drew.alloc hB _
/-- hintError(j, nil). -/
theorem hintError_nil (j : Int) (w : World) :
    Calls Tryf.prog 38 #[.int .i64 j, .nilIface] w fun e w' => (∃ p, e = .returned (.iface 73 p)) ∧ Below w.heap.size w w' := by
  obtain ⟨s, w1, hw, hrun⟩ := errorf_A j (w.alloc (.cells #[.iface 3 (.int .i64 j)] 20)) w.heap.size (by simp [go_sem])
  have HR := hide hrun
  clear hrun
  go_enter Tryf.func38, Tryf.ntmps38
  go_wp2_with (go_at_call 30; refine (errorf30 _ _ _ _ _ _ HR.out).mono ?_; rintro e w' ⟨rfl, rfl⟩)
  go_ret
  exact ⟨⟨_, rfl⟩, ((Below.refl _ w).alloc (Nat.le_refl _) _).trans (below_of hw _ (by simp))⟩
/-- hintError(j, err), err an error of errors.New's make. -/
theorem hintError_err (j : Int) (a : Addr) (s0 : ByteArray) (w : World) (ha : w.cell? a = some (.string s0)) (hl : a.block < w.heap.size) (hsp : a.spot = .none) :
    Calls Tryf.prog 38 #[.int .i64 j, .iface 73 (.pointer (some a))] w fun e w' => (∃ p, e = .returned (.iface 79 p)) ∧ Below w.heap.size w w' := by
  obtain ⟨b, o, sp⟩ := a
  simp only at hsp hl
  subst hsp
  obtain ⟨s, w1, hw, hrun⟩ := errorf_B j ⟨b, o, .none⟩ s0 (w.alloc (.cells #[.iface 3 (.int .i64 j), .iface 73 (.pointer (some ⟨b, o, .none⟩))] 20)) w.heap.size (by simp [go_sem]) (by simp [go_sem]) (by rw [World.cell?_alloc_past _ _ _ hl]; exact ha)
  have HR := hide hrun
  clear hrun ha
  go_enter Tryf.func38, Tryf.ntmps38
  go_wp2_with (go_at_call 30; refine (errorf30 _ _ _ _ _ _ HR.out).mono ?_; rintro e w' ⟨rfl, rfl⟩)
  go_ret
  exact ⟨⟨_, rfl⟩, ((Below.refl _ w).alloc (Nat.le_refl _) _).trans (below_of hw _ (by simp))⟩
/-- unknown(id): an error of errors.New's make, in new memory. -/
theorem unknown_any (b off n cap : Nat) (tb : Value) (id : Int) (xs : List Int) (w : World) (hn : xs.length = n) (hb : b < w.heap.size) (hc : ∀ j v, (xs.map (Value.int .i64))[j]? = some v → w.cell? ⟨b, off + j, .none⟩ = some v) :
    Calls Tryf.prog 54 #[.agg #[.slice (some ⟨b, off, .none⟩) n cap, tb], .int .i64 id] w fun e w' => (∃ g s, e = .returned (.iface 73 (.pointer (some ⟨g, 0, .none⟩))) ∧ w'.cell? ⟨g, 0, .none⟩ = some (.string s)) ∧ Below w.heap.size w w' := by
  subst hn
  obtain ⟨s, w1, hw, hrun⟩ := errorf_C id ⟨b, off, .none⟩ cap xs ((w.alloc (.cells #[.slice (some ⟨b, off, .none⟩) xs.length cap, tb] 50)).alloc (.cells #[.iface 3 (.int .i64 id), .iface 22 (.slice (some ⟨b, off, .none⟩) xs.length cap)] 20)) (w.heap.size + 1) (by simp [go_sem]) (by simp [go_sem]) (fun j v hj => by
    rw [Go.WideShapes.add_plain, World.cell?_alloc_past _ _ _ (by simp; omega), World.cell?_alloc_past _ _ _ hb]; exact hc j v hj)
  have HR := hide hrun
  clear hrun hc
  go_enter Tryf.func54, Tryf.ntmps54
  go_wp2_with (go_at_call 30; refine (errorf30 _ _ _ _ _ _ HR.out).mono ?_; rintro e w' ⟨rfl, rfl⟩)
  go_ret
  refine ⟨⟨_, s, rfl, ?_⟩, (((Below.refl _ w).alloc (Nat.le_refl _) _).alloc (by simp) _).trans (below_of hw _ (by simp; omega))⟩
  simp [go_sem]
end Go.Proofs.Qxb6613881aFmt
