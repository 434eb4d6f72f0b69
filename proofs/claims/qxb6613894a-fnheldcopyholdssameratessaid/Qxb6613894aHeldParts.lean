/-
  FnHeldCopyHoldsSameRates: the small laws: a map whose elements are pointers (they never leave the call), its copy.
-/
import Derived.Test.Qxb6613894aRows
import Derived.WalkKit
import Derived.WalkSpells
import Derived.WalkLawsBesides
import Derived.ProofKit
import Derived.LaidEql
import Derived.Maps.RangeWalk
import Derived.Maps.Ext
import Derived.Sort.KeysCollected
import Derived.Outline
namespace Go.Proofs.Qxb6613894a
open Go.RowKit Go.Maps
set_option linter.unusedVariables false

/-- How a pointer to a block's head reads, inside this proof: by the block's number. -/
def ptrElem : Value → Option (DataW Unit × List MemPlace)
  | .pointer none => some (.nil, [])
  | .pointer (some a) => if a.off = 0 ∧ a.spot = .none then some (.lit (.int .i64 a.block), []) else .none
  | _ => .none
def ptrOf : DataW Unit → Option Addr
  | .lit (.int _ n) => some ⟨n.toNat, 0, .none⟩
  | _ => .none
theorem ptrElem_inv {v : Value} {z : DataW Unit × List MemPlace} (h : ptrElem v = some z) : v = .pointer (ptrOf z.1) := by
  unfold ptrElem at h
  split at h
  · cases h; rfl
  · rename_i a
    split at h
    · rename_i hc
      obtain ⟨b, o, s⟩ := a
      obtain ⟨h1, h2⟩ := hc
      simp only at h1 h2
      subst h1 h2
      cases h
      simp [ptrOf]
    · cases h
  · cases h
theorem ptrElem_nil : ptrElem (.pointer .none) = some (.nil, []) := rfl
theorem ptrElem_mk (b : Nat) : ptrElem (.pointer (some ⟨b, 0, .none⟩)) = some (.lit (.int .i64 b), []) := by simp [ptrElem]

theorem law9 : Keyed Try.prog 9 := string_keyed Try.underlying9
theorem zero26 (w : World) : (zeroValue 26).run Try.prog w = .ok (.pointer .none) w := by kernel_rfl
theorem makeMap25 (n : Int) (w : World) : (Instr.makeMap 25 (some (.int .i64 n))).run Try.prog w = .ok (.map (some w.heap.size)) (w.alloc (.map #[] 0)) := by
  kernel_rfl
theorem info34 : (Try.prog.info? 34).isSome = true := by kernel_rfl
theorem equalIn_same (d : Nat) (p : Option Addr) (w : World) : (Op.equalIn (d + 1) 26 (.pointer p) (.pointer p)).run Try.prog w = .ok true w := by
  obtain ⟨j, hj⟩ := Option.isSome_iff_exists.1 info34
  cases p
  · simp [Op.equalIn, run_underlying Try.underlying26]
  · simp [Op.equalIn, run_underlying Try.underlying26, sizeOf, typeInfo, hj, run_sameAddr_same]
theorem neq_same (p : Option Addr) (w : World) : (binOp .neq 26 (.pointer p) (.pointer p)).run Try.prog w = .ok (.bool false) w := by
  have h : (Op.equal 26 (.pointer p) (.pointer p)).run Try.prog w = .ok true w := equalIn_same 9999 p w
  simp only [binOp]
  simp [h]
theorem invK (key : Value) (kl : Lit) (hk : keyOf Try.prog 9 key = some kl) : ∃ x, key = encStr x := by
  obtain ⟨x, hx, _⟩ := Maps.keyOf_str Try.underlying9 hk
  exact ⟨x, hx⟩
theorem invV (v : Value) (y : DataW Unit × List MemPlace) (hv : ptrElem v = some y) : ∃ c, v = Value.pointer c := ⟨_, ptrElem_inv hv⟩

theorem ownsMap_below {w w' : World} {b n B : Nat} {D : DataW Unit} (h : w.ownsMap Try.prog 9 ptrElem b n D) (hb : Below B w w') (hB : b < B) : w'.ownsMap Try.prog 9 ptrElem b n D := by
  obtain ⟨es, clock, hh, r⟩ := h
  exact ⟨es, clock, (hb.block b hB).trans hh, r⟩

/-- A map that has no key has no entry. -/
theorem size_zero {D : DataW Unit} (hc : Canon D) (h : ∀ kl, Maps.has D kl = false) : Maps.size D = 0 := by
  obtain ⟨es, rfl, _, hk⟩ := hc
  cases es with
  | nil => rfl
  | cons p r =>
    have := h p.1
    rw [Maps.has_eq, List.any_cons, WideAt.sameKey_self (hk p (by simp))] at this
    cases this

set_option maxRecDepth 100000 in
/-- heldRates.copy: the copy reads as the map does; what was there stays. -/
theorem copy_any (b n : Nat) (D0 : DataW Unit) (w : World) (hown : w.ownsMap Try.prog 9 ptrElem b n D0) (hn : n ≤ 1048576) :
    Calls Try.prog 12 #[.map (some b)] w fun e w' => e = .returned (.map (some w.heap.size)) ∧ w'.ownsMap Try.prog 9 ptrElem w.heap.size 1048576 D0 ∧ Below w.heap.size w w' := by
  have hmm := makeMap25
  have hbl := hown.lt
  have hmax := hown.size_le
  have e1 : (w.alloc (.map #[] 0)).heap.size = w.heap.size + 1 := by simp
  go_enter Try.func12, Try.ntmps12
  go_wp2_with (first
    | (at_len; refine wpList_len_own _ rfl _ 25 rfl 9 26 Try.underlying25 _ b n D0 rfl hown ?_)
    | (at_range; refine wpList_range_own _ rfl _ 25 rfl 9 26 law9 Try.underlying25 _ b n _ rfl (hown.alloc _) ?_; intro w0 hrg0 hg0 hs0)
    | go_in)
  go_frame
  rw [e1] at hrg0 hs0 ⊢
  go_loopw [4] (fun _ wr => ∃ (left : Lit → Bool) (cnt : Nat) (Dout : DataW Unit), wr.ranges Try.prog 9 ptrElem b (w.heap.size + 1) n D0 left cnt ∧ cnt ≤ Maps.size D0 ∧
      wr.ownsMap Try.prog 9 ptrElem w.heap.size (Maps.size D0 - cnt) Dout ∧ Agree Dout D0 left ∧ Below w.heap.size w wr)
    (fun _ wr => wr.rangeLeft b (w.heap.size + 1))
  case atStart =>
    exact ⟨_, _, .map [], hrg0, Nat.le_refl _, ((World.ownsMap_made _ _ _ _).kept hg0 (by simp)).mono (Nat.zero_le _), agree_start D0, ((Below.refl _ _).alloc (Nat.le_refl _) _).grown hg0 (by simp) (fun j hj => by cases hj)⟩
  case round =>
    obtain ⟨left, cnt, Dout, hrg, hcs, hout, hA, hnx⟩ := hrel
    go_wp2_with (first
      | (at_next; refine wpList_next_ranges _ rfl _ rfl 9 law9 ptrElem encStr Value.pointer invK invV b (w.heap.size + 1) n _ _ _ rfl hrg ?_ ?_)
      | go_in)
    · -- NOTHING IS LEFT
      intro hc0 hl0
      go_wp2
      go_ret
      subst hc0
      have e := agree_end hA hl0 (hout.canon law9) (hown.canon law9)
      subst e
      exact ⟨rfl, hout.mono (by omega), hnx⟩
    · -- AN ENTRY HAS COME: laid into the copy
      intro x c kl yd yp w1 cnt1 hkey hlx hv hat hrg1 hlt hg1 hs1 hen
      have hout1 := hout.kept hg1 (by simp)
      clear hs1
      go_wp2_with (first
        | (at_mapUpdate; refine wpList_mapUpdate_own _ rfl _ _ _ 25 rfl 9 26 law9 Try.underlying25 _ w.heap.size _ _ rfl hout1 (by unfold maxLen; omega) _ _ _ rfl rfl hkey _ yp hv ?_; intro w2 hout2 hg2; go_frame)
        | go_in)
      have hrg2 := hrg1.kept hg2 (fun e => by have := Option.some.inj e; omega) (fun e => by have := Option.some.inj e; omega)
      go_roundw
      case rel =>
        exact ⟨_, cnt1, _, hrg2, by omega, hout2.mono (by omega), agree_step hA hout.isMap (law9.key hkey) hat,
          (hnx.grown hg1 hnx.size (fun j hj => by cases hj; exact Nat.le_succ _)).grown hg2 (by have := hnx.size; have := hg1.size; omega) (fun j hj => by cases hj; exact Nat.le_refl _)⟩
      case measure => rw [hrg2.left_eq, hrg.left_eq]; exact hlt
end Go.Proofs.Qxb6613894a
