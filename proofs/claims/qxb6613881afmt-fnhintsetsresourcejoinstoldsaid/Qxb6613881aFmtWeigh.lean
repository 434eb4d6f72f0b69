/-
  numalign: addWeighed at one hint, Add.
-/
import Derived.Test.Qxb6613881aFmtRecord
namespace Go.Proofs.Qxb6613881aFmt
open Go.RowKit
set_option linter.unusedVariables false

/-- The error field: nil just where nothing has failed. -/
def ErrIs : Bool → Value → Prop
  | false, er => er = .nilIface
  | true, er => ∃ t p, er = .iface t p
/-- What a hint does to the records and to the failing. -/
def stepR (ns : List Int) (sl : Nat) (st : List UInt8 × Bool) (h : List Int × Bool) : List UInt8 × Bool :=
  if st.2 = true then st else if h.1 = [] ∨ known ns h.1 = false then (st.1, true) else (st.1 ++ recOf ns sl h.1 h.2, false)

theorem HS.set {w : World} {H g T n S c : Nat} {ns : List Int} {rv : Value} {rs : List UInt8} {add : Nat} {er : Value} (h : HS w H g T n S c ns rv rs add er) (j : Nat) (v : Value) (add' : Nat) (er' : Value)
    (hcs : (#[.slice (some ⟨g, 0, .none⟩) n c, .slice (some ⟨T, 0, .none⟩) S S, rv, .int .i64 (add : Int), er] : Array Value).setIfInBounds j v = #[.slice (some ⟨g, 0, .none⟩) n c, .slice (some ⟨T, 0, .none⟩) S S, rv, .int .i64 (add' : Int), er']) :
    HS (w.setCell ⟨H, j, .none⟩ v) H g T n S c ns rv rs add' er' ∧ Turn H rv rv w (w.setCell ⟨H, j, .none⟩ v) := by
  have hgl : g < w.heap.size := (h.ids.lt g rfl).2
  obtain ⟨gr, hgb, _, _⟩ := own_block h.ids
  have hgH : g ≠ H := fun e => by subst e; have := h.blk; rw [hgb] at this; simp at this
  have hTH : T ≠ H := fun e => by subst e; have := h.blk; rw [h.tbl] at this; simp at this
  have hHr := row_ne h.recs h.blk (by decide)
  refine ⟨⟨?_, row_keep h.ids (Nat.le_refl _) hgl (heap_setCell_other _ _ _ _ hgH), (heap_setCell_other _ _ _ _ hTH).trans h.tbl, ?_⟩, ⟨rfl, rfl, rfl, by simp, fun k hk h1 h2 => heap_setCell_other _ _ _ _ h1, .inl rfl⟩⟩
  · rw [heap_setCell_same _ _ _ _ _ _ h.blk, hcs]
  · exact h.recs.kept (row := some H) ⟨rfl, rfl, rfl, by simp, fun k hk h1 => heap_setCell_other _ _ _ _ (fun e => h1 (by rw [e]))⟩ (.inr (fun e => hHr e.symm))
theorem HS.bump {w : World} {H g T n S c : Nat} {ns : List Int} {rv : Value} {rs : List UInt8} {add : Nat} {er : Value} (h : HS w H g T n S c ns rv rs add er) :
    HS (w.setCell ⟨H, 3, .none⟩ (.int .i64 ((add : Int) + 1))) H g T n S c ns rv rs (add + 1) er ∧ Turn H rv rv w (w.setCell ⟨H, 3, .none⟩ (.int .i64 ((add : Int) + 1))) := h.set 3 _ (add + 1) er rfl
theorem HS.fail {w : World} {H g T n S c : Nat} {ns : List Int} {rv : Value} {rs : List UInt8} {add : Nat} {er : Value} (h : HS w H g T n S c ns rv rs add er) (er' : Value) :
    HS (w.setCell ⟨H, 4, .none⟩ er') H g T n S c ns rv rs add er' ∧ Turn H rv rv w (w.setCell ⟨H, 4, .none⟩ er') := h.set 4 _ add er' rfl
theorem HS.frozen {w : World} {H g T n S c : Nat} {ns : List Int} {rv : Value} {rs : List UInt8} {add : Nat} {er : Value} (h : HS w H g T n S c ns rv rs add er) (j : Nat) : w.frozen? ⟨H, j, .none⟩ = false := frozen_of_row _ _ _ _ _ h.blk
theorem HS.alloc {w : World} {H g T n S c : Nat} {ns : List Int} {rv : Value} {rs : List UInt8} {add : Nat} {er : Value} (h : HS w H g T n S c ns rv rs add er) (o : Obj) : HS (w.alloc o) H g T n S c ns rv rs add er := h.below ((Below.refl _ w).alloc (Nat.le_refl _) o)
theorem Turn.alloc {H : Nat} {r r' : Value} {w w' : World} (h : Turn H r r' w w') (o : Obj) : Turn H r r' w (w'.alloc o) := h.trans (.of_below ((Below.refl _ w').alloc (Nat.le_refl _) o))

set_option maxHeartbeats 1000000 in
/-- A hint behind one that failed: it is counted. -/
theorem aw_skip (H g T n S c Q : Nat) (ns : List Int) (rv : Value) (rs : List UInt8) (add : Nat) (t : TypeId) (p : Value) (a : Option Addr) (m cc : Nat) (pr : Bool) (w : World) (hs : HS w H g T n S c ns rv rs add (.iface t p)) (hQ : w.heap[Q]? = some (.cells #[.slice a m cc, .bool pr] 71 (0, 0))) (hadd : add ≤ 1048576) :
    Calls Tryf.prog 32 #[.pointer (some ⟨H, 0, .none⟩), .int .u8 1, .slice (some ⟨Q, 0, .none⟩) 1 1] w fun e w' => e = .returned (.tuple #[]) ∧ HS w' H g T n S c ns rv rs (add + 1) (.iface t p) ∧ Turn H rv rv w w' := by
  obtain ⟨k0, k1, k2, k3, k4⟩ := hs.cells
  have kf := hs.frozen 3
  have hHl := heap_lt hs.blk
  obtain ⟨⟨q0, q1⟩, _⟩ := two_cells hQ
  have hfin := hs.bump
  have HF := hide hfin
  clear hfin k0 k1 k2 hQ hs
  go_enter Tryf.func32, Tryf.ntmps32
  go_wp2
  refine wp_loop_rounds 2 ?_
  rw [rounds_succ]
  go_wp2_with fail
  rw [rounds_succ]
  go_wp2_with fail
  go_end0
  exact ⟨rfl, HF.out.1.alloc _, HF.out.2.alloc _⟩

/-- weighs: every hint is weighed. -/
theorem weighs_every (pr : Bool) (fv : Value) (w : World) : Calls Tryf.prog 42 #[.int .u8 1, .bool pr, fv] w fun e w' => e = .returned (.bool true) ∧ w = w' := by
  go_enter Tryf.func42, Tryf.ntmps42
  go_wp2
  go_ret
  exact ⟨rfl, rfl⟩

set_option maxHeartbeats 1000000 in
/-- A hint that names no node. -/
theorem aw_empty (H g T n S c Q : Nat) (ns : List Int) (rv : Value) (rs : List UInt8) (add : Nat) (a : Option Addr) (cc : Nat) (pr : Bool) (w : World) (hs : HS w H g T n S c ns rv rs add .nilIface) (hQ : w.heap[Q]? = some (.cells #[.slice a 0 cc, .bool pr] 71 (0, 0))) (hadd : add ≤ 1048576) :
    Calls Tryf.prog 32 #[.pointer (some ⟨H, 0, .none⟩), .int .u8 1, .slice (some ⟨Q, 0, .none⟩) 1 1] w fun e w' => e = .returned (.tuple #[]) ∧ ∃ t p, HS w' H g T n S c ns rv rs (add + 1) (.iface t p) ∧ Turn H rv rv w w' := by
  obtain ⟨k0, k1, k2, k3, k4⟩ := hs.cells
  have kf := hs.frozen 3
  have hHl := heap_lt hs.blk
  obtain ⟨⟨q0, q1⟩, _⟩ := two_cells hQ
  have hs2 := hs.bump.1.alloc (.cells #[.slice a 0 cc, .bool pr] 71)
  have ht2 := hs.bump.2.alloc (.cells #[.slice a 0 cc, .bool pr] 71)
  have HS2 := hide hs2
  have HT2 := hide ht2
  clear k0 k1 k2 hQ hs hs2 ht2
  go_enter Tryf.func32, Tryf.ntmps32
  go_wp2
  refine wp_loop_rounds 2 ?_
  rw [rounds_succ]
  go_wp2_with (first
    | (go_at_call 38; refine (hintError_nil add _).mono ?_; rintro e w3 ⟨⟨p, rfl⟩, hb3⟩; have hs3 := HS2.out.below hb3; have ht3 := HT2.out.trans (.of_below hb3); obtain ⟨_, _, _, _, j4⟩ := hs3.cells; have jf := hs3.frozen 4)
    | fail)
  rw [rounds_succ]
  go_wp2_with fail
  go_end0
  exact ⟨rfl, 73, p, (hs3.fail _).1, ht3.trans (hs3.fail _).2⟩

set_option maxHeartbeats 1000000 in
/-- A hint whose ids are nodes: its record is appended. -/
theorem aw_yes (H g T n S c Q ib io m cc sl : Nat) (ns ids : List Int) (ra : Option Addr) (rcap : Nat) (rs : List UInt8) (add : Nat) (pr : Bool) (w : World) (hN : Nodes ns n) (hS : S ≤ 1048576) (hsl : (n + 7) / 8 = sl) (hs : HS w H g T n S c ns (.slice ra rs.length rcap) rs add .nilIface) (hQ : w.heap[Q]? = some (.cells #[.slice (some ⟨ib, io, .none⟩) m cc, .bool pr] 71 (0, 0))) (hadd : add ≤ 1048576)
    (hrl : rs.length ≤ 100000000) (hib : ib < w.heap.size) (hibH : ib ≠ H) (hibr : some ib ≠ (Value.slice ra rs.length rcap).ownBlock)
    (hm : ids.length = m) (hm0 : 0 < m) (hm2 : m ≤ 1048576) (hi : ∀ j, j < m → w.cell? ⟨ib, io + j, .none⟩ = some (.int .i64 (ids[j]?.getD 0))) (hr : ∀ x ∈ ids, inI64 x) (hk : known ns ids = true) :
    Calls Tryf.prog 32 #[.pointer (some ⟨H, 0, .none⟩), .int .u8 1, .slice (some ⟨Q, 0, .none⟩) 1 1] w fun e w' => e = .returned (.tuple #[]) ∧ ∃ rv', HS w' H g T n S c ns rv' (rs ++ recOf ns sl ids pr) (add + 1) .nilIface ∧ Turn H (.slice ra rs.length rcap) rv' w w' := by
  obtain ⟨k0, k1, k2, k3, k4⟩ := hs.cells
  have kf := hs.frozen 3
  have hHl := heap_lt hs.blk
  obtain ⟨⟨q0, q1⟩, _⟩ := two_cells hQ
  have hs2 := hs.bump.1.alloc (.cells #[.slice (some ⟨ib, io, .none⟩) m cc, .bool pr] 71)
  have ht2 := hs.bump.2.alloc (.cells #[.slice (some ⟨ib, io, .none⟩) m cc, .bool pr] 71)
  have hR := record_yes H g T n S c ib io m cc sl ns ids rs ra rcap (add + 1) .nilIface pr _ hN hS hsl hs2 hrl (Nat.lt_of_lt_of_le hib ht2.size) hibH hibr hm hm2 (fun j hj => (World.cell?_of_block (a := ⟨ib, io + j, .none⟩) (ht2.block ib hib hibH hibr)).trans (hi j hj)) hr hk
  have HT2 := hide ht2
  have hm1 : ((m : Int) == 0) = false := by simp; omega
  clear k0 k1 k2 hQ hs hs2 ht2 hi hr hk hN hm
  go_enter Tryf.func32, Tryf.ntmps32
  go_wp2
  refine wp_loop_rounds 2 ?_
  rw [rounds_succ]
  go_wp2_with (first
    | (go_at_call 42; refine (weighs_every _ _ _).mono ?_; rintro e w3 ⟨rfl, rfl⟩)
    | (go_at_call 43; refine hR.mono ?_; rintro e w4 ⟨rfl, rv', hs4, ht4⟩)
    | fail)
  rw [rounds_succ]
  go_wp2_with fail
  go_end0
  exact ⟨rfl, rv', hs4, HT2.out.trans ht4⟩

set_option maxHeartbeats 1000000 in
/-- A hint that names a node which is none of the machine's. -/
theorem aw_no (H g T n S c Q ib io m cc sl : Nat) (ns ids : List Int) (ra : Option Addr) (rcap : Nat) (rs : List UInt8) (add : Nat) (pr : Bool) (w : World) (hN : Nodes ns n) (hS : S ≤ 1048576) (hsl : (n + 7) / 8 = sl) (hs : HS w H g T n S c ns (.slice ra rs.length rcap) rs add .nilIface) (hQ : w.heap[Q]? = some (.cells #[.slice (some ⟨ib, io, .none⟩) m cc, .bool pr] 71 (0, 0))) (hadd : add ≤ 1048576)
    (hrl : rs.length ≤ 100000000) (hib : ib < w.heap.size) (hibH : ib ≠ H) (hibr : some ib ≠ (Value.slice ra rs.length rcap).ownBlock)
    (hm : ids.length = m) (hm0 : 0 < m) (hm2 : m ≤ 1048576) (hi : ∀ j, j < m → w.cell? ⟨ib, io + j, .none⟩ = some (.int .i64 (ids[j]?.getD 0))) (hr : ∀ x ∈ ids, inI64 x) (hk : known ns ids = false) :
    Calls Tryf.prog 32 #[.pointer (some ⟨H, 0, .none⟩), .int .u8 1, .slice (some ⟨Q, 0, .none⟩) 1 1] w fun e w' => e = .returned (.tuple #[]) ∧ ∃ rv' t p, HS w' H g T n S c ns rv' rs (add + 1) (.iface t p) ∧ Turn H (.slice ra rs.length rcap) rv' w w' := by
  obtain ⟨k0, k1, k2, k3, k4⟩ := hs.cells
  have kf := hs.frozen 3
  have hHl := heap_lt hs.blk
  obtain ⟨⟨q0, q1⟩, _⟩ := two_cells hQ
  have hs2 := hs.bump.1.alloc (.cells #[.slice (some ⟨ib, io, .none⟩) m cc, .bool pr] 71)
  have ht2 := hs.bump.2.alloc (.cells #[.slice (some ⟨ib, io, .none⟩) m cc, .bool pr] 71)
  have hR := record_no H g T n S c ib io m cc sl ns ids rs ra rcap (add + 1) .nilIface pr _ hN hS hsl hs2 hrl (Nat.lt_of_lt_of_le hib ht2.size) hibH hibr hm hm2 (fun j hj => (World.cell?_of_block (a := ⟨ib, io + j, .none⟩) (ht2.block ib hib hibH hibr)).trans (hi j hj)) hr hk
  have HT2 := hide ht2
  have hm1 : ((m : Int) == 0) = false := by simp; omega
  clear k0 k1 k2 hQ hs hs2 ht2 hi hr hk hN hm
  go_enter Tryf.func32, Tryf.ntmps32
  go_wp2
  refine wp_loop_rounds 2 ?_
  rw [rounds_succ]
  go_wp2_with (first
    | (go_at_call 42; refine (weighs_every _ _ _).mono ?_; rintro e w3 ⟨rfl, rfl⟩)
    | (go_at_call 43; refine hR.mono ?_; rintro e w4 ⟨⟨g', s, rfl, hst⟩, rv', hs4, ht4⟩)
    | (go_at_call 38; refine (hintError_err add ⟨g', 0, .none⟩ s _ hst (cell_lt' hst) rfl).mono ?_; rintro e w5 ⟨⟨p, rfl⟩, hb5⟩; have hs5 := hs4.below hb5; have ht5 := (HT2.out.trans ht4).trans (.of_below hb5); obtain ⟨_, _, _, _, j4⟩ := hs5.cells; have jf := hs5.frozen 4)
    | fail)
  rw [rounds_succ]
  go_wp2_with fail
  go_end0
  exact ⟨rfl, rv', 79, p, (hs5.fail _).1, ht5.trans (hs5.fail _).2⟩
end Go.Proofs.Qxb6613881aFmt
