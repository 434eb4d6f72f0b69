/-
  numalign: HintSets.record.
-/
import Derived.Test.Qxb6613881aFmtAddTo
import Derived.Deep.RegionHeld3
namespace Go.Proofs.Qxb6613881aFmt
open Go.RowKit
set_option linter.unusedVariables false

theorem undrew {B : Nat} {w w' : World} (h : Below B w.drew w') : Below B w w' := ⟨h.os, h.tape, h.output, h.size, h.block⟩
theorem HS.below {w w' : World} {H g T n S c : Nat} {ns : List Int} {rv : Value} {rs : List UInt8} {add : Nat} {er : Value} (h : HS w H g T n S c ns rv rs add er) (hb : Below w.heap.size w w') : HS w' H g T n S c ns rv rs add er := by
  have hgl : g < w.heap.size := (h.ids.lt g rfl).2
  refine ⟨(hb.block _ (heap_lt h.blk)).trans h.blk, row_keep h.ids (Nat.le_refl _) hgl (hb.block g hgl), (hb.block _ (heap_lt h.tbl)).trans h.tbl, ?_⟩
  exact h.recs.kept (row := none) ⟨hb.os, hb.tape, hb.output, hb.size, fun k hk _ => hb.block k hk⟩ (by cases rv.ownBlock <;> simp)
theorem shape_any {w : World} {base n : Nat} {e : TypeId} {v : Value} {xs : List Value} (h : w.ownsRow base e 1 v n xs) : ∃ a cap, v = .slice a n cap := by
  rcases h.2 with ⟨h1, h2⟩ | ⟨g, cap, cur, h1, _⟩
  · subst h2; exact ⟨none, 0, h1⟩
  · exact ⟨_, cap, h1⟩
/-- The five cells. -/
theorem HS.cells {w : World} {H g T n S c : Nat} {ns : List Int} {rv : Value} {rs : List UInt8} {add : Nat} {er : Value} (h : HS w H g T n S c ns rv rs add er) :
    w.cell? ⟨H, 0, .none⟩ = some (.slice (some ⟨g, 0, .none⟩) n c) ∧ w.cell? ⟨H, 1, .none⟩ = some (.slice (some ⟨T, 0, .none⟩) S S) ∧ w.cell? ⟨H, 2, .none⟩ = some rv ∧ w.cell? ⟨H, 3, .none⟩ = some (.int .i64 (add : Int)) ∧ w.cell? ⟨H, 4, .none⟩ = some er := by
  refine ⟨?_, ?_, ?_, ?_, ?_⟩ <;> (rw [cell_of_row _ _ _ _ _ (0, 0) h.blk]; rfl)

/-- What a call on the HintSets at H may turn: its own block, its records' block; new blocks. -/
structure Turn (H : Nat) (rv rv' : Value) (w w' : World) : Prop where
  os : w'.os = w.os
  tape : w'.tape = w.tape
  output : w'.output = w.output
  size : w.heap.size ≤ w'.heap.size
  block : ∀ k, k < w.heap.size → k ≠ H → some k ≠ rv.ownBlock → w'.heap[k]? = w.heap[k]?
  own : rv'.ownBlock = rv.ownBlock ∨ ∃ G, w.heap.size ≤ G ∧ rv'.ownBlock = some G
theorem Turn.trans {H : Nat} {r0 r1 r2 : Value} {w0 w1 w2 : World} (h : Turn H r0 r1 w0 w1) (h' : Turn H r1 r2 w1 w2) : Turn H r0 r2 w0 w2 := by
  refine ⟨h'.os.trans h.os, h'.tape.trans h.tape, h'.output.trans h.output, Nat.le_trans h.size h'.size, fun k hk h1 h2 => ?_, ?_⟩
  · refine (h'.block k (Nat.lt_of_lt_of_le hk h.size) h1 ?_).trans (h.block k hk h1 h2)
    rcases h.own with e | ⟨G, hG, e⟩
    · rw [e]; exact h2
    · rw [e]; intro e'; cases e'; omega
  · rcases h'.own with e | ⟨G, hG, e⟩
    · rw [e]; exact h.own
    · exact .inr ⟨G, Nat.le_trans h.size hG, e⟩
theorem Turn.of_below {H : Nat} {r : Value} {w w' : World} (h : Below w.heap.size w w') : Turn H r r w w' :=
  ⟨h.os, h.tape, h.output, h.size, fun k hk _ _ => h.block k hk, .inl rfl⟩
theorem row_ne {w : World} {base n k : Nat} {e t : TypeId} {fr : Nat × Nat} {v : Value} {xs : List Value} {cs : Array Value} (h : w.ownsRow base e 1 v n xs) (hk : w.heap[k]? = some (.cells cs t fr)) (ht : t ≠ e) : some k ≠ v.ownBlock := by
  rcases h.2 with ⟨rfl, _⟩ | ⟨g, cap, cur, rfl, _, hg, _⟩
  · simp [Value.ownBlock]
  · intro e1
    simp [Value.ownBlock] at e1
    subst e1
    rw [hk] at hg
    simp at hg
    exact ht hg.2.1
theorem own_block {w : World} {base n g c : Nat} {e : TypeId} {xs : List Value} (h : w.ownsRow base e 1 (.slice (some ⟨g, 0, .none⟩) n c) n xs) : ∃ rest : List Value, w.heap[g]? = some (.cells (xs ++ rest).toArray e (0, 0)) ∧ c = n + rest.length ∧ c ≤ maxLen := by
  have hl := h.1
  rcases h.2 with ⟨h1, _⟩ | ⟨g', cap, cur, h1, h2, h3, h4, h5, h6, h7⟩
  · cases h1
  · simp only [Value.slice.injEq, Option.some.injEq, Addr.mk.injEq, and_true, true_and] at h1
    obtain ⟨rfl, rfl⟩ := h1
    refine ⟨cur.toList.drop n, ?_, ?_, h5⟩
    · rw [h3, ← h7, Nat.mul_one, List.take_append_drop]
    · simp; omega
theorem block_own {w : World} {base n g c : Nat} {e : TypeId} {xs rest : List Value} (h : w.heap[g]? = some (.cells (xs ++ rest).toArray e (0, 0))) (hb : base ≤ g) (hn : xs.length = n) (hc : c = n + rest.length) (hm : c ≤ maxLen) : w.ownsRow base e 1 (.slice (some ⟨g, 0, .none⟩) n c) n xs :=
  ⟨by omega, .inr ⟨g, c, _, rfl, hb, h, by omega, hm, by simp; omega, by subst hn; simp⟩⟩

/-- Behind the append and the store of the new slice. -/
theorem grow_state {w w2 : World} {H g T n S c G cap sl : Nat} {ns : List Int} {rv : Value} {rs : List UInt8} {add : Nat} {er : Value} (hs : HS w H g T n S c ns rv rs add er)
    (hrow : w2.ownsRow 0 5 1 (.slice (some ⟨G, 0, .none⟩) (rs.length + (sl + 1)) cap) (rs.length + (sl + 1)) (rs.map e8 ++ List.replicate (sl + 1) (.int .u8 0))) (hg : w.grownBy w2 rv.ownBlock) (hG : some G = rv.ownBlock ∨ G = w.heap.size) {w3 : World}
    (hw3 : w3 = w2.setCell ⟨H, 2, .none⟩ (.slice (some ⟨G, 0, .none⟩) (rs.length + (sl + 1)) cap)) :
    ∃ rest : List Value, cap = rs.length + (sl + 1) + rest.length ∧ cap ≤ maxLen ∧ w3.heap[H]? = some (.cells #[.slice (some ⟨g, 0, .none⟩) n c, .slice (some ⟨T, 0, .none⟩) S S, .slice (some ⟨G, 0, .none⟩) (rs.length + (sl + 1)) cap, .int .i64 (add : Int), er] 55 (0, 0)) ∧
      w3.ownsRow 0 3 1 (.slice (some ⟨g, 0, .none⟩) n c) n (ns.map (Value.int .i64)) ∧ w3.heap[T]? = some (.cells (tblAt ns n S).toArray 3 (0, 0)) ∧
      w3.heap[G]? = some (.cells (rs.map e8 ++ (List.replicate sl (0 : UInt8)).map e8 ++ (e8 0 :: rest)).toArray 5 (0, 0)) ∧ Turn H rv (.slice (some ⟨G, 0, .none⟩) (rs.length + (sl + 1)) cap) w w3 ∧ H ≠ G ∧ g ≠ G ∧ T ≠ G := by
  have hHr := row_ne hs.recs hs.blk (by decide)
  have hTr := row_ne hs.recs hs.tbl (by decide)
  have hgl : g < w.heap.size := (hs.ids.lt g rfl).2
  obtain ⟨gr, hgb, _, _⟩ := own_block hs.ids
  have hgr := row_ne hs.recs hgb (by decide)
  have hHl := heap_lt hs.blk
  have hTl := heap_lt hs.tbl
  have ne_of : ∀ k, k < w.heap.size → some k ≠ rv.ownBlock → k ≠ G := by
    intro k hk hne e
    rcases hG with h | h
    · exact hne (by rw [e]; exact h)
    · omega
  have hHG := ne_of H hHl hHr
  have hH2 : w2.heap[H]? = _ := (hg.block H hHl hHr).trans hs.blk
  have hgH : g ≠ H := fun e => by subst e; have := hs.blk; rw [hgb] at this; simp at this
  have hTH : T ≠ H := fun e => by subst e; have := hs.blk; rw [hs.tbl] at this; simp at this
  obtain ⟨rest, hGb, hcap, hm⟩ := own_block hrow
  refine ⟨rest, hcap, hm, ?_, ?_, ?_, ?_, ?_, hHG, ne_of g hgl hgr, ne_of T hTl hTr⟩
  · rw [hw3]; exact heap_setCell_same _ _ _ _ _ _ hH2
  · exact row_keep hs.ids (Nat.le_refl _) hgl (by rw [hw3, heap_setCell_other _ _ _ _ hgH]; exact hg.block g hgl hgr)
  · rw [hw3, heap_setCell_other _ _ _ _ hTH]; exact (hg.block T hTl hTr).trans hs.tbl
  · rw [hw3, heap_setCell_other _ _ _ _ (fun e => hHG e.symm), hGb]
    congr 3
    rw [← List.replicate_append_replicate]
    simp [e8]
  · subst hw3
    refine ⟨hg.os, hg.tape, hg.output, by simp; exact hg.size, fun k hk h1 h2 => (heap_setCell_other _ _ _ _ h1).trans (hg.block k hk h2), ?_⟩
    rcases hG with h | h
    · exact .inl h
    · exact .inr ⟨G, by omega, rfl⟩
/-- setLen(). -/
theorem setLen_any (g n c sl : Nat) (tb : Value) (w : World) (hn : n ≤ 1048576) (hsl : (n + 7) / 8 = sl) :
    Calls Tryf.prog 51 #[.agg #[.slice (some ⟨g, 0, .none⟩) n c, tb]] w fun e w' => e = .returned (.int .i64 (sl : Int)) ∧ Below w.heap.size w w' := by
  go_enter Tryf.func51, Tryf.ntmps51
  go_wp2
  go_ret
  refine ⟨?_, (Below.refl _ w).alloc (Nat.le_refl _) _⟩
  subst hsl
  rfl

theorem cut_mid (t e : TypeId) (ht : Tryf.prog.underlying t = some (.slice e)) (hz : ∀ w, (sizeOf e).run Tryf.prog w = .ok 1 w) (g len cap l m : Nat) (h1 : l + m < len) (h2 : len ≤ cap) (w : World) :
    (Instr.slice t (.slice (some ⟨g, 0, .none⟩) len cap) (some (.int .i64 (l : Int))) (some (.int .i64 ((l : Int) + (m : Int)))) .none).run Tryf.prog w = .ok (.slice (some ⟨g, l, .none⟩) m (cap - l)) w := by
  obtain ⟨h, hh⟩ : ∃ h : Nat, h = l + m := ⟨_, rfl⟩
  have e1 : (l : Int) + (m : Int) = (h : Int) := by omega
  have h3 : h ≤ cap := by omega
  have h4 : l ≤ h := by omega
  have h5 : cap ≠ l := by omega
  have h6 : h - l = m := by omega
  rw [e1]
  simp [Instr.slice, run_underlying ht, Instr.sliceBounds, run_sliceBound, h3, h4, h5, h6, hz, Go.WideShapes.add_plain]

theorem addTo_yes {w3 : World} {H G sl cap ib io m cc rl : Nat} {ns ids : List Int} {X : World → Prop} {Y : World → Prop} {Z : Ending → World → Prop}
    (h : Calls Tryf.prog 52 #[.pointer (some ⟨H, 0, .none⟩), .slice (some ⟨G, rl, .none⟩) sl (cap - rl), .slice (some ⟨ib, io, .none⟩) m cc] w3 fun e w' => X w' ∧ ((known ns ids = true ∧ e = .returned .nilIface ∧ Y w') ∨ (known ns ids = false ∧ Z e w'))) (hk : known ns ids = true) :
    Calls Tryf.prog 52 #[.pointer (some ⟨H, 0, .none⟩), .slice (some ⟨G, rl, .none⟩) sl (cap - rl), .slice (some ⟨ib, io, .none⟩) m cc] w3 fun e w' => e = .returned .nilIface ∧ X w' ∧ Y w' := h.mono (by
    rintro e w' ⟨h1, ⟨_, h2, h3⟩ | ⟨h2, _⟩⟩
    · exact ⟨h2, h1, h3⟩
    · rw [hk] at h2; cases h2)
/-- All that the walk of record wants at the addTo. -/
theorem stage3 {w w1 w2 : World} {H g T n S c G cap sl ib io m cc L : Nat} {ns ids : List Int} {rv : Value} {rs : List UInt8} {add : Nat} {er : Value} (hN : Nodes ns n) (hS : S ≤ 1048576) (hsl : (n + 7) / 8 = sl) (hrl : rs.length ≤ 100000000) (hL : rs.length + (sl + 1) = L)
    (ht1 : Turn H rv rv w w1) (hs : HS w1 H g T n S c ns rv rs add er)
    (hib : ib < w.heap.size) (hibH : ib ≠ H) (hibr : some ib ≠ rv.ownBlock)
    (hm : ids.length = m) (hm2 : m ≤ 1048576) (hi : ∀ j, j < m → w.cell? ⟨ib, io + j, .none⟩ = some (.int .i64 (ids[j]?.getD 0))) (hr : ∀ x ∈ ids, inI64 x)
    (hrow : w2.ownsRow 0 5 1 (.slice (some ⟨G, 0, .none⟩) L cap) L (rs.map e8 ++ List.replicate (sl + 1) (.int .u8 0))) (hg : w1.grownBy w2 rv.ownBlock) (hG : some G = rv.ownBlock ∨ G = w1.heap.size) :
    ∃ (w3 : World) (rest : List Value), w2.setCell ⟨H, 2, .none⟩ (.slice (some ⟨G, 0, .none⟩) L cap) = w3 ∧ (w2.cell? ⟨H, 2, .none⟩ = some rv ∧ w2.frozen? ⟨H, 2, .none⟩ = false) ∧
      w3.cell? ⟨H, 2, .none⟩ = some (.slice (some ⟨G, 0, .none⟩) L cap) ∧
      Hid (cap = L + rest.length ∧ cap ≤ maxLen ∧ w3.heap[H]? = some (.cells #[.slice (some ⟨g, 0, .none⟩) n c, .slice (some ⟨T, 0, .none⟩) S S, .slice (some ⟨G, 0, .none⟩) L cap, .int .i64 (add : Int), er] 55 (0, 0)) ∧
      w3.ownsRow 0 3 1 (.slice (some ⟨g, 0, .none⟩) n c) n (ns.map (Value.int .i64)) ∧ w3.heap[T]? = some (.cells (tblAt ns n S).toArray 3 (0, 0)) ∧
      Turn H rv (.slice (some ⟨G, 0, .none⟩) L cap) w w3 ∧ H ≠ G ∧ g ≠ G ∧ T ≠ G) ∧
      Calls Tryf.prog 52 #[.pointer (some ⟨H, 0, .none⟩), .slice (some ⟨G, rs.length, .none⟩) sl (cap - rs.length), .slice (some ⟨ib, io, .none⟩) m cc] w3.drew fun e w' => w3.drew.grownBy w' (some G) ∧
      ((known ns ids = true ∧ e = .returned .nilIface ∧ w'.heap[G]? = some (.cells (rs.map e8 ++ (bitsOf ns (List.replicate sl 0) ids).map e8 ++ (e8 0 :: rest)).toArray 5 (0, 0))) ∨
       (known ns ids = false ∧ (∃ g' s, e = .returned (.iface 73 (.pointer (some ⟨g', 0, .none⟩))) ∧ w'.cell? ⟨g', 0, .none⟩ = some (.string s)) ∧ ∃ bs' : List UInt8, bs'.length = sl ∧ w'.heap[G]? = some (.cells (rs.map e8 ++ bs'.map e8 ++ (e8 0 :: rest)).toArray 5 (0, 0)))) := by
  subst hL
  have hsm := hN.small
  obtain ⟨m0, m1, m2, m3, m4⟩ := hs.cells
  have hHr := row_ne hs.recs hs.blk (by decide)
  have m2' := hg.cell m2 hHr
  have mf' : w2.frozen? ⟨H, 2, .none⟩ = false := frozen_of_row _ _ _ _ _ ((hg.block H (heap_lt hs.blk) hHr).trans hs.blk)
  have hiG : ib ≠ G := by
    intro e
    rcases hG with h | h
    · exact hibr (by rw [e]; exact h)
    · have := ht1.size; omega
  obtain ⟨w3, hw3⟩ : ∃ w3, w3 = w2.setCell ⟨H, 2, .none⟩ (.slice (some ⟨G, 0, .none⟩) (rs.length + (sl + 1)) cap) := ⟨_, rfl⟩
  obtain ⟨rest, hcap, hcm, q1, q2, q3, q4, ht3, n1, n2, n3⟩ := grow_state hs hrow hg hG hw3
  have ht := ht1.trans ht3
  have hi3 : ∀ j, j < m → w3.cell? ⟨ib, io + j, .none⟩ = some (.int .i64 (ids[j]?.getD 0)) := fun j hj =>
    (World.cell?_of_block (a := ⟨ib, io + j, .none⟩) (ht.block ib hib hibH hibr)).trans (hi j hj)
  have c0 : w3.cell? ⟨H, 0, .none⟩ = some (.slice (some ⟨g, 0, .none⟩) n c) := by rw [cell_of_row _ _ _ _ _ (0, 0) q1]; rfl
  have c1 : w3.cell? ⟨H, 1, .none⟩ = some (.slice (some ⟨T, 0, .none⟩) S S) := by rw [cell_of_row _ _ _ _ _ (0, 0) q1]; rfl
  have c2 : w3.cell? ⟨H, 2, .none⟩ = some (.slice (some ⟨G, 0, .none⟩) (rs.length + (sl + 1)) cap) := by rw [cell_of_row _ _ _ _ _ (0, 0) q1]; rfl
  refine ⟨w3, rest, hw3.symm, ⟨m2', mf'⟩, c2, ⟨hcap, hcm, q1, q2, q3, ht, n1, n2, n3⟩, ?_⟩
  exact addTo_any H g T S n c G rs.length sl (cap - rs.length) ib io m cc ns ids (List.replicate sl 0) (rs.map e8) (e8 0 :: rest) w3.drew hN c0 c1 hS (own_cells q2).2 q3 q4 n1 n2 n3 hiG (by simp) (by simp) (by omega) (by omega) hm hm2 hi3 hr
theorem cast_succ' (sl : Nat) : ((sl + 1 : Nat) : Int) = (sl : Int) + 1 := by omega
theorem add_wrap {a b : Nat} (ha : a ≤ 100000000) (hb : b ≤ 100000000) : wrap64 ((a : Int) + (b : Int)) = (a : Int) + (b : Int) := by unfold wrap64; omega
theorem add_wrap' {a b : Nat} (ha : a ≤ 100000000) (hb : b ≤ 100000000) : IntKind.i64.wrap ((a : Int) + (b : Int)) = (a : Int) + (b : Int) := by rw [IntKind.wrap_i64]; omega
theorem cut_rec {G cap rl sl k L : Nat} (hcap : cap = L + k) (hL : rl + (sl + 1) = L) : ∀ w, (Instr.slice 53 (.slice (some ⟨G, 0, .none⟩) L cap) (some (.int .i64 (rl : Int))) (some (.int .i64 ((rl : Int) + (sl : Int)))) .none).run Tryf.prog w = .ok (.slice (some ⟨G, rl, .none⟩) sl (cap - rl)) w :=
  cut_mid 53 5 Tryf.underlying53 Tryf.sizeOf5 G L cap rl sl (by omega) (by omega)

/-- A record: the set's bytes, then the flag. -/
def recOf (ns : List Int) (sl : Nat) (ids : List Int) (pr : Bool) : List UInt8 := bitsOf ns (List.replicate sl 0) ids ++ [if pr then 1 else 0]
theorem recOf_length (ns : List Int) (sl : Nat) (ids : List Int) (pr : Bool) : (recOf ns sl ids pr).length = sl + 1 := by simp [recOf, bitsOf_length]

/-- The HintSets behind a call that turned its records' block alone. -/
theorem state_of {w w3 w4 : World} {H g T n S c G cap L : Nat} {ns : List Int} {rv : Value} {rs : List UInt8} {rest rest' : List Value} {add : Nat} {er : Value}
    (hall : cap = L + rest.length ∧ cap ≤ maxLen ∧ w3.heap[H]? = some (.cells #[.slice (some ⟨g, 0, .none⟩) n c, .slice (some ⟨T, 0, .none⟩) S S, .slice (some ⟨G, 0, .none⟩) L cap, .int .i64 (add : Int), er] 55 (0, 0)) ∧
      w3.ownsRow 0 3 1 (.slice (some ⟨g, 0, .none⟩) n c) n (ns.map (Value.int .i64)) ∧ w3.heap[T]? = some (.cells (tblAt ns n S).toArray 3 (0, 0)) ∧ Turn H rv (.slice (some ⟨G, 0, .none⟩) L cap) w w3 ∧ H ≠ G ∧ g ≠ G ∧ T ≠ G)
    (hg : w3.grownBy w4 (some G)) (hG : w4.heap[G]? = some (.cells (rs.map e8 ++ rest').toArray 5 (0, 0))) (hL : rs.length = L) (hr : rest'.length = rest.length) :
    HS w4 H g T n S c ns (.slice (some ⟨G, 0, .none⟩) L cap) rs add er ∧ Turn H rv (.slice (some ⟨G, 0, .none⟩) L cap) w w4 := by
  obtain ⟨h1, h2, h3, h4, h5, h6, n1, n2, n3⟩ := hall
  have hgl : g < w3.heap.size := (h4.lt g rfl).2
  refine ⟨⟨(hg.block H (heap_lt h3) (fun e => n1 (Option.some.inj e))).trans h3, row_keep h4 (Nat.le_refl _) hgl (hg.block g hgl (fun e => n2 (Option.some.inj e))), (hg.block T (heap_lt h5) (fun e => n3 (Option.some.inj e))).trans h5, ?_⟩, ?_⟩
  · subst hL
    exact block_own hG (Nat.zero_le _) (by simp) (by omega) h2
  · refine ⟨hg.os.trans h6.os, hg.tape.trans h6.tape, hg.output.trans h6.output, Nat.le_trans h6.size hg.size, fun k hk k1 k2 => ?_, h6.own⟩
    refine (hg.block k (Nat.lt_of_lt_of_le hk h6.size) ?_).trans (h6.block k hk k1 k2)
    rcases h6.own with e | ⟨G', hG', e⟩
    · simp only [Value.ownBlock] at e
      rw [e]; exact k2
    · simp only [Value.ownBlock] at e
      rw [e]; intro e'; cases e'; omega

theorem flag_set {rs bs : List UInt8} {rest : List Value} {w4 : World} {G i : Nat} (hG : w4.heap[G]? = some (.cells (rs.map e8 ++ bs.map e8 ++ (e8 0 :: rest)).toArray 5 (0, 0))) (hi : rs.length + bs.length = i) :
    ((w4.setCell ⟨G, i, .none⟩ (.int .u8 1)).drew).heap[G]? = some (.cells ((rs ++ (bs ++ [1])).map e8 ++ rest).toArray 5 (0, 0)) ∧ w4.cell? ⟨G, i, .none⟩ = some (e8 0) ∧ w4.frozen? ⟨G, i, .none⟩ = false ∧ w4.grownBy (w4.setCell ⟨G, i, .none⟩ (.int .u8 1)).drew (some G) := by
  refine ⟨?_, ?_, frozen_of_row _ _ _ _ _ hG, ⟨rfl, rfl, rfl, by simp, fun k hk hne => heap_setCell_other w4 _ k _ (fun e => hne (by simp [e]))⟩⟩
  · refine (heap_setCell_same w4 G i _ 5 _ hG).trans ?_
    congr 2
    apply Array.ext'
    simp only [Array.toList_setIfInBounds]
    rw [List.set_append_right (h := by simp; omega)]
    subst hi
    simp [e8]
  · rw [cell_of_row _ _ _ _ _ (0, 0) hG, List.getElem?_toArray, List.getElem?_append_right (by simp; omega)]
    subst hi
    simp
theorem flag_none {rs bs : List UInt8} {rest : List Value} {w4 : World} {G : Nat} (hG : w4.heap[G]? = some (.cells (rs.map e8 ++ bs.map e8 ++ (e8 0 :: rest)).toArray 5 (0, 0))) :
    w4.heap[G]? = some (.cells ((rs ++ (bs ++ [0])).map e8 ++ rest).toArray 5 (0, 0)) := by
  rw [hG]; simp
theorem idx_wrap {L i : Nat} (h : L = i + 1) (hi : L ≤ 1000000000) : wrap64 ((L : Int) - 1) = (i : Int) := by unfold wrap64; omega
theorem grown_drew {w w' : World} {r : Option Nat} (h : w.drew.grownBy w' r) : w.grownBy w' r := ⟨h.os, h.tape, h.output, h.size, h.block⟩

set_option maxHeartbeats 1000000 in
/-- record(ids, preferred), every id being a node. -/
theorem record_yes (H g T n S c ib io m cc sl : Nat) (ns ids : List Int) (rs : List UInt8) (ra : Option Addr) (rcap add : Nat) (er : Value) (pr : Bool) (w : World) (hN : Nodes ns n) (hS : S ≤ 1048576) (hsl : (n + 7) / 8 = sl)
    (hs : HS w H g T n S c ns (.slice ra rs.length rcap) rs add er) (hrl : rs.length ≤ 100000000) (hib : ib < w.heap.size) (hibH : ib ≠ H) (hibr : some ib ≠ (Value.slice ra rs.length rcap).ownBlock)
    (hm : ids.length = m) (hm2 : m ≤ 1048576) (hi : ∀ j, j < m → w.cell? ⟨ib, io + j, .none⟩ = some (.int .i64 (ids[j]?.getD 0))) (hr : ∀ x ∈ ids, inI64 x) (hk : known ns ids = true) :
    Calls Tryf.prog 43 #[.pointer (some ⟨H, 0, .none⟩), .slice (some ⟨ib, io, .none⟩) m cc, .bool pr] w fun e w' => e = .returned .nilIface ∧ ∃ rv', HS w' H g T n S c ns rv' (rs ++ recOf ns sl ids pr) add er ∧ Turn H (.slice ra rs.length rcap) rv' w w' := by
  have hsm := hN.small
  have hsl1 : sl ≤ 100000000 := by omega
  have hn1 : n ≤ 1048576 := by omega
  obtain ⟨i, hii⟩ : ∃ i, rs.length + sl = i := ⟨_, rfl⟩
  obtain ⟨L, hL⟩ : ∃ L, rs.length + (sl + 1) = L := ⟨_, rfl⟩
  have hapb : rs.length + (sl + 1) ≤ 1000000000 := by omega
  have hs10 : 0 < sl + 1 := Nat.succ_pos _
  have hiL : i < L := by omega
  have hiLi : (i : Int) < L := by omega
  have hidx := idx_wrap (L := L) (i := i) (by omega) (by omega)
  have hadd := add_wrap hrl hsl1
  have hadd' := add_wrap' hrl hsl1
  obtain ⟨k0, k1, k2, k3, k4⟩ := hs.cells
  have HI := hide hi
  have HM := hide hm
  have HR := hide hr
  have HN := hide hN
  have HSL := hide hsl
  have HK := hide hk
  have HL := hide hL
  have HII := hide hii
  clear hi hm hr hN hsm k3 k4 hsl hk hL hii
  go_enter Tryf.func43, Tryf.ntmps43
  go_wp2_with fail
  go_region_held3 (fun w' => w'.cell? ⟨H, 0, .none⟩ = some (.slice (some ⟨g, 0, .none⟩) n c) ∧ w'.cell? ⟨H, 1, .none⟩ = some (.slice (some ⟨T, 0, .none⟩) S S) ∧ w'.cell? ⟨H, 2, .none⟩ = some (.slice ra rs.length rcap))
    (first | exact ⟨m0, m1, m2⟩ | exact ⟨k0, k1, k2⟩)
    (first
      | (go_at_call 51; refine (setLen_any g n c sl (.slice (some ⟨T, 0, .none⟩) S S) _ hn1 HSL.out).mono ?_; rintro e w1 ⟨rfl, hb1⟩; have hs1 := hs.below (undrew hb1); obtain ⟨m0, m1, m2, m3, m4⟩ := hs1.cells))
  have ht1 : Turn H (.slice ra rs.length rcap) (.slice ra rs.length rcap) w w1 := .of_below (undrew hb1)
  clear k0 k1 k2 hs hb1 m3 m4
  obtain ⟨G, cap, w2, hA, hrow2, hg2, hG2⟩ := append_zeros 0 rs.length (sl + 1) 53 _ _ w1 hs1.recs hs10 hapb (Nat.zero_le _)
  rw [cast_succ', HL.out] at hA
  rw [HL.out] at hrow2
  obtain ⟨w3, rest, hw3, ⟨m2', mf'⟩, c2, HALL, hAdd⟩ := stage3 (cc := cc) HN.out hS HSL.out hrl HL.out ht1 hs1 hib hibH hibr HM.out hm2 HI.out HR.out hrow2 hg2 hG2
  have HW := hide hw3
  clear hw3 hrow2 hg2 hG2 ht1 hs1
  go_wp2_with (first
    | (at_builtin; refine Lib.wpList_append_run _ rfl _ _ 53 3 rfl _ _ rfl rfl _ _ hA ?_)
    | fail)
  rw [HW.out]
  clear HW hA m0 m1 m2 m2' mf'
  have hcut := cut_rec (G := G) HALL.out.1 HL.out
  have hAddY := addTo_yes hAdd HK.out
  clear hAdd
  go_region_held3 (fun w' => w'.cell? ⟨H, 2, .none⟩ = some (.slice (some ⟨G, 0, .none⟩) L cap))
    (first | exact d2 | exact c2)
    (first
      | (go_at_call 52; refine hAddY.mono ?_; rintro e w4 ⟨rfl, hg4, hG4⟩; have d2 := hg4.cell (a := ⟨H, 2, .none⟩) c2 (fun e => HALL.out.2.2.2.2.2.2.1 (Option.some.inj e))))
  obtain ⟨f1, f2, f3, f4⟩ := flag_set (i := i) hG4 (by rw [bitsOf_length, List.length_replicate]; exact HII.out)
  have f5 := flag_none hG4
  have F1 := hide f1
  have F5 := hide f5
  clear c2 hAddY hcut f1 f5 hG4
  cases pr with
  | true =>
    go_wp2_with fail
    go_region
    go_wp2_with fail
    go_ret
    have hfin := state_of (rs := rs ++ recOf ns sl ids true) HALL.out (grown_trans (grown_drew hg4) f4) F1.out (by rw [List.length_append, recOf_length]; exact HL.out) rfl
    exact ⟨rfl, _, hfin.1, hfin.2⟩
  | false =>
    go_wp2_with fail
    go_ret
    have hfin := state_of (rs := rs ++ recOf ns sl ids false) HALL.out (grown_drew hg4) F5.out (by rw [List.length_append, recOf_length]; exact HL.out) rfl
    exact ⟨rfl, _, hfin.1, hfin.2⟩
theorem rl_le {rl sl L : Nat} (h : rl + (sl + 1) = L) : rl ≤ L := by omega
theorem cap_ge {cap L k : Nat} (h : cap = L + k) : L ≤ cap := by omega
theorem addTo_no {w3 : World} {H G sl cap ib io m cc rl : Nat} {ns ids : List Int} {X : World → Prop} {Y : Ending → World → Prop} {Z : List UInt8 → World → Prop}
    (h : Calls Tryf.prog 52 #[.pointer (some ⟨H, 0, .none⟩), .slice (some ⟨G, rl, .none⟩) sl (cap - rl), .slice (some ⟨ib, io, .none⟩) m cc] w3 fun e w' => X w' ∧ ((known ns ids = true ∧ Y e w') ∨ (known ns ids = false ∧ (∃ g' s, e = .returned (.iface 73 (.pointer (some ⟨g', 0, .none⟩))) ∧ w'.cell? ⟨g', 0, .none⟩ = some (.string s)) ∧ ∃ bs' : List UInt8, bs'.length = sl ∧ Z bs' w'))) (hk : known ns ids = false) :
    Calls Tryf.prog 52 #[.pointer (some ⟨H, 0, .none⟩), .slice (some ⟨G, rl, .none⟩) sl (cap - rl), .slice (some ⟨ib, io, .none⟩) m cc] w3 fun e w' => ∃ (g' : Nat) (s : ByteArray) (bs' : List UInt8), e = .returned (.iface 73 (.pointer (some ⟨g', 0, .none⟩))) ∧ w'.cell? ⟨g', 0, .none⟩ = some (.string s) ∧ X w' ∧ bs'.length = sl ∧ Z bs' w' := h.mono (by
    rintro e w' ⟨h1, ⟨h2, _⟩ | ⟨_, ⟨g', s, h3, h4⟩, bs', h5, h6⟩⟩
    · rw [hk] at h2; cases h2
    · exact ⟨g', s, bs', h3, h4, h1, h5, h6⟩)
/-- The HintSets behind a record that was taken back. -/
theorem state_no {w w3 w4 : World} {H g T n S c G cap L sl : Nat} {ns : List Int} {rv : Value} {rs bs' : List UInt8} {rest : List Value} {add : Nat} {er : Value}
    (hall : cap = L + rest.length ∧ cap ≤ maxLen ∧ w3.heap[H]? = some (.cells #[.slice (some ⟨g, 0, .none⟩) n c, .slice (some ⟨T, 0, .none⟩) S S, .slice (some ⟨G, 0, .none⟩) L cap, .int .i64 (add : Int), er] 55 (0, 0)) ∧
      w3.ownsRow 0 3 1 (.slice (some ⟨g, 0, .none⟩) n c) n (ns.map (Value.int .i64)) ∧ w3.heap[T]? = some (.cells (tblAt ns n S).toArray 3 (0, 0)) ∧ Turn H rv (.slice (some ⟨G, 0, .none⟩) L cap) w w3 ∧ H ≠ G ∧ g ≠ G ∧ T ≠ G) (hL : rs.length + (sl + 1) = L)
    (hg : w3.grownBy w4 (some G)) (hG : w4.heap[G]? = some (.cells (rs.map e8 ++ bs'.map e8 ++ (e8 0 :: rest)).toArray 5 (0, 0))) (hbl : bs'.length = sl) :
    w4.frozen? ⟨H, 2, .none⟩ = false ∧ HS (w4.setCell ⟨H, 2, .none⟩ (.slice (some ⟨G, 0, .none⟩) rs.length cap)) H g T n S c ns (.slice (some ⟨G, 0, .none⟩) rs.length cap) rs add er ∧ Turn H rv (.slice (some ⟨G, 0, .none⟩) rs.length cap) w (w4.setCell ⟨H, 2, .none⟩ (.slice (some ⟨G, 0, .none⟩) rs.length cap)) := by
  obtain ⟨h1, h2, h3, h4, h5, h6, n1, n2, n3⟩ := hall
  have hgl : g < w3.heap.size := (h4.lt g rfl).2
  obtain ⟨gr, hgb, _, _⟩ := own_block h4
  have hgH : g ≠ H := fun e => by subst e; have := h3; rw [hgb] at this; simp at this
  have hTH : T ≠ H := fun e => by subst e; have := h3; rw [h5] at this; simp at this
  have hH4 := (hg.block H (heap_lt h3) (fun e => n1 (Option.some.inj e))).trans h3
  refine ⟨frozen_of_row _ _ _ _ _ hH4, ⟨heap_setCell_same _ _ _ _ _ _ hH4, row_keep h4 (Nat.le_refl _) hgl ?_, ?_, ?_⟩, ?_⟩
  · rw [heap_setCell_other _ _ _ _ hgH]; exact hg.block g hgl (fun e => n2 (Option.some.inj e))
  · rw [heap_setCell_other _ _ _ _ hTH]; exact (hg.block T (heap_lt h5) (fun e => n3 (Option.some.inj e))).trans h5
  · refine block_own (rest := bs'.map e8 ++ (e8 0 :: rest)) ?_ (Nat.zero_le _) (by simp) (by simp; omega) h2
    rw [heap_setCell_other _ _ _ _ (fun e => n1 e.symm), hG, List.append_assoc]
  · refine ⟨hg.os.trans h6.os, hg.tape.trans h6.tape, hg.output.trans h6.output, by simp; exact Nat.le_trans h6.size hg.size, fun k hk k1 k2 => ?_, h6.own⟩
    refine (heap_setCell_other _ _ _ _ k1).trans ((hg.block k (Nat.lt_of_lt_of_le hk h6.size) ?_).trans (h6.block k hk k1 k2))
    rcases h6.own with e | ⟨G', hG', e⟩
    · simp only [Value.ownBlock] at e
      rw [e]; exact k2
    · simp only [Value.ownBlock] at e
      rw [e]; intro e'; cases e'; omega

set_option maxHeartbeats 1000000 in
/-- record(ids, preferred), some id being no node. -/
theorem record_no (H g T n S c ib io m cc sl : Nat) (ns ids : List Int) (rs : List UInt8) (ra : Option Addr) (rcap add : Nat) (er : Value) (pr : Bool) (w : World) (hN : Nodes ns n) (hS : S ≤ 1048576) (hsl : (n + 7) / 8 = sl)
    (hs : HS w H g T n S c ns (.slice ra rs.length rcap) rs add er) (hrl : rs.length ≤ 100000000) (hib : ib < w.heap.size) (hibH : ib ≠ H) (hibr : some ib ≠ (Value.slice ra rs.length rcap).ownBlock)
    (hm : ids.length = m) (hm2 : m ≤ 1048576) (hi : ∀ j, j < m → w.cell? ⟨ib, io + j, .none⟩ = some (.int .i64 (ids[j]?.getD 0))) (hr : ∀ x ∈ ids, inI64 x) (hk : known ns ids = false) :
    Calls Tryf.prog 43 #[.pointer (some ⟨H, 0, .none⟩), .slice (some ⟨ib, io, .none⟩) m cc, .bool pr] w fun e w' => (∃ g' s, e = .returned (.iface 73 (.pointer (some ⟨g', 0, .none⟩))) ∧ w'.cell? ⟨g', 0, .none⟩ = some (.string s)) ∧ ∃ rv', HS w' H g T n S c ns rv' rs add er ∧ Turn H (.slice ra rs.length rcap) rv' w w' := by
  have hsm := hN.small
  have hsl1 : sl ≤ 100000000 := by omega
  have hn1 : n ≤ 1048576 := by omega
  obtain ⟨i, hii⟩ : ∃ i, rs.length + sl = i := ⟨_, rfl⟩
  obtain ⟨L, hL⟩ : ∃ L, rs.length + (sl + 1) = L := ⟨_, rfl⟩
  have hapb : rs.length + (sl + 1) ≤ 1000000000 := by omega
  have hs10 : 0 < sl + 1 := Nat.succ_pos _
  have hiL : i < L := by omega
  have hiLi : (i : Int) < L := by omega
  have hidx := idx_wrap (L := L) (i := i) (by omega) (by omega)
  have hadd := add_wrap hrl hsl1
  have hadd' := add_wrap' hrl hsl1
  obtain ⟨k0, k1, k2, k3, k4⟩ := hs.cells
  have HI := hide hi
  have HM := hide hm
  have HR := hide hr
  have HN := hide hN
  have HSL := hide hsl
  have HK := hide hk
  have HL := hide hL
  have HII := hide hii
  clear hi hm hr hN hsm k3 k4 hsl hk hL hii
  go_enter Tryf.func43, Tryf.ntmps43
  go_wp2_with fail
  go_region_held3 (fun w' => w'.cell? ⟨H, 0, .none⟩ = some (.slice (some ⟨g, 0, .none⟩) n c) ∧ w'.cell? ⟨H, 1, .none⟩ = some (.slice (some ⟨T, 0, .none⟩) S S) ∧ w'.cell? ⟨H, 2, .none⟩ = some (.slice ra rs.length rcap))
    (first | exact ⟨m0, m1, m2⟩ | exact ⟨k0, k1, k2⟩)
    (first
      | (go_at_call 51; refine (setLen_any g n c sl (.slice (some ⟨T, 0, .none⟩) S S) _ hn1 HSL.out).mono ?_; rintro e w1 ⟨rfl, hb1⟩; have hs1 := hs.below (undrew hb1); obtain ⟨m0, m1, m2, m3, m4⟩ := hs1.cells))
  have ht1 : Turn H (.slice ra rs.length rcap) (.slice ra rs.length rcap) w w1 := .of_below (undrew hb1)
  clear k0 k1 k2 hs hb1 m3 m4
  obtain ⟨G, cap, w2, hA, hrow2, hg2, hG2⟩ := append_zeros 0 rs.length (sl + 1) 53 _ _ w1 hs1.recs hs10 hapb (Nat.zero_le _)
  rw [cast_succ', HL.out] at hA
  rw [HL.out] at hrow2
  obtain ⟨w3, rest, hw3, ⟨m2', mf'⟩, c2, HALL, hAdd⟩ := stage3 (cc := cc) HN.out hS HSL.out hrl HL.out ht1 hs1 hib hibH hibr HM.out hm2 HI.out HR.out hrow2 hg2 hG2
  have HW := hide hw3
  clear hw3 hrow2 hg2 hG2 ht1 hs1
  go_wp2_with (first
    | (at_builtin; refine Lib.wpList_append_run _ rfl _ _ 53 3 rfl _ _ rfl rfl _ _ hA ?_)
    | fail)
  rw [HW.out]
  clear HW hA m0 m1 m2 m2' mf'
  have hcut := cut_rec (G := G) HALL.out.1 HL.out
  have hAddY := addTo_no hAdd HK.out
  clear hAdd
  go_region_held3 (fun w' => w'.cell? ⟨H, 2, .none⟩ = some (.slice (some ⟨G, 0, .none⟩) L cap))
    (first | exact d2 | exact c2)
    (first
      | (go_at_call 52; refine hAddY.mono ?_; rintro e w4 ⟨g', s, bs', rfl, hst, hg4, hbl, hG4⟩; have d2 := hg4.cell (a := ⟨H, 2, .none⟩) c2 (fun e => HALL.out.2.2.2.2.2.2.1 (Option.some.inj e))))
  obtain ⟨f1, f2, f3⟩ := state_no HALL.out HL.out (grown_drew hg4) hG4 hbl
  have hcut2 := cut_hi 53 5 Tryf.underlying53 Tryf.sizeOf5 G L cap rs.length (rl_le HL.out) (cap_ge HALL.out.1)
  have F2 := hide f2
  have F3 := hide f3
  clear c2 hAddY hcut f2 f3 hG4
  go_wp2_with fail
  go_ret
  exact ⟨⟨g', s, rfl, (World.cell?_setCell_other _ _ _ _ (by simp)).trans hst⟩, _, F2.out, F3.out⟩
end Go.Proofs.Qxb6613881aFmt
