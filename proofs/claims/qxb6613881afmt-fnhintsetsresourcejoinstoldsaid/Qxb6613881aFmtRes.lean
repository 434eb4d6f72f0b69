/-
  numalign: Resource.
-/
import Derived.Test.Qxb6613881aFmtAddAll
import Derived.Laws.BytesArg
namespace Go.Proofs.Qxb6613881aFmt
open Go.RowKit
set_option linter.unusedVariables false

theorem conv_any {w : World} {base rcap : Nat} {ra : Option Addr} {rs : List UInt8} (h : w.ownsRow base 5 1 (.slice ra rs.length rcap) rs.length (rs.map e8)) : (convert 53 9 (.slice ra rs.length rcap)).run Tryf.prog w = .ok (.string ⟨rs.toArray⟩) w := by
  rcases h.2 with ⟨h1, h2⟩ | ⟨g, cap, cur, h1, _⟩
  · simp only [Value.slice.injEq] at h1
    obtain ⟨rfl, _, rfl⟩ := h1
    have e : rs = [] := List.eq_nil_of_length_eq_zero h2
    subst e
    exact run_convert_bytes_nil w 53 5 Tryf.underlying53 Tryf.underlying5 _ _ 9 Tryf.underlying9
  · simp only [Value.slice.injEq] at h1
    obtain ⟨rfl, _, rfl⟩ := h1
    refine run_convert_bytes_back w 53 9 5 ⟨g, 0, .none⟩ rcap rs Tryf.underlying53 Tryf.underlying5 Tryf.underlying9 (fun j hj => ?_)
    exact h.cells (g := g) rfl j _ (by rw [List.getElem?_map, List.getElem?_eq_getElem hj]; rfl)
theorem cut_zero {w : World} {base rl rcap : Nat} {ra : Option Addr} {xs : List Value} (h : w.ownsRow base 5 1 (.slice ra rl rcap) rl xs) (w' : World) : (Instr.slice 53 (.slice ra rl rcap) .none (some (.int .i64 0)) .none).run Tryf.prog w' = .ok (.slice ra 0 rcap) w' := by
  rcases h.2 with ⟨h1, h2⟩ | ⟨g, cap, cur, h1, _, _, h4, _⟩
  · simp only [Value.slice.injEq] at h1
    obtain ⟨rfl, rfl, rfl⟩ := h1
    have := cut_from_run 53 5 Tryf.underlying53 Tryf.sizeOf5 none 0 0 0 (Nat.le_refl _) w'
    simp [Instr.slice, run_underlying Tryf.underlying53, Instr.sliceBounds, run_sliceBound, Tryf.sizeOf5]
  · simp only [Value.slice.injEq] at h1
    obtain ⟨rfl, _, rfl⟩ := h1
    have := cut_hi 53 5 Tryf.underlying53 Tryf.sizeOf5 g rl rcap 0 (Nat.zero_le _) h4 w'
    exact this

theorem row_empty {w : World} {base rl rcap : Nat} {e : TypeId} {ra : Option Addr} {xs : List Value} (h : w.ownsRow base e 1 (.slice ra rl rcap) rl xs) : w.ownsRow base e 1 (.slice ra 0 rcap) 0 [] := by
  refine ⟨by simp, ?_⟩
  rcases h.2 with ⟨h1, h2⟩ | ⟨g, cap, cur, h1, h2, h3, h4, h5, h6, _⟩
  · simp only [Value.slice.injEq] at h1
    obtain ⟨rfl, rfl, rfl⟩ := h1
    exact .inl ⟨rfl, rfl⟩
  · simp only [Value.slice.injEq] at h1
    obtain ⟨rfl, _, rfl⟩ := h1
    exact .inr ⟨g, rcap, cur, rfl, h2, h3, Nat.zero_le _, h5, h6, by simp⟩
theorem res_end {w : World} {H g T n S c : Nat} {ns : List Int} {ra : Option Addr} {rcap : Nat} {rs : List UInt8} {add : Nat} {er : Value} (h : HS w H g T n S c ns (.slice ra rs.length rcap) rs add er) (o1 o2 : Obj) :
    HS (((((w.setCell ⟨H, 2, .none⟩ (.slice ra 0 rcap)).setCell ⟨H, 3, .none⟩ (.int .i64 0)).setCell ⟨H, 4, .none⟩ .nilIface).alloc o1).alloc o2).drew H g T n S c ns (.slice ra 0 rcap) [] 0 .nilIface ∧
    Turn H (.slice ra rs.length rcap) (.slice ra 0 rcap) w (((((w.setCell ⟨H, 2, .none⟩ (.slice ra 0 rcap)).setCell ⟨H, 3, .none⟩ (.int .i64 0)).setCell ⟨H, 4, .none⟩ .nilIface).alloc o1).alloc o2).drew ∧
    (((((w.setCell ⟨H, 2, .none⟩ (.slice ra 0 rcap)).setCell ⟨H, 3, .none⟩ (.int .i64 0)).setCell ⟨H, 4, .none⟩ .nilIface).alloc o1).alloc o2).drew.heap[w.heap.size]? = some o1 ∧
    (((((w.setCell ⟨H, 2, .none⟩ (.slice ra 0 rcap)).setCell ⟨H, 3, .none⟩ (.int .i64 0)).setCell ⟨H, 4, .none⟩ .nilIface).alloc o1).alloc o2).drew.heap[w.heap.size + 1]? = some o2 := by
  have hgl : g < w.heap.size := (h.ids.lt g rfl).2
  obtain ⟨gr, hgb, _, _⟩ := own_block h.ids
  have hgH : g ≠ H := fun e => by subst e; have := h.blk; rw [hgb] at this; simp at this
  have hTH : T ≠ H := fun e => by subst e; have := h.blk; rw [h.tbl] at this; simp at this
  have hHr := row_ne h.recs h.blk (by decide)
  obtain ⟨w3, hw3⟩ : ∃ w3, w3 = ((w.setCell ⟨H, 2, .none⟩ (.slice ra 0 rcap)).setCell ⟨H, 3, .none⟩ (.int .i64 0)).setCell ⟨H, 4, .none⟩ .nilIface := ⟨_, rfl⟩
  rw [← hw3]
  have hz : w3.heap.size = w.heap.size := by rw [hw3]; simp
  have hoth : ∀ k, k ≠ H → w3.heap[k]? = w.heap[k]? := fun k hk => by
    rw [hw3, heap_setCell_other _ _ _ _ hk, heap_setCell_other _ _ _ _ hk, heap_setCell_other _ _ _ _ hk]
  have hs3 : HS w3 H g T n S c ns (.slice ra 0 rcap) [] 0 .nilIface := by
    refine ⟨?_, row_keep h.ids (Nat.le_refl _) hgl (hoth g hgH), (hoth T hTH).trans h.tbl, ?_⟩
    · rw [hw3]
      exact heap_setCell_same _ _ _ _ _ _ (heap_setCell_same _ _ _ _ _ _ (heap_setCell_same _ _ _ _ _ _ h.blk))
    · exact row_empty (h.recs.kept (row := some H) ⟨by rw [hw3]; rfl, by rw [hw3]; rfl, by rw [hw3]; rfl, by omega, fun k hk h1 => hoth k (fun e => h1 (by rw [e]))⟩ (.inr (fun e => hHr e.symm)))
  have hb : Below w3.heap.size w3 ((w3.alloc o1).alloc o2).drew := (((Below.refl _ w3).alloc (Nat.le_refl _) _).alloc (by simp) _).drew
  refine ⟨hs3.below hb, ?_, ?_, ?_⟩
  · refine Turn.trans (r1 := .slice ra 0 rcap) (w1 := w3) ⟨by rw [hw3]; rfl, by rw [hw3]; rfl, by rw [hw3]; rfl, by omega, fun k hk h1 _ => hoth k h1, .inl ?_⟩ (.of_below hb)
    cases ra <;> rfl
  · rw [← hz]; exact (Below.heap_alloc _ _ _ (by simp)).trans (heap_alloc_new w3 _)
  · rw [← hz]
    have := heap_alloc_new (w3.alloc o1) o2
    rw [World.size_alloc] at this
    exact this

set_option maxHeartbeats 1000000 in
/-- Resource(). -/
theorem resource_any (H g T n S c : Nat) (ns : List Int) (rv : Value) (rs : List UInt8) (er : Value) (add : Nat) (w : World) (hs0 : HS w H g T n S c ns rv rs add er) (f : Bool) (he : ErrIs f er) :
    Calls Tryf.prog 12 #[.pointer (some ⟨H, 0, .none⟩)] w fun e w' => ∃ M rv', e = .returned (.agg #[.string ⟨#[]⟩, .bool false, .slice none 0 0, .pointer (some ⟨M, 0, .none⟩)]) ∧ w.heap.size ≤ M ∧ w'.heap[M]? = some (.cells #[.slice (some ⟨g, 0, .none⟩) n c, .string ⟨rs.toArray⟩, .int .i64 (add : Int), er] 59 (0, 0)) ∧
      HS w' H g T n S c ns rv' [] 0 .nilIface ∧ Turn H rv rv' w w' := by
  obtain ⟨ra, rcap, rfl⟩ := shape_any hs0.recs
  have hs : HS w H g T n S c ns (.slice ra rs.length rcap) rs add er := hs0
  obtain ⟨k0, k1, k2, k3, k4⟩ := hs.cells
  have kf := hs.frozen
  have hHl := heap_lt hs.blk
  have hconv := conv_any ((hs.recs.alloc (.cells #[.string ⟨#[]⟩, .bool false, .slice none 0 0, .pointer none] 38)).kept (row := none) (w' := (w.alloc (.cells #[.string ⟨#[]⟩, .bool false, .slice none 0 0, .pointer none] 38)).drew) ⟨rfl, rfl, rfl, Nat.le_refl _, fun _ _ _ => rfl⟩ (by cases (Value.slice ra rs.length rcap).ownBlock <;> simp))
  have hcut := cut_zero hs.recs
  obtain ⟨f1, f2, f3, f4⟩ := res_end hs (.cells #[.string ⟨#[]⟩, .bool false, .slice none 0 0, .pointer (some ⟨w.heap.size + 1, 0, .none⟩)] 38) (.cells #[.slice (some ⟨g, 0, .none⟩) n c, .string ⟨rs.toArray⟩, .int .i64 (add : Int), er] 59)
  have F1 := hide f1
  have F2 := hide f2
  have F3 := hide f3
  have F4 := hide f4
  clear hs hs0 k1 f1 f2 f3 f4
  cases f with
  | false =>
    obtain rfl : er = .nilIface := he
    go_enter Tryf.func12, Tryf.ntmps12
    go_wp2_with fail
    go_region
    go_wp2_with fail
    simp [bodyPost, results, Tryf.results12, go_sem]
    exact ⟨(Array.getElem?_eq_some_iff.1 F4.out).2, _, F1.out, F2.out⟩
  | true =>
    obtain ⟨t, p, rfl⟩ := he
    go_enter Tryf.func12, Tryf.ntmps12
    go_wp2_with fail
    go_region
    go_wp2_with fail
    simp [bodyPost, results, Tryf.results12, go_sem]
    exact ⟨(Array.getElem?_eq_some_iff.1 F4.out).2, _, F1.out, F2.out⟩
end Go.Proofs.Qxb6613881aFmt
