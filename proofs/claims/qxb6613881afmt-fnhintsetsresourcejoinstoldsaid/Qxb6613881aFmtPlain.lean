/-
  numalign: the readers; blocks that stay; the plain law of the records.
-/
import Derived.Test.Qxb6613881aFmtBound
namespace Go.Proofs.Qxb6613881aFmt
open Go.RowKit
set_option linter.unusedVariables false

/-- Block k holds cs. -/
def Blk (w : World) (k : Nat) (cs : Array Value) (t : TypeId) : Prop := w.heap[k]? = some (.cells cs t (0, 0))
theorem Blk.below {w w' : World} {B k : Nat} {cs : Array Value} {t : TypeId} (h : Blk w k cs t) (hb : Below B w w') (hB : w.heap.size ≤ B) : Blk w' k cs t := (hb.block k (Nat.lt_of_lt_of_le (heap_lt h) hB)).trans h
theorem Blk.alloc {w : World} {k : Nat} {cs : Array Value} {t : TypeId} (h : Blk w k cs t) (o : Obj) : Blk (w.alloc o) k cs t := (Below.heap_alloc _ _ _ (heap_lt h)).trans h
theorem Blk.drewN {w : World} {k : Nat} {cs : Array Value} {t : TypeId} (h : Blk w k cs t) (m : Nat) : Blk (w.drewN m) k cs t := h
theorem Blk.turn {w w' : World} {k : Nat} {cs : Array Value} {t : TypeId} {H g T n S c : Nat} {ns : List Int} {rv rv' : Value} {rs : List UInt8} {add : Nat} {er : Value} (h : Blk w k cs t) (ht : Turn H rv rv' w w') (hs : HS w H g T n S c ns rv rs add er) (h1 : t ≠ 55) (h2 : t ≠ 5) : Blk w' k cs t := by
  refine (ht.block k (heap_lt h) (fun e => ?_) (row_ne hs.recs h h2)).trans h
  subst e
  have := hs.blk
  rw [h] at this
  simp at this
  exact h1 this.2
theorem Blk.ints {w : World} {k n : Nat} {L : List Int} {rest : List Value} (h : Blk w k (vi L ++ rest).toArray 3) (hn : L.length = n) : ∀ j, j < n → w.cell? ⟨k, j, .none⟩ = some (.int .i64 (L[j]?.getD 0)) := fun j hj => by
  rw [cell_of_row _ _ _ _ _ (0, 0) h, List.getElem?_toArray, List.getElem?_append_left (by simp; omega), List.getElem?_map, List.getElem?_eq_getElem (by omega)]; rfl
theorem Blk.own {w : World} {base n g c : Nat} {L : List Int} (h : w.ownsRow base 3 1 (.slice (some ⟨g, 0, .none⟩) n c) n (L.map (Value.int .i64))) : ∃ rest : List Value, Blk w g (vi L ++ rest).toArray 3 := by
  obtain ⟨rest, h1, _, _⟩ := own_block h
  exact ⟨rest, h1⟩
theorem Blk.four {w : World} {k : Nat} {a b c d : Value} {t : TypeId} (h : Blk w k #[a, b, c, d] t) : w.cell? ⟨k, 0, .none⟩ = some a ∧ w.cell? ⟨k, 1, .none⟩ = some b ∧ w.cell? ⟨k, 2, .none⟩ = some c ∧ w.cell? ⟨k, 3, .none⟩ = some d := by
  refine ⟨?_, ?_, ?_, ?_⟩ <;> (rw [cell_of_row _ _ _ _ _ (0, 0) h]; rfl)

set_option maxRecDepth 100000 in
theorem plain_any (M : Nat) (w : World) : Calls Tryf.prog 13 #[.agg #[.string ⟨#[]⟩, .bool false, .slice none 0 0, .pointer (some ⟨M, 0, .none⟩)]] w fun e w' => e = .returned (.bool true) ∧ Below w.heap.size w w' := by
  have hnil := fun w a n c => Lib.run_eql_slice_nil (P := Tryf.prog) w 35 71 a n c 0 0 Tryf.underlying35
  go_enter Tryf.func13, Tryf.ntmps13
  go_wp2_with fail
  go_ret
  exact ⟨rfl, (Below.refl _ w).alloc (Nat.le_refl _) _⟩
theorem sets_any (M : Nat) (w : World) : Calls Tryf.prog 14 #[.agg #[.string ⟨#[]⟩, .bool false, .slice none 0 0, .pointer (some ⟨M, 0, .none⟩)]] w fun e w' => e = .returned (.pointer (some ⟨M, 0, .none⟩)) ∧ Below w.heap.size w w' := by
  go_enter Tryf.func14, Tryf.ntmps14
  go_wp2
  go_ret
  exact ⟨rfl, (Below.refl _ w).alloc (Nat.le_refl _) _⟩
theorem nodes_any (M : Nat) (a b c d : Value) (w : World) (h : Blk w M #[a, b, c, d] 59) : Calls Tryf.prog 16 #[.pointer (some ⟨M, 0, .none⟩)] w fun e w' => e = .returned a ∧ w = w' := by
  obtain ⟨h0, h1, h2, h3⟩ := h.four
  go_enter Tryf.func16, Tryf.ntmps16
  go_wp2
  go_ret
  exact ⟨rfl, rfl⟩
theorem added_any (M : Nat) (a b c d : Value) (w : World) (h : Blk w M #[a, b, c, d] 59) : Calls Tryf.prog 17 #[.pointer (some ⟨M, 0, .none⟩)] w fun e w' => e = .returned c ∧ w = w' := by
  obtain ⟨h0, h1, h2, h3⟩ := h.four
  go_enter Tryf.func17, Tryf.ntmps17
  go_wp2
  go_ret
  exact ⟨rfl, rfl⟩
theorem err_any (M : Nat) (a b c d : Value) (w : World) (h : Blk w M #[a, b, c, d] 59) : Calls Tryf.prog 18 #[.pointer (some ⟨M, 0, .none⟩)] w fun e w' => e = .returned d ∧ w = w' := by
  obtain ⟨h0, h1, h2, h3⟩ := h.four
  go_enter Tryf.func18, Tryf.ntmps18
  go_wp2
  go_ret
  exact ⟨rfl, rfl⟩
theorem records_any (M : Nat) (a b c d : Value) (w : World) (h : Blk w M #[a, b, c, d] 59) : Calls Tryf.prog 19 #[.pointer (some ⟨M, 0, .none⟩)] w fun e w' => e = .returned b ∧ w = w' := by
  obtain ⟨h0, h1, h2, h3⟩ := h.four
  go_enter Tryf.func19, Tryf.ntmps19
  go_wp2
  go_ret
  exact ⟨rfl, rfl⟩

def okL (ns : List Int) (l : List (List Int × Bool)) : Bool := l.all fun h => !h.1.isEmpty && known ns h.1
theorem okL_with (ns : List Int) (hl : List (List Int)) (ps : List Bool) : okL ns (withPref hl ps) = okAll ns hl := by
  unfold okL okAll withPref
  rw [List.all_map]
  rw [Bool.eq_iff_iff]
  simp only [List.all_eq_true, List.mem_range, Function.comp]
  constructor
  · intro h x hx
    obtain ⟨j, hj, e⟩ := List.getElem_of_mem hx
    have := h j hj
    rw [List.getElem?_eq_getElem hj] at this
    simpa [e] using this
  · intro h k hk
    have := h hl[k] (List.getElem_mem hk)
    rw [List.getElem?_eq_getElem hk]
    simpa using this
theorem runR_failed (ns : List Int) (sl : Nat) : ∀ (l : List (List Int × Bool)) (rs : List UInt8), runR ns sl (rs, true) l = (rs, true)
  | [], rs => rfl
  | h :: l, rs => by
    have e : runR ns sl (rs, true) (h :: l) = runR ns sl (stepR ns sl (rs, true) h) l := rfl
    rw [e]
    have e2 : stepR ns sl (rs, true) h = (rs, true) := by unfold stepR; rw [if_pos rfl]
    rw [e2]
    exact runR_failed ns sl l rs
theorem step_cases (ns : List Int) (sl : Nat) (rs : List UInt8) (h : List Int × Bool) : ((!h.1.isEmpty && known ns h.1) = true ∧ stepR ns sl (rs, false) h = (rs ++ recOf ns sl h.1 h.2, false)) ∨ ((!h.1.isEmpty && known ns h.1) = false ∧ stepR ns sl (rs, false) h = (rs, true)) := by
  by_cases h0 : h.1 = []
  · exact .inr ⟨by simp [h0], stepR_fail (.inl h0)⟩
  · by_cases hk : known ns h.1 = true
    · refine .inl ⟨?_, stepR_ok h0 hk⟩
      rw [hk]
      simpa using h0
    · refine .inr ⟨by simp [hk], stepR_fail (.inr (by simpa using hk))⟩
/-- It fails just where some hint does. -/
theorem runR_ok (ns : List Int) (sl : Nat) : ∀ (l : List (List Int × Bool)) (rs : List UInt8), (runR ns sl (rs, false) l).2 = !(okL ns l)
  | [], rs => rfl
  | h :: l, rs => by
    have e : runR ns sl (rs, false) (h :: l) = runR ns sl (stepR ns sl (rs, false) h) l := rfl
    have e3 : okL ns (h :: l) = ((!h.1.isEmpty && known ns h.1) && okL ns l) := rfl
    rw [e, e3]
    rcases step_cases ns sl rs h with ⟨h1, h2⟩ | ⟨h1, h2⟩
    · rw [h1, h2, Bool.true_and]; exact runR_ok ns sl l _
    · rw [h1, h2, runR_failed]; rfl
/-- Where none fails: one record each. -/
theorem runR_len (ns : List Int) (sl : Nat) : ∀ (l : List (List Int × Bool)) (rs : List UInt8), okL ns l = true → (runR ns sl (rs, false) l).1.length = rs.length + l.length * (sl + 1)
  | [], rs, _ => by simp [runR]
  | h :: l, rs, hok => by
    have e : runR ns sl (rs, false) (h :: l) = runR ns sl (stepR ns sl (rs, false) h) l := rfl
    have e3 : okL ns (h :: l) = ((!h.1.isEmpty && known ns h.1) && okL ns l) := rfl
    rw [e3] at hok
    rw [e]
    rcases step_cases ns sl rs h with ⟨h1, h2⟩ | ⟨h1, h2⟩
    · rw [h1, Bool.true_and] at hok
      rw [h2, runR_len ns sl l _ hok, List.length_append, recOf_length, List.length_cons, Nat.add_mul]
      omega
    · rw [h1] at hok; cases hok
/-- The records do not look at what lies before them. -/
theorem runR_prefix (ns : List Int) (sl : Nat) : ∀ (l : List (List Int × Bool)) (rs : List UInt8), (runR ns sl (rs, false) l).1 = rs ++ (runR ns sl ([], false) l).1
  | [], rs => by simp [runR]
  | h :: l, rs => by
    have e : ∀ rs, runR ns sl (rs, false) (h :: l) = runR ns sl (stepR ns sl (rs, false) h) l := fun _ => rfl
    rw [e, e]
    rcases step_cases ns sl rs h with ⟨h1, h2⟩ | ⟨h1, h2⟩
    · rcases step_cases ns sl [] h with ⟨_, h4⟩ | ⟨h3, _⟩
      · rw [h2, h4, runR_prefix ns sl l (rs ++ _), runR_prefix ns sl l ([] ++ _)]
        simp
      · rw [h1] at h3; cases h3
    · rcases step_cases ns sl [] h with ⟨h3, _⟩ | ⟨_, h4⟩
      · rw [h1] at h3; cases h3
      · rw [h2, h4, runR_failed, runR_failed]
        simp
end Go.Proofs.Qxb6613881aFmt
