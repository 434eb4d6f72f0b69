/-
  numalign: the plain facts for recordsMatchB1.
-/
import Derived.Test.Qxb6613881aFmtPop
namespace Go.Proofs.Qxb6613881aFmt
open Go.RowKit
set_option linter.unusedVariables false

/-- Some id stands at position p. -/
def hits (ns ids : List Int) (p : Nat) : Bool := ids.any fun x => decide (ns.idxOf x = p)
theorem bitsOf_snoc (ns : List Int) (bs : List UInt8) (ids : List Int) (x : Int) : bitsOf ns bs (ids ++ [x]) = setBitU (bitsOf ns bs ids) (ns.idxOf x) := by
  unfold bitsOf; rw [List.foldl_append]; rfl
theorem snoc_ind {P : List Int → Prop} (h0 : P []) (h1 : ∀ l x, P l → P (l ++ [x])) : ∀ l, P l := by
  intro l
  have : ∀ n (l : List Int), l.length = n → P l := by
    intro n
    induction n with
    | zero => intro l hl; rw [List.eq_nil_of_length_eq_zero hl]; exact h0
    | succ n ih =>
      intro l hl
      rcases nil_or_snoc l with rfl | ⟨l', a, rfl⟩
      · simp at hl
      · exact h1 l' a (ih l' (by simpa using hl))
  exact this _ l rfl
theorem getBit_bitsOf (ns : List Int) (sl : Nat) (p : Nat) (hp : p < 8 * sl) : ∀ ids : List Int, (∀ x ∈ ids, ns.idxOf x < 8 * sl) → getBit (bitsOf ns (List.replicate sl 0) ids) p = hits ns ids p := by
  refine snoc_ind ?_ ?_
  · intro _
    exact getBit_zero sl p
  · intro l x ih h
    rw [bitsOf_snoc, getBit_setBit _ _ _ (by rw [bitsOf_length, List.length_replicate]; exact h x (by simp)) (by rw [bitsOf_length, List.length_replicate]; exact hp), ih (fun y hy => h y (by simp [hy]))]
    unfold hits
    rw [List.any_append]
    simp
theorem pcSum_snoc (ns : List Int) (sl : Nat) (ids : List Int) (x : Int) (h : ∀ y ∈ ids, ns.idxOf y < 8 * sl) (hx : ns.idxOf x < 8 * sl) :
    pcSum (bitsOf ns (List.replicate sl 0) (ids ++ [x])) = pcSum (bitsOf ns (List.replicate sl 0) ids) + (if hits ns ids (ns.idxOf x) then 0 else 1) := by
  rw [bitsOf_snoc, pcSum_setBit _ _ (by rw [bitsOf_length, List.length_replicate]; exact hx), getBit_bitsOf ns sl _ hx ids h]
/-- The records, one behind the other. -/
def recsOf (ns : List Int) (sl : Nat) (l : List (List Int × Bool)) : List UInt8 := (l.map fun h => recOf ns sl h.1 h.2).flatten
theorem runR_recs (ns : List Int) (sl : Nat) : ∀ (l : List (List Int × Bool)) (rs : List UInt8), okL ns l = true → (runR ns sl (rs, false) l).1 = rs ++ recsOf ns sl l
  | [], rs, _ => by simp [runR, recsOf]
  | h :: l, rs, hok => by
    have e : runR ns sl (rs, false) (h :: l) = runR ns sl (stepR ns sl (rs, false) h) l := rfl
    have e3 : okL ns (h :: l) = ((!h.1.isEmpty && known ns h.1) && okL ns l) := rfl
    rw [e3] at hok
    rw [e]
    rcases step_cases ns sl rs h with ⟨h1, h2⟩ | ⟨h1, h2⟩
    · rw [h1, Bool.true_and] at hok
      rw [h2, runR_recs ns sl l _ hok]
      simp [recsOf]
    · rw [h1] at hok; cases hok
theorem recsOf_at (ns : List Int) (sl : Nat) : ∀ (l : List (List Int × Bool)) (k b : Nat) (hk : k < l.length), b < sl + 1 → (recsOf ns sl l)[k * (sl + 1) + b]? = (recOf ns sl (l[k]).1 (l[k]).2)[b]?
  | [], k, b, hk, _ => by simp at hk
  | h :: l, 0, b, hk, hb => by
    unfold recsOf
    rw [List.map_cons, List.flatten_cons, List.getElem?_append_left (by rw [recOf_length]; omega)]
    simp
  | h :: l, k + 1, b, hk, hb => by
    have ih := recsOf_at ns sl l k b (by simpa using hk) hb
    unfold recsOf at ih ⊢
    rw [List.map_cons, List.flatten_cons, List.getElem?_append_right (by rw [recOf_length, Nat.add_mul]; omega), recOf_length]
    rw [show (k + 1) * (sl + 1) + b - (sl + 1) = k * (sl + 1) + b by rw [Nat.add_mul]; omega, ih]
    simp
end Go.Proofs.Qxb6613881aFmt
