/-
  numalign: positions: positionOfB1 and nodeIndex.position.
-/
import Derived.Test.Qxb6613881aFmtBit
namespace Go.Proofs.Qxb6613881aFmt
open Go.RowKit
set_option linter.unusedVariables false

/-- The position of id in ns, or -1. -/
def posOf (ns : List Int) (id : Int) : Int := if id ∈ ns then (ns.idxOf id : Int) else -1
theorem pair_lt {ns : List Int} (h : ns.Pairwise (· < ·)) {i j : Nat} (hij : i < j) (hj : j < ns.length) : ns[i]?.getD 0 < ns[j]?.getD 0 := by
  have := List.pairwise_iff_getElem.1 h i j (by omega) hj hij
  rw [List.getElem?_eq_getElem (by omega), List.getElem?_eq_getElem hj]
  exact this
theorem posOf_hit {ns : List Int} (h : ns.Pairwise (· < ·)) {i : Nat} (hi : i < ns.length) : posOf ns (ns[i]?.getD 0) = i := by
  have e : ns[i]?.getD 0 = ns[i] := by rw [List.getElem?_eq_getElem hi]; rfl
  have hnd : ns.Nodup := h.imp (fun h => by omega)
  unfold posOf
  rw [e, if_pos (List.getElem_mem hi), hnd.idxOf_getElem i hi]
theorem posOf_miss {ns : List Int} {id : Int} (h : ∀ j, j < ns.length → ns[j]?.getD 0 ≠ id) : posOf ns id = -1 := by
  unfold posOf
  rw [if_neg]
  intro hm
  obtain ⟨j, hj, e⟩ := List.getElem_of_mem hm
  exact h j hj (by rw [List.getElem?_eq_getElem hj]; exact e)
theorem posOf_lt (ns : List Int) (id : Int) : posOf ns id < ns.length := by
  unfold posOf
  split
  · have := List.idxOf_lt_length_of_mem (by assumption : id ∈ ns); omega
  · omega
theorem posOf_ge (ns : List Int) (id : Int) : -1 ≤ posOf ns id := by
  unfold posOf
  split <;> omega
theorem posOf_neg (ns : List Int) (id : Int) : posOf ns id < 0 ↔ id ∉ ns := by
  unfold posOf
  split
  · constructor
    · intro h; omega
    · intro h; contradiction
  · constructor
    · intro _; assumption
    · intro _; omega

theorem mid_facts (l h : Nat) (hlt : l < h) : l ≤ l + (h - l) / 2 ∧ l + (h - l) / 2 < h := by omega

theorem before_mid {ns : List Int} {n m j : Nat} {x id : Int} (hs : ns.Pairwise (· < ·)) (hn : ns.length = n) (hx : x = ns[m]?.getD 0) (hxi : x < id) (hj : j < m + 1) (hm : m < n) : ns[j]?.getD 0 < id := by
  by_cases e : j = m
  · subst e; omega
  · have := pair_lt hs (i := j) (j := m) (by omega) (by omega); omega
theorem after_mid {ns : List Int} {n m j : Nat} {x id : Int} (hs : ns.Pairwise (· < ·)) (hn : ns.length = n) (hx : x = ns[m]?.getD 0) (hxi : ¬ x < id) (hj : m ≤ j) (hm : j < n) : id ≤ ns[j]?.getD 0 := by
  by_cases e : m = j
  · subst e; omega
  · have := pair_lt hs (i := m) (j := j) (by omega) (by omega); omega

theorem end_hit {ns : List Int} {n l : Nat} {x : Int} (hs : ns.Pairwise (· < ·)) (hn : ns.length = n) (hl : l < n) (hx : x = ns[l]?.getD 0) : posOf ns x = l := by
  subst hx; exact posOf_hit hs (by omega)
theorem end_miss {ns : List Int} {n l : Nat} {x id : Int} (hs : ns.Pairwise (· < ·)) (hn : ns.length = n) (hx : x = ns[l]?.getD 0) (hxi : ¬ x = id) (hlo : ∀ j, j < l → ns[j]?.getD 0 < id) (hhi : ∀ j, l ≤ j → j < n → id ≤ ns[j]?.getD 0) : posOf ns id = -1 := by
  apply posOf_miss
  intro j hj e
  by_cases h1 : j < l
  · have := hlo j h1; omega
  · by_cases h2 : j = l
    · subst h2; omega
    · have h3 := pair_lt hs (i := l) (j := j) (by omega) hj
      have h4 := hhi l (Nat.le_refl _) (by omega)
      omega
theorem end_out {ns : List Int} {n l : Nat} {id : Int} (hn : ns.length = n) (hl : ¬ l < n) (hlo : ∀ j, j < l → ns[j]?.getD 0 < id) : posOf ns id = -1 := by
  apply posOf_miss
  intro j hj e
  have := hlo j (by omega); omega

theorem ret_int {a b : Int} (h : a = b) : Ending.returned (.int .i64 b) = Ending.returned (.int .i64 a) := by rw [h]

/-- positionOfB1(sorted, id). -/
theorem positionOf_any (b off n cap : Nat) (ns : List Int) (id : Int) (w : World) (hn : ns.length = n) (hs : ns.Pairwise (· < ·)) (hlen : n ≤ 1048576)
    (hc : ∀ j, j < n → w.cell? ⟨b, off + j, .none⟩ = some (.int .i64 (ns[j]?.getD 0))) :
    Calls Tryf.prog 22 #[.slice (some ⟨b, off, .none⟩) n cap, .int .i64 id] w fun e w' => e = .returned (.int .i64 (posOf ns id)) ∧ w = w' := by
  have HS := hide hs
  have HN := hide hn
  clear hs hn
  go_enter Tryf.func22, Tryf.ntmps22
  go_wp2
  go_loopw [5, 6] (fun lo hi wr => ∃ l h : Nat, l ≤ h ∧ h ≤ n ∧ lo = .int .i64 l ∧ hi = .int .i64 h ∧ wr = w ∧ (∀ j, j < l → ns[j]?.getD 0 < id) ∧ (∀ j, h ≤ j → j < n → id ≤ ns[j]?.getD 0)) (fun lo hi _ => (intOf hi).toNat - (intOf lo).toNat)
  case atStart => exact ⟨0, n, Nat.zero_le _, Nat.le_refl _, rfl, rfl, rfl, fun j hj => by omega, fun j h1 h2 => by omega⟩
  case round =>
    obtain ⟨l, h, hlh, hhn, rfl, rfl, rfl, hlo, hhi⟩ := hrel
    by_cases hlt : l < h
    · obtain ⟨hml, hmh⟩ := mid_facts l h hlt
      have hcm := hc (l + (h - l) / 2) (Nat.lt_of_lt_of_le hmh hhn)
      have hli : (l : Int) < h := Int.ofNat_lt.2 hlt
      obtain ⟨x, hx⟩ : ∃ x, x = ns[l + (h - l) / 2]?.getD 0 := ⟨_, rfl⟩
      rw [← hx] at hcm
      have HX := hide hx
      clear hc hx
      by_cases hxi : x < id
      · go_wp2
        go_roundw
        case rel => exact ⟨l + (h - l) / 2 + 1, h, by omega, hhn, by go_num, rfl, (by trivial), fun j hj => before_mid HS.out HN.out HX.out hxi hj (Nat.lt_of_lt_of_le hmh hhn), hhi⟩
        case measure => simp [intOf]; omega
      · go_wp2
        go_roundw
        case rel => exact ⟨l, l + (h - l) / 2, by omega, by omega, rfl, by go_num, (by trivial), hlo, fun j h1 h2 => after_mid HS.out HN.out HX.out hxi h1 h2⟩
        case measure => simp [intOf]; omega
    · obtain rfl : l = h := Nat.le_antisymm hlh (Nat.le_of_not_lt hlt)
      by_cases hln : l < n
      · have hcl := hc l hln
        have hlni : (l : Int) < n := Int.ofNat_lt.2 hln
        obtain ⟨x, hx⟩ : ∃ x, x = ns[l]?.getD 0 := ⟨_, rfl⟩
        rw [← hx] at hcl
        have HX := hide hx
        clear hc hx
        by_cases hxi : x = id
        · subst hxi
          go_wp2
          go_ret
          exact ⟨ret_int (end_hit HS.out HN.out hln HX.out), rfl⟩
        · go_wp2
          go_ret
          exact ⟨ret_int (end_miss HS.out HN.out HX.out hxi hlo hhi), rfl⟩
      · go_wp2
        go_ret
        exact ⟨ret_int (end_out HN.out hln hlo), rfl⟩
end Go.Proofs.Qxb6613881aFmt
