/-
  FnHeldCopyHoldsSameRates: the walks.
-/
import Derived.Test.Qxb6613894aHeldParts
namespace Go.Proofs.Qxb6613894a
open Go.RowKit Go.Maps
set_option linter.unusedVariables false

/-- What the walk is told of the strings: a row of cells. -/
def key (ss : List ByteArray) (j : Nat) : Lit := .string (ss.getD j ByteArray.empty).data.toList

theorem size_getD {ss : List ByteArray} {n : Nat} (hs : ∀ s ∈ ss, s.size ≤ n) {k : Nat} (hk : k < ss.length) : (ss.getD k ByteArray.empty).size ≤ n := by
  rw [List.getD_eq_getElem?_getD, List.getElem?_eq_getElem hk]; exact hs _ (List.getElem_mem _)

theorem bytes6_empty (a0 : Option Addr) (cap : Nat) (w : World) :
    Calls Try.prog 6 #[.slice a0 0 cap] w fun e w' => e = .returned (.bool true) ∧ w' = w := by
  go_enter Try.func6, Try.ntmps6
  go_wp2
  refine wp_loop_rounds 1 ?_
  rw [rounds_succ]
  go_wp2
  go_ret
  exact ⟨rfl, rfl⟩

theorem bytes6_any (b off len cap : Nat) (ss : List ByteArray) (w : World) (hl : len ≤ ss.length) (hm : ss.length ≤ maxLen)
    (hc : ∀ j, j < ss.length → w.cell? ⟨b, off + j, .none⟩ = some (.string (ss.getD j ByteArray.empty))) (hs : ∀ s ∈ ss, s.size ≤ maxLen) :
    Calls Try.prog 6 #[.slice (some ⟨b, off, .none⟩) len cap] w fun e w' => (e = .returned (.bool false) ∧ w = w') ∨ (e = .returned (.bool true) ∧ w = w' ∧ len ≤ 1048576) := by
  unfold maxLen at hm hs
  by_cases hlen : 1048576 < (len : Int)
  · go_enter Try.func6, Try.ntmps6
    go_wp2
    go_ret
    exact .inl ⟨rfl, rfl⟩
  · go_enter Try.func6, Try.ntmps6
    go_wp2
    go_loop [3, 4] (fun t i => ∃ (k : Nat) (n : Int), k ≤ len ∧ i = .int .i64 k ∧ 0 ≤ n ∧ n ≤ 1048576 ∧ t = .int .i64 n) (fun _ i => len - (intOf i).toNat)
    case atStart => exact ⟨0, len, Nat.zero_le _, rfl, by omega, by omega, rfl⟩
    case round =>
      obtain ⟨k, n, hk, rfl, hn0, hn1, rfl⟩ := hrel
      by_cases hlt : k < len
      · obtain ⟨s, hsd⟩ : ∃ s, s = ss.getD k ByteArray.empty := ⟨_, rfl⟩
        have hcx : w.cell? ⟨b, off + k, .none⟩ = some (.string s) := by rw [hsd]; exact hc k (by omega)
        have hsz : s.size ≤ 9223372036854775807 := by
          rw [hsd]; exact size_getD hs (by omega)
        clear hsd
        by_cases h1 : 1048576 < (s.size : Int)
        · go_wp2
          go_ret
          exact .inl ⟨rfl, rfl⟩
        · by_cases h2 : 1048576 < n + (s.size : Int)
          · go_wp2
            go_ret
            exact .inl ⟨rfl, rfl⟩
          · go_wp2
            go_round
            case rel => exact ⟨k + 1, n + s.size, by omega, by go_num, by omega, by omega, by go_num⟩
            case measure => simp [intOf]; omega
      · go_wp2
        go_ret
        exact .inr ⟨rfl, rfl, by omega⟩

theorem zzCopy_any (b n : Nat) (D0 : DataW Unit) (w : World) (hown : w.ownsMap Try.prog 9 ptrElem b n D0) (hn : n ≤ 1048576) :
    Calls Try.prog 7 #[.map (some b)] w fun e w' => e = .returned (.map (some w.heap.size)) ∧ w'.ownsMap Try.prog 9 ptrElem w.heap.size 1048576 D0 ∧ Below w.heap.size w w' := by
  go_enter Try.func7, Try.ntmps7
  go_wp2_with (go_at_call 12; refine (copy_any b n D0 _ hown hn).mono ?_; rintro e w' ⟨rfl, h1, h2⟩)
  go_ret
  exact ⟨rfl, h1, h2⟩
end Go.Proofs.Qxb6613894a
