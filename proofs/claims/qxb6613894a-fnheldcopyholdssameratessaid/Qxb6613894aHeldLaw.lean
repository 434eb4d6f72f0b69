/-
  FnHeldCopyHoldsSameRates: the law's own walk.
-/
import Derived.Test.Qxb6613894aHeldWalks
import Derived.Deep.DeepMust
namespace Go.Proofs.Qxb6613894a
open Go.RowKit Go.Maps
set_option linter.unusedVariables false
open Go.WideMaps (keyOf_string_mk)

theorem hide {p : Prop} (h : p) : Hid p := h
/-- After k rounds the map holds just the first k keys. -/
def Filled (ss : List ByteArray) (D : DataW Unit) (k : Nat) : Prop :=
  (∀ j, j < k → Maps.has D (key ss j) = true) ∧ (∀ kl, Maps.has D kl = true → ∃ j, j < k ∧ kl = key ss j)
theorem filled_start (ss : List ByteArray) : Filled ss (.map []) 0 := ⟨fun j h => by omega, fun kl h => by cases h⟩
theorem filled_step {ss : List ByteArray} {D : DataW Unit} {k : Nat} (h : Filled ss D k) (hm : IsMap D) (d : DataW Unit) : Filled ss (D.put (key ss k) d) (k + 1) := by
  have hk : WideAt.IsKeyLit (key ss k) := trivial
  refine ⟨fun j hj => ?_, fun kl hkl => ?_⟩
  · by_cases e : key ss j = key ss k
    · rw [e]; exact has_put_same hm hk d
    · rw [has_put_other e]
      exact h.1 j (by by_cases e' : j = k
                      · exact absurd (by rw [e']) e
                      · omega)
  · by_cases e : kl = key ss k
    · exact ⟨k, by omega, e⟩
    · rw [has_put_other e] at hkl
      obtain ⟨j, hj, hjk⟩ := h.2 kl hkl
      exact ⟨j, by omega, hjk⟩
/-- After k deletes no key of the first k is left. -/
def Struck (ss : List ByteArray) (D0 D : DataW Unit) (k : Nat) : Prop :=
  ∀ kl, Maps.has D kl = true → Maps.has D0 kl = true ∧ ∀ j, j < k → kl ≠ key ss j
theorem struck_start (ss : List ByteArray) (D0 : DataW Unit) : Struck ss D0 D0 0 := fun kl h => ⟨h, fun j hj => by omega⟩
theorem struck_step {ss : List ByteArray} {D0 D : DataW Unit} {k : Nat} (h : Struck ss D0 D k) : Struck ss D0 (D.del (key ss k)) (k + 1) := by
  intro kl hkl
  by_cases e : kl = key ss k
  · rw [e, has_del_same] at hkl; cases hkl
  · rw [has_del_other e] at hkl
    refine ⟨(h kl hkl).1, fun j hj => ?_⟩
    by_cases e' : j = k
    · rw [e']; exact e
    · exact (h kl hkl).2 j (by omega)
theorem struck_end {ss : List ByteArray} {D0 D : DataW Unit} {k : Nat} (hf : Filled ss D0 k) (h : Struck ss D0 D k) (hc : Canon D) : Maps.size D = 0 := by
  refine size_zero hc fun kl => ?_
  cases hh : Maps.has D kl
  · rfl
  · obtain ⟨h1, h2⟩ := h kl hh
    obtain ⟨j, hj, e⟩ := hf.2 kl h1
    exact absurd e (h2 j hj)

theorem set_step {f : Nat → Value} {xs : List Value} {k : Nat} {v : Value} (h : ∀ j, j < k → xs[j]? = some (f j)) (hv : v = f k) (hk : k < xs.length) : ∀ j, j < k + 1 → (xs.set k v)[j]? = some (f j) := by
  intro j hj
  rw [List.getElem?_set]
  by_cases e : k = j
  · subst e; simp [hk, hv]
  · rw [if_neg e]; exact h j (by omega)
theorem info26 : (Try.prog.info? 26).map (fun i => (i.zero, i.size, i.bytes)) = some (some (.pointer .none), 1, 8) := by kernel_rfl

set_option maxHeartbeats 1000000 in
set_option maxRecDepth 100000 in
theorem walk3 (b off len cap : Nat) (ss : List ByteArray) (w : World) (hb : b < w.heap.size) (hl : len ≤ ss.length) (hm : ss.length ≤ maxLen)
    (hc : ∀ j, j < ss.length → w.cell? ⟨b, off + j, .none⟩ = some (.string (ss.getD j ByteArray.empty))) (hs : ∀ s ∈ ss, s.size ≤ maxLen) :
    Calls Try.prog 3 #[.slice (some ⟨b, off, .none⟩) len cap] w fun e w' => e = .returned (.bool true) ∧ Below w.heap.size w w' := by
  obtain ⟨i0, hi, hz0, hz1, hz2⟩ := info_parts info26
  have hmm := makeMap25
  go_enter Try.func3, Try.ntmps3
  go_wp2_with fail
  refine (bytes6_any b off len cap ss w hl hm hc hs).mono ?_
  unfold maxLen at hm hs
  rintro e w' (⟨rfl, rfl⟩ | ⟨rfl, rfl, hlen⟩)
  · go_wp2
    go_ret
    exact ⟨rfl, Below.refl _ _⟩
  go_wp2_with fail
  go_loop [3, 4] (fun t i => ∃ (k : Nat) (n : Int), k ≤ len ∧ i = .int .i64 k ∧ 0 ≤ n ∧ n ≤ 1048576 ∧ t = .int .i64 n) (fun _ i => len - (intOf i).toNat)
  case atStart => exact ⟨0, 0, Nat.zero_le _, rfl, by omega, by omega, rfl⟩
  case round =>
    obtain ⟨k, n, hk, rfl, hn0, hn1, rfl⟩ := hrel
    by_cases hlt : k < len
    · obtain ⟨s, hsd⟩ : ∃ s, s = ss.getD k ByteArray.empty := ⟨_, rfl⟩
      have hcx : w.cell? ⟨b, off + k, .none⟩ = some (.string s) := by rw [hsd]; exact hc k (by omega)
      have hsz : s.size ≤ 9223372036854775807 := by rw [hsd]; exact size_getD hs (by omega)
      clear hsd
      by_cases h1 : 1048576 < (s.size : Int)
      · go_wp2
        go_ret
        exact ⟨rfl, Below.refl _ _⟩
      · by_cases h2 : 1048576 < n + (16 + (s.size : Int))
        · go_wp2
          go_ret
          exact ⟨rfl, Below.refl _ _⟩
        · go_wp2
          go_round
          case rel => exact ⟨k + 1, n + (16 + s.size), by omega, by go_num, by omega, by omega, by go_num⟩
          case measure => simp [intOf]; omega
    · obtain rfl : len = k := by omega
      go_wp2_with fail
      clear hk hn0 hn1 hlt
      go_loopw [6] (fun i wr => ∃ (k : Nat) (D : DataW Unit), k ≤ len ∧ i = .int .i64 k ∧ wr.ownsMap Try.prog 9 ptrElem w.heap.size k D ∧ Filled ss D k ∧ Below w.heap.size w wr) (fun i _ => len - (intOf i).toNat)
      case atStart => exact ⟨0, .map [], Nat.zero_le _, rfl, World.ownsMap_made _ _ _ _, filled_start ss, (Below.refl _ _).alloc (Nat.le_refl _) _⟩
      case round =>
        obtain ⟨k, D, hk, rfl, hown, hfill, hnx⟩ := hrel
        by_cases hlt : k < len
        · obtain ⟨s, hsd⟩ : ∃ s, s = ss.getD k ByteArray.empty := ⟨_, rfl⟩
          have hcx : wr.cell? ⟨b, off + k, .none⟩ = some (.string s) := by rw [hsd]; exact (hnx.cell (by exact hb)).trans (hc k (by omega))
          have hsz : s.size ≤ maxLen := by rw [hsd]; exact size_getD hs (by omega)
          have hst : Filled ss (D.put (.string s.data.toList) (.lit (.int .i64 wr.heap.size))) (k + 1) := by rw [hsd]; exact filled_step hfill hown.isMap _
          have HST := hide hst
          clear hsd hfill hst
          go_wp2_with (first
            | (at_mapUpdate; go_must (refine wpList_mapUpdate_own _ rfl _ _ _ 25 rfl 9 26 law9 Try.underlying25 _ w.heap.size k _ rfl (hown.alloc _) (by unfold maxLen; omega) _ _ _ rfl rfl (keyOf_string_mk Try.underlying9 hsz) _ [] (ptrElem_mk _) ?_); intro w1 hown1 hg1)
            | go_in)
          go_roundw
          case rel => exact ⟨k + 1, _, by omega, by go_num, hown1, HST, (hnx.alloc hnx.size _).grown hg1 (by have := hnx.size; simp; omega) (fun j hj => by cases hj; exact Nat.le_refl _)⟩
          case measure => simp [intOf]; omega
        · obtain rfl : len = k := by omega
          go_wp2_with (first
            | (at_make; refine wpList_make_full _ rfl _ _ 35 rfl (w.heap.size + 1) 26 i0 (.pointer .none) 1 Try.underlying35 hi hz0 hz1 .i64 .i64 _ _ len rfl rfl rfl rfl (by rw [hz2]; omega) (by unfold maxLen; omega) hown.lt ?_; intro w2 hrow2 hg2)
            | go_in)
          clear hk hlt
          obtain ⟨B, hB⟩ : ∃ B, B = wr.heap.size := ⟨_, rfl⟩
          rw [← hB] at hrow2 ⊢
          have hBw : w.heap.size < B := by rw [hB]; exact hown.lt
          have hown2 : w2.ownsMap Try.prog 9 ptrElem w.heap.size len D := hown.kept hg2 (by simp)
          have hnx2 : Below w.heap.size w w2 := hnx.grown hg2 hnx.size (fun j hj => by cases hj)
          have hB2 : B < w2.heap.size := (hrow2.lt B rfl).2
          clear hown hnx hg2 hB
          go_loopw [8] (fun i wr => ∃ (k : Nat) (xs : List Value), k ≤ len ∧ i = .int .i64 k ∧ wr.ownsMap Try.prog 9 ptrElem w.heap.size len D ∧
              wr.ownsRow (w.heap.size + 1) 26 1 (.slice (some ⟨B, 0, .none⟩) len len) len xs ∧ (∀ j, j < k → xs[j]? = some (.pointer (ptrOf (D.atKey (key ss j) .nil)))) ∧ xs.length = len ∧ Below w.heap.size w wr) (fun i _ => len - (intOf i).toNat)
          case atStart => exact ⟨0, _, Nat.zero_le _, rfl, hown2, hrow2, fun j hj => by omega, by simpa using hrow2.1, hnx2⟩
          case round =>
            obtain ⟨k, xs, hk, rfl, hown, hrow, hxs, hxl, hnx⟩ := hrel
            by_cases hlt : k < len
            · obtain ⟨s, hsd⟩ : ∃ s, s = ss.getD k ByteArray.empty := ⟨_, rfl⟩
              have hcx : wr.cell? ⟨b, off + k, .none⟩ = some (.string s) := by rw [hsd]; exact (hnx.cell (by exact hb)).trans (hc k (by omega))
              have hsz : s.size ≤ maxLen := by rw [hsd]; exact size_getD hs (by omega)
              obtain ⟨p, hpp⟩ : ∃ p, p = ptrOf (D.atKey (key ss k) .nil) := ⟨_, rfl⟩
              have hrun : (Instr.lookup 25 (.map (some w.heap.size)) (.string s) false).run Try.prog wr = .ok (.pointer p) wr := by
                obtain ⟨v, ps, h1, h2⟩ := hown.lookup law9 Try.underlying25 (zero26 wr) ptrElem_nil (keyOf_string_mk Try.underlying9 hsz)
                rw [h1, ptrElem_inv h2, hpp, hsd]; rfl
              have hcell : ∃ v, wr.cell? ⟨B, k, .none⟩ = some v := by
                rw [hrow.cellAt k (by omega)]; exact ⟨_, List.getElem?_eq_getElem (by omega)⟩
              obtain ⟨v0, hv0⟩ := hcell
              have hfr := hrow.frozenAt k
              have hst := hrow.stored k (.pointer p)
              have HST := hide hst
              have HPP := hide hpp
              have HXS := hide hxs
              clear hsd hst hpp hxs
              go_wp2
              go_roundw
              case rel =>
                exact ⟨k + 1, xs.set k (.pointer p), by omega, by go_num, hown.setCell (by show w.heap.size ≠ B; omega) _, HST.out.1, set_step (f := fun j => .pointer (ptrOf (D.atKey (key ss j) .nil))) HXS.out (by rw [HPP.out]) (by omega), by simp [hxl], hnx.setCell (by show w.heap.size ≤ B; omega) _⟩
              case measure => simp [intOf]; omega
            · obtain rfl : len = k := by omega
              have hlen0 := fun ty => hown.len Try.underlying25 ty
              obtain ⟨n0, hn0⟩ : ∃ n0, n0 = Maps.size D := ⟨_, rfl⟩
              rw [← hn0] at hlen0
              have HN0 := hide hn0
              clear hk hlt hn0
              go_wp2_with fail
              refine (zzCopy_any w.heap.size len D wr hown hlen).mono ?_
              rintro e w3 ⟨rfl, hcop, hbel⟩
              obtain ⟨C, hC⟩ : ∃ C, C = wr.heap.size := ⟨_, rfl⟩
              rw [← hC] at hcop hbel ⊢
              have hBC : B < C := by rw [hC]; exact (hrow.lt B rfl).2
              have hown3 := ownsMap_below hown hbel (by omega)
              have hlen1 := fun ty => hown3.len Try.underlying25 ty
              have hlen2 := fun ty => hcop.len Try.underlying25 ty
              rw [← HN0.out] at hlen1 hlen2
              have hnx3 : Below w.heap.size w w3 := hnx.trans (hbel.mono (by omega))
              have hwant : ∀ j, j < len → w3.cell? ⟨B, j, .none⟩ = some (.pointer (ptrOf (D.atKey (key ss j) .nil))) := fun j hj => by
                rw [hbel.cell (p := ⟨B, j, .none⟩) hBC, hrow.cellAt j (by omega)]; exact hxs j hj
              have hfree : ∀ j, w3.frozen? ⟨B, j, .none⟩ = false := fun j => by
                rw [hbel.frozen (p := ⟨B, j, .none⟩) hBC]; exact hrow.frozenAt j
              have hCw : C < w3.heap.size := hcop.lt
              clear hown hrow hxs hbel hC hlen0 hnx
              go_wp2_with fail
              go_loop [11] (fun i => ∃ k : Nat, k ≤ len ∧ i = .int .i64 k) (fun i => len - (intOf i).toNat)
              case atStart => exact ⟨0, Nat.zero_le _, rfl⟩
              case round =>
                obtain ⟨k, hk, rfl⟩ := hrel
                by_cases hlt : k < len
                · obtain ⟨s, hsd⟩ : ∃ s, s = ss.getD k ByteArray.empty := ⟨_, rfl⟩
                  have hcx : w3.cell? ⟨b, off + k, .none⟩ = some (.string s) := by rw [hsd]; exact (hnx3.cell (by exact hb)).trans (hc k (by omega))
                  have hsz : s.size ≤ maxLen := by rw [hsd]; exact size_getD hs (by omega)
                  obtain ⟨p, hpp⟩ : ∃ p, p = ptrOf (D.atKey (key ss k) .nil) := ⟨_, rfl⟩
                  have hrun : (Instr.lookup 25 (.map (some C)) (.string s) true).run Try.prog w3 = .ok (.tuple #[.pointer p, .bool true]) w3 := by
                    obtain ⟨v, ps, h1, h2⟩ := hcop.look_ok law9 Try.underlying25 (zero26 w3) ptrElem_nil (keyOf_string_mk Try.underlying9 hsz)
                    have h3 := hfill.1 k hlt
                    rw [h1, ptrElem_inv h2, hpp, hsd]
                    unfold key at h3
                    rw [h3]; rfl
                  have hw := hwant k hlt
                  rw [← hpp] at hw
                  have hne := neq_same p w3
                  clear hsd hpp hwant hfree
                  go_wp2
                  go_round
                  case rel => exact ⟨k + 1, by omega, by go_num⟩
                  case measure => simp [intOf]; omega
                · obtain rfl : len = k := by omega
                  clear hk hlt
                  go_wp2_with fail
                  go_loopw [14] (fun i wr => ∃ (k : Nat) (D' : DataW Unit), k ≤ len ∧ i = .int .i64 k ∧ wr.ownsMap Try.prog 9 ptrElem C 1048576 D' ∧ Struck ss D D' k ∧ Below C w3 wr) (fun i _ => len - (intOf i).toNat)
                  case atStart => exact ⟨0, D, Nat.zero_le _, rfl, hcop, struck_start ss D, Below.refl _ _⟩
                  case round =>
                    obtain ⟨k, D', hk, rfl, hown, hstr, hbel⟩ := hrel
                    by_cases hlt : k < len
                    · obtain ⟨s, hsd⟩ : ∃ s, s = ss.getD k ByteArray.empty := ⟨_, rfl⟩
                      have hcx : wr.cell? ⟨b, off + k, .none⟩ = some (.string s) := by rw [hsd]; exact (hbel.cell (p := ⟨b, off + k, .none⟩) (show b < C by omega)).trans ((hnx3.cell (by exact hb)).trans (hc k (by omega)))
                      have hsz : s.size ≤ maxLen := by rw [hsd]; exact size_getD hs (by omega)
                      have hst : Struck ss D (D'.del (.string s.data.toList)) (k + 1) := by rw [hsd]; exact struck_step hstr
                      have HST := hide hst
                      clear hsd hst hwant hfree
                      go_wp2_with (first
                        | (at_delete; go_must (refine wpList_delete_own _ rfl _ _ 25 9 rfl 26 law9 Try.underlying25 _ C 1048576 D' rfl hown _ _ rfl (keyOf_string_mk Try.underlying9 hsz) ?_); intro w1 hown1 hturn1)
                        | go_in)
                      go_roundw
                      case rel => exact ⟨k + 1, _, by omega, by go_num, hown1, HST.out, hbel.grown hturn1.grown (by have := hbel.size; omega) (fun j hj => by cases hj; exact Nat.le_refl _)⟩
                      case measure => simp [intOf]; omega
                    · obtain rfl : len = k := by omega
                      have hown4 := ownsMap_below hown3 hbel (by omega)
                      have hl4 := fun ty => hown4.len Try.underlying25 ty
                      have hl5 := fun ty => hown.len Try.underlying25 ty
                      rw [struck_end hfill hstr (hown.canon law9)] at hl5
                      rw [← HN0.out] at hl4
                      have hnx4 : Below w.heap.size w wr := hnx3.trans (hbel.mono (by omega))
                      have hwant4 : ∀ j, j < len → wr.cell? ⟨B, j, .none⟩ = some (.pointer (ptrOf (D.atKey (key ss j) .nil))) := fun j hj => by
                        rw [hbel.cell (p := ⟨B, j, .none⟩) hBC]; exact hwant j hj
                      clear hk hlt hwant hfree hown3 hlen1 hlen2 hown hstr hbel hcop
                      go_wp2_with fail
                      go_loop [15] (fun i => ∃ k : Nat, k ≤ len ∧ i = .int .i64 k) (fun i => len - (intOf i).toNat)
                      case atStart => exact ⟨0, Nat.zero_le _, rfl⟩
                      case round =>
                        obtain ⟨k, hk, rfl⟩ := hrel
                        by_cases hlt : k < len
                        · obtain ⟨s, hsd⟩ : ∃ s, s = ss.getD k ByteArray.empty := ⟨_, rfl⟩
                          have hcx : wr.cell? ⟨b, off + k, .none⟩ = some (.string s) := by rw [hsd]; exact (hnx4.cell (by exact hb)).trans (hc k (by omega))
                          have hsz : s.size ≤ maxLen := by rw [hsd]; exact size_getD hs (by omega)
                          obtain ⟨p, hpp⟩ : ∃ p, p = ptrOf (D.atKey (key ss k) .nil) := ⟨_, rfl⟩
                          have hrun : (Instr.lookup 25 (.map (some w.heap.size)) (.string s) true).run Try.prog wr = .ok (.tuple #[.pointer p, .bool true]) wr := by
                            obtain ⟨v, ps, h1, h2⟩ := hown4.look_ok law9 Try.underlying25 (zero26 wr) ptrElem_nil (keyOf_string_mk Try.underlying9 hsz)
                            have h3 := hfill.1 k hlt
                            rw [h1, ptrElem_inv h2, hpp, hsd]
                            unfold key at h3
                            rw [h3]; rfl
                          have hw := hwant4 k hlt
                          rw [← hpp] at hw
                          have hne := neq_same p wr
                          clear hsd hpp hwant4
                          go_wp2
                          go_round
                          case rel => exact ⟨k + 1, by omega, by go_num⟩
                          case measure => simp [intOf]; omega
                        · clear hwant4
                          go_wp2
                          go_ret
                          exact ⟨rfl, hnx4⟩

set_option maxRecDepth 100000 in
/-- No string: nothing goes round. -/
theorem walk3_empty (a0 : Option Addr) (cap : Nat) (w : World) :
    Calls Try.prog 3 #[.slice a0 0 cap] w fun e w' => e = .returned (.bool true) ∧ Below w.heap.size w w' := by
  obtain ⟨i0, hi, hz0, hz1, hz2⟩ := info_parts info26
  have hmm := makeMap25
  have hown0 := World.ownsMap_made (H := Unit) w Try.prog 9 ptrElem
  go_enter Try.func3, Try.ntmps3
  go_wp2_with (go_at_call 6; refine (bytes6_empty a0 cap _).mono ?_; rintro e w' ⟨rfl, rfl⟩)
  refine wp_loop_rounds 1 ?_
  rw [rounds_succ]
  go_wp2_with fail
  refine wp_loop_rounds 1 ?_
  rw [rounds_succ]
  go_wp2_with (first
    | (at_make; go_must (refine wpList_make_full _ rfl _ _ 35 rfl (w'.heap.size + 1) 26 i0 (.pointer .none) 1 Try.underlying35 hi hz0 hz1 .i64 .i64 _ _ 0 rfl rfl rfl rfl (by rw [hz2]; omega) (by unfold maxLen; omega) (by simp) ?_); intro w2 hrow2 hg2)
    | go_in)
  refine wp_loop_rounds 1 ?_
  rw [rounds_succ]
  have hown2 := hown0.kept hg2 (by simp)
  have hlen0 := fun ty => hown2.len Try.underlying25 ty
  have hs0 : Maps.size (DataW.map [] : DataW Unit) = 0 := rfl
  rw [hs0] at hlen0
  have hnx2 : Below w'.heap.size w' w2 := ((Below.refl _ _).alloc (Nat.le_refl _) _).grown hg2 (by simp) (fun j hj => by cases hj)
  clear hg2 hrow2
  go_wp2_with fail
  refine (zzCopy_any w'.heap.size 0 _ w2 hown2 (by omega)).mono ?_
  rintro e w3 ⟨rfl, hcop, hbel⟩
  have hown3 := ownsMap_below hown2 hbel hown2.lt
  have hlen1 := fun ty => hown3.len Try.underlying25 ty
  have hlen2 := fun ty => hcop.len Try.underlying25 ty
  rw [hs0] at hlen1 hlen2
  have hnx3 : Below w'.heap.size w' w3 := hnx2.trans (hbel.mono (Nat.le_of_lt hown2.lt))
  clear hlen0
  go_wp2_with fail
  refine wp_loop_rounds 1 ?_
  rw [rounds_succ]
  go_wp2_with fail
  refine wp_loop_rounds 1 ?_
  rw [rounds_succ]
  go_wp2_with fail
  refine wp_loop_rounds 1 ?_
  rw [rounds_succ]
  go_wp2
  go_ret
  exact ⟨rfl, hnx3⟩
end Go.Proofs.Qxb6613894a
