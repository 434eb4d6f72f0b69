/-
  numalign: validNodesB1, sameIntsB1, hintsKnownB1, the exported readers.
-/
import Derived.Test.Qxb6613881aFmtSort
import Derived.Test.Qxb6613881aFmtRes
namespace Go.Proofs.Qxb6613881aFmt
open Go.RowKit
set_option linter.unusedVariables false

/-- Ascending, distinct, none below 0, some. -/
def Good (L : List Int) : Prop := L ≠ [] ∧ L.Pairwise (· < ·) ∧ ∀ x ∈ L, 0 ≤ x
theorem strict_take {L : List Int} {k : Nat} (hk : k + 1 < L.length) (h : (L.take (k + 1)).Pairwise (· < ·)) (hs : L.Pairwise (· ≤ ·)) (hne : ¬ L[k + 1]?.getD 0 = L[k]?.getD 0) : (L.take (k + 2)).Pairwise (· < ·) := by
  rw [List.take_succ_eq_append_getElem hk, List.pairwise_append]
  refine ⟨h, List.pairwise_singleton _ _, ?_⟩
  intro a ha b hb
  simp at hb
  subst hb
  have h1 : L[k]?.getD 0 ≤ L[k + 1]?.getD 0 := by
    have := List.pairwise_iff_getElem.1 hs k (k + 1) (by omega) hk (by omega)
    rw [List.getElem?_eq_getElem (by omega), List.getElem?_eq_getElem hk]
    exact this
  rw [List.getElem?_eq_getElem hk] at h1 hne
  obtain ⟨j, hj, e⟩ := List.getElem_of_mem ha
  have hj' : j < k + 1 := by simp at hj; omega
  simp at e
  have h2 : L[j]?.getD 0 ≤ L[k]?.getD 0 := by
    by_cases e' : j = k
    · subst e'; exact Int.le_refl _
    · have := List.pairwise_iff_getElem.1 hs j k (by omega) (by omega) (by omega)
      rw [List.getElem?_eq_getElem (by omega), List.getElem?_eq_getElem (by omega)]
      exact this
  rw [List.getElem?_eq_getElem (by omega : j < L.length)] at h2
  simp at h1 hne h2
  rw [← e]
  omega
theorem good_of {L : List Int} {n : Nat} (hn : L.length = n) (h0 : 0 < n) (hp : ¬ L[0]?.getD 0 < 0) (hs : L.Pairwise (· < ·)) : Good L := by
  refine ⟨fun e => by subst e; simp at hn; omega, hs, fun x hx => ?_⟩
  obtain ⟨j, hj, e⟩ := List.getElem_of_mem hx
  by_cases hj0 : j = 0
  · subst hj0
    rw [List.getElem?_eq_getElem hj, e] at hp
    simp at hp
    exact hp
  · have := pair_lt hs (i := 0) (j := j) (by omega) hj
    rw [List.getElem?_eq_getElem hj, e] at this
    simp at this
    simp at hp
    omega

theorem take_one_strict (zs : List Int) : (zs.take 1).Pairwise (· < ·) := by
  cases zs with
  | nil => simp
  | cons x r => simp
theorem succ_pred {k n : Nat} (h : k + 1 ≤ n) (hn : n ≤ 65536) : wrap64 ((k : Int) + 1 - 1) = (k : Int) := by unfold wrap64; omega
theorem succ_toNat (k : Nat) : ((k : Int) + 1).toNat = k + 1 := by omega

set_option maxHeartbeats 1000000 in
/-- validNodesB1(sorted), sorted being ascending. -/
theorem valid_any (g n cap : Nat) (L : List Int) (w : World) (hg : ∀ j, j < n → w.cell? ⟨g, j, .none⟩ = some (.int .i64 (L[j]?.getD 0))) (hn : L.length = n) (hs : L.Pairwise (· ≤ ·)) (hn1 : n ≤ 65536) :
    Calls Tryf.prog 8 #[.slice (some ⟨g, 0, .none⟩) n cap] w fun e w' => (∃ m, w.drewN m = w') ∧ ((e = .returned (.bool true) ∧ Good L) ∨ e = .returned (.bool false)) := by
  have HG := hide hg
  have HN := hide hn
  have HS := hide hs
  clear hn hs hg
  by_cases hn0 : 0 < n
  · have hc0 := HG.out 0 hn0
    have hni : ((n : Int) == 0) = false := by simp; omega
    have hni2 : (0 : Int) < n := by omega
    obtain ⟨x, hx⟩ : ∃ x, L[0]?.getD 0 = x := ⟨_, rfl⟩
    rw [hx] at hc0
    have HX := hide hx
    clear hx
    by_cases hx0 : x < 0
    · go_enter Tryf.func8, Tryf.ntmps8
      go_wp2_with fail
      go_ret
      exact ⟨⟨0, rfl⟩, .inr rfl⟩
    · go_enter Tryf.func8, Tryf.ntmps8
      go_wp2_with fail
      go_loopw [3] (fun i wr => ∃ k m : Nat, k + 1 ≤ n ∧ i = .int .i64 ((k : Int) + 1) ∧ (L.take (k + 1)).Pairwise (· < ·) ∧ wr = w.drewN m) (fun i _ => n - (intOf i).toNat)
      case atStart => exact ⟨0, 0, hn0, rfl, take_one_strict L, rfl⟩
      case round =>
        obtain ⟨k, m, hk, rfl, hup, rfl⟩ := hrel
        have HUP := hide hup
        clear hup
        by_cases hlt : k + 1 < n
        · have h1 := HG.out k (Nat.lt_of_succ_lt hlt)
          have h2 := HG.out (k + 1) hlt
          have hli : (k : Int) + 1 < n := by omega
          have hli2 : (k : Int) < n := by omega
          have hw1 := succ_pred (k := k) (n := n) hk hn1
          have htn := succ_toNat k
          obtain ⟨y, hy⟩ : ∃ y, L[k]?.getD 0 = y := ⟨_, rfl⟩
          obtain ⟨z, hz⟩ : ∃ z, L[k + 1]?.getD 0 = z := ⟨_, rfl⟩
          rw [hy] at h1
          rw [hz] at h2
          have HY := hide hy
          have HZ := hide hz
          clear hy hz
          by_cases hzy : z = y
          · have hq : (z == y) = true := by simp [hzy]
            clear hzy
            go_wp2_with fail
            go_quiet (fail)
            go_wp2_with fail
            go_ret
            exact ⟨⟨_, (World.drewN_drewN _ _ _).symm⟩, .inr rfl⟩
          · have hq : (z == y) = false := by simp [hzy]
            go_wp2_with fail
            go_quiet (fail)
            go_wp2_with fail
            go_roundw
            case rel => exact ⟨k + 1, _, hlt, by go_num, strict_take (by rw [HN.out]; exact hlt) HUP.out HS.out (by rw [HY.out, HZ.out]; exact hzy), rfl⟩
            case measure => simp [intOf]; omega
        · have e : k + 1 = n := Nat.le_antisymm hk (Nat.le_of_not_lt hlt)
          have hli : (n : Int) ≤ (k : Int) + 1 := by omega
          go_wp2_with fail
          go_ret
          have hst := HUP.out
          rw [e, ← HN.out, List.take_length] at hst
          exact ⟨⟨m, rfl⟩, .inl ⟨rfl, good_of HN.out hn0 (by rw [HX.out]; omega) hst⟩⟩
  · obtain rfl : n = 0 := Nat.eq_zero_of_not_pos hn0
    go_enter Tryf.func8, Tryf.ntmps8
    go_wp2_with fail
    go_ret
    exact ⟨⟨0, rfl⟩, .inr rfl⟩

set_option maxHeartbeats 1000000 in
/-- sameIntsB1 of two slices that read alike. -/
theorem sameInts_any (g g' n c c' : Nat) (L : List Int) (w : World) (hg : ∀ j, j < n → w.cell? ⟨g, j, .none⟩ = some (.int .i64 (L[j]?.getD 0))) (hg' : ∀ j, j < n → w.cell? ⟨g', j, .none⟩ = some (.int .i64 (L[j]?.getD 0))) (hn1 : n ≤ 65536) :
    Calls Tryf.prog 15 #[.slice (some ⟨g, 0, .none⟩) n c, .slice (some ⟨g', 0, .none⟩) n c'] w fun e w' => e = .returned (.bool true) ∧ ∃ m, w.drewN m = w' := by
  have HG := hide hg
  have HG' := hide hg'
  clear hg hg'
  have hq0 : ((n : Int) != (n : Int)) = false := by simp
  go_enter Tryf.func15, Tryf.ntmps15
  go_wp2_with fail
  go_loopw [5] (fun i wr => ∃ k m : Nat, k ≤ n ∧ i = .int .i64 k ∧ wr = w.drewN m) (fun i _ => n - (intOf i).toNat)
  case atStart => exact ⟨0, 0, Nat.zero_le _, rfl, rfl⟩
  case round =>
    obtain ⟨k, m, hk, rfl, rfl⟩ := hrel
    by_cases hlt : k < n
    · have c1 := HG.out k hlt
      have c2 := HG'.out k hlt
      obtain ⟨x, hx⟩ : ∃ x, L[k]?.getD 0 = x := ⟨_, rfl⟩
      rw [hx] at c1 c2
      have q : (x != x) = false := by simp
      have hki : (k : Int) < n := Int.ofNat_lt.2 hlt
      clear hx
      go_wp2_with fail
      go_quiet (fail)
      go_wp2_with fail
      go_roundw
      case rel => exact ⟨k + 1, _, hlt, by go_num, rfl⟩
      case measure => simp [intOf]; omega
    · go_wp2_with fail
      go_ret
      exact ⟨rfl, m, rfl⟩

/-- Every hint names some node, and nodes of the machine alone. -/
def okAll (ns : List Int) (hl : List (List Int)) : Bool := hl.all fun h => !h.isEmpty && known ns h
theorem okAll_take {ns : List Int} {hl : List (List Int)} {k : Nat} (hk : k < hl.length) (h : okAll ns (hl.take k) = true) (h1 : hl[k]?.getD [] ≠ []) (h2 : known ns (hl[k]?.getD []) = true) : okAll ns (hl.take (k + 1)) = true := by
  unfold okAll at *
  rw [List.take_succ_eq_append_getElem hk, List.all_append, h]
  rw [List.getElem?_eq_getElem hk] at h1 h2
  simp at h1 h2 ⊢
  exact ⟨h1, h2⟩
theorem okAll_not {ns : List Int} {hl : List (List Int)} {k : Nat} (hk : k < hl.length) (h : hl[k]?.getD [] = [] ∨ known ns (hl[k]?.getD []) = false) : okAll ns hl = false := by
  unfold okAll
  rw [List.all_eq_false]
  refine ⟨hl[k], List.getElem_mem hk, ?_⟩
  rw [List.getElem?_eq_getElem hk] at h
  simp at h
  rcases h with h | h
  · simp [h]
  · simp [h]
theorem ret_bool {b b' : Bool} (h : b = b') : Ending.returned (.bool b') = Ending.returned (.bool b) := by rw [h]

set_option maxHeartbeats 1000000 in
/-- hintsKnownB1(hints, sorted). -/
theorem hintsKnown_any (B N hcap g n c : Nat) (ha : Option Addr) (hl : List (List Int)) (ns : List Int) (w : World) (hN : Nodes ns n) (hc : ∀ j, j < n → w.cell? ⟨g, j, .none⟩ = some (.int .i64 (ns[j]?.getD 0))) (hrow : Rows B w ha N hl) (hNl : N ≤ 1048576) :
    Calls Tryf.prog 9 #[.slice ha N hcap, .slice (some ⟨g, 0, .none⟩) n c] w fun e w' => e = .returned (.bool (okAll ns hl)) ∧ w = w' := by
  have hP := fun x => positionOf_any g 0 n c ns x w hN.len hN.up (by have := hN.small; omega) (fun j hj => by rw [Nat.zero_add]; exact hc j hj)
  have HR := hide hrow
  clear hc hrow hN
  go_enter Tryf.func9, Tryf.ntmps9
  go_wp2_with fail
  go_loopw [5] (fun i wr => ∃ k : Nat, k ≤ N ∧ i = .int .i64 k ∧ okAll ns (hl.take k) = true ∧ wr = w) (fun i _ => N - (intOf i).toNat)
  case atStart => exact ⟨0, Nat.zero_le _, rfl, by simp [okAll], rfl⟩
  case round =>
    obtain ⟨k, hk, rfl, hok, rfl⟩ := hrel
    have HOK := hide hok
    clear hok
    by_cases hlt : k < N
    · have hlti : (k : Int) < N := Int.ofNat_lt.2 hlt
      have hkl : k < hl.length := by rw [HR.out.1]; exact hlt
      obtain ⟨b, off, a, m, c', rfl, hbB, hcell, hi, hm, hm2, hr⟩ := HR.out.at hlt
      have HI := hide hi
      have HM := hide hm
      clear hi hm hr
      by_cases hm0 : m = 0
      · subst hm0
        go_wp2_with fail
        go_ret
        exact ⟨ret_bool (okAll_not hkl (.inl (List.eq_nil_of_length_eq_zero HM.out))), rfl⟩
      · have hmi : ((m : Int) == 0) = false := by simp; omega
        have hne : hl[k]?.getD [] ≠ [] := fun e => by rw [e] at HM; exact hm0 HM.out.symm
        have hmp : 0 < m := Nat.pos_of_ne_zero hm0
        rcases HI.out with h0 | ⟨ib, io, rfl, _, hci⟩
        · exact absurd (by simpa using h0) hne
        · have HCI := hide hci
          clear hci HI
          go_wp2_with fail
          go_loopw [6] (fun i wq => ∃ q : Nat, q ≤ m ∧ i = .int .i64 q ∧ known ns ((hl[k]?.getD []).take q) = true ∧ wq = wr) (fun i _ => m - (intOf i).toNat)
          case atStart => exact ⟨0, Nat.zero_le _, rfl, by simp [known], rfl⟩
          case round =>
            obtain ⟨q, hq, rfl, hkn, rfl⟩ := hrel
            have HKN := hide hkn
            clear hkn
            by_cases hlt2 : q < m
            · have hqi : (q : Int) < m := Int.ofNat_lt.2 hlt2
              have hql : q < (hl[k]?.getD []).length := by rw [HM.out]; exact hlt2
              have hcq := HCI.out q (.int .i64 ((hl[k]?.getD [])[q]?.getD 0)) (by rw [List.getElem?_map, List.getElem?_eq_getElem hql]; rfl)
              obtain ⟨x, hx⟩ : ∃ x, (hl[k]?.getD [])[q]?.getD 0 = x := ⟨_, rfl⟩
              rw [hx] at hcq
              have HX := hide hx
              have hPx := hP x
              clear hx hP
              by_cases hxn : x ∈ ns
              · rw [posOf_mem hxn] at hPx
                go_wp2_with (first | (go_at_call 22; refine hPx.mono ?_; rintro e w1 ⟨rfl, rfl⟩) | fail)
                go_roundw
                case rel => exact ⟨q + 1, hlt2, by go_num, known_take hql HKN.out (by rw [HX.out]; exact hxn), by trivial⟩
                case measure => simp [intOf]; omega
              · have hpx : posOf ns x = -1 := by unfold posOf; rw [if_neg hxn]
                rw [hpx] at hPx
                go_wp2_with (first | (go_at_call 22; refine hPx.mono ?_; rintro e w1 ⟨rfl, rfl⟩) | fail)
                go_ret
                exact ⟨ret_bool (okAll_not hkl (.inr (known_not hql (by rw [HX.out]; exact hxn)))), rfl⟩
            · obtain rfl : q = m := Nat.le_antisymm hq (Nat.le_of_not_lt hlt2)
              have hkn : known ns (hl[k]?.getD []) = true := by
                have := HKN.out
                rwa [← HM.out, List.take_length] at this
              have HK2 := hide (okAll_take hkl HOK.out hne hkn)
              clear hP hkn
              go_wp2_with fail
              go_roundw
              case rel => exact ⟨k + 1, hlt, by go_num, HK2.out, by trivial⟩
              case measure => simp [intOf]; omega
    · have e1 : hl.take k = hl := List.take_of_length_le (by rw [HR.out.1]; exact Nat.le_of_not_lt hlt)
      have hok := HOK.out
      rw [e1] at hok
      have HOK2 := hide hok
      clear hok hP
      go_wp2_with fail
      go_ret
      exact ⟨ret_bool HOK2.out, rfl⟩
end Go.Proofs.Qxb6613881aFmt
