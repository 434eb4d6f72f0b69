/-
  numalign: the bounds: zzBytes, hintsOverBoundB1.
-/
import Derived.Test.Qxb6613881aFmtHelp
namespace Go.Proofs.Qxb6613881aFmt
open Go.RowKit
set_option linter.unusedVariables false

/-- Rows as they come in: no bound on their lengths. -/
def Rows0 (B : Nat) (w : World) (ha : Option Addr) (N : Nat) (hs : List (List Int)) : Prop :=
  hs.length = N ∧ ∃ vs : List (Option Addr × Nat × Nat), vs.length = N ∧ Rd B w ha (vs.map fun v => Value.slice v.1 v.2.1 v.2.2) ∧
    ∀ (k : Nat) (v : Option Addr × Nat × Nat) (h : List Int), vs[k]? = some v → hs[k]? = some h → Rd B w v.1 (h.map (Value.int .i64)) ∧ h.length = v.2.1 ∧ v.2.1 ≤ 9223372036854775807 ∧ ∀ x ∈ h, inI64 x
theorem Rows0.at {B : Nat} {w : World} {ha : Option Addr} {N : Nat} {hs : List (List Int)} (h : Rows0 B w ha N hs) {k : Nat} (hk : k < N) :
    ∃ b off a m c, ha = some ⟨b, off, .none⟩ ∧ w.cell? ⟨b, off + k, .none⟩ = some (.slice a m c) ∧ (hs[k]?.getD []).length = m ∧ m ≤ 9223372036854775807 := by
  obtain ⟨h1, vs, h2, h3, h4⟩ := h
  rcases h3 with h0 | ⟨b, off, rfl, hb, hc⟩
  · exfalso
    have : vs = [] := by simpa using h0
    subst this
    simp at h2
    omega
  · obtain ⟨v, hv⟩ : ∃ v, vs[k]? = some v := ⟨_, List.getElem?_eq_getElem (by omega)⟩
    obtain ⟨h, hh⟩ : ∃ h, hs[k]? = some h := ⟨_, List.getElem?_eq_getElem (by omega)⟩
    have := h4 k v h hv hh
    refine ⟨b, off, v.1, v.2.1, v.2.2, rfl, hc k _ (by rw [List.getElem?_map, hv]; rfl), ?_⟩
    rw [hh]
    exact ⟨this.2.1, this.2.2.1⟩
theorem Rows0.small {B : Nat} {w : World} {ha : Option Addr} {N : Nat} {hs : List (List Int)} (h : Rows0 B w ha N hs) (hb : ∀ k, k < N → (hs[k]?.getD []).length ≤ 131072) : Rows B w ha N hs := by
  obtain ⟨h1, vs, h2, h3, h4⟩ := h
  refine ⟨h1, vs, h2, h3, fun k v h hv hh => ?_⟩
  obtain ⟨q1, q2, q3, q4⟩ := h4 k v h hv hh
  refine ⟨q1, q2, ?_, q4⟩
  have hk : k < N := by rw [← h1]; exact (List.getElem?_eq_some_iff.1 hh).1
  have := hb k hk
  rw [hh] at this
  simp at this
  omega


set_option maxHeartbeats 2000000 in
set_option maxRecDepth 100000 in
/-- zzBytes: some bool. -/
theorem zz5_any (B n c NA ca PA pca NB cb PB pcb : Nat) (a ha pa hb pb : Option Addr) (hA hB : List (List Int)) (w : World) (h1 : Rows0 B w ha NA hA) (h2 : Rows0 B w hb NB hB) (m1 : n ≤ 9223372036854775807) (m2 : NA ≤ 9223372036854775807) (m3 : PA ≤ 9223372036854775807) (m4 : NB ≤ 9223372036854775807) (m5 : PB ≤ 9223372036854775807) :
    Calls Tryf.prog 5 #[.slice a n c, .slice ha NA ca, .slice pa PA pca, .slice hb NB cb, .slice pb PB pcb] w fun e w' => (e = .returned (.bool true) ∨ e = .returned (.bool false)) ∧ w = w' := by
  have H1 := hide h1
  have H2 := hide h2
  clear h1 h2
  go_enter Tryf.func5, Tryf.ntmps5
  go_wp2_with fail
  all_goals first | (go_ret; exact ⟨.inr rfl, rfl⟩) | skip
  go_loopw [11, 12] (fun t i wr => ∃ (z : Int) (k : Nat), 0 ≤ z ∧ z ≤ 1048576 ∧ k ≤ NA ∧ t = .int .i64 z ∧ i = .int .i64 k ∧ wr = w) (fun t i _ => NA - (intOf i).toNat)
  case atStart => exact ⟨_, 0, by omega, by omega, Nat.zero_le _, rfl, rfl, rfl⟩
  case round =>
    obtain ⟨z, k, hz0, hz1, hk, rfl, rfl, rfl⟩ := hrel
    by_cases hlt : k < NA
    · have hlti : (k : Int) < NA := Int.ofNat_lt.2 hlt
      obtain ⟨b, off, a', m, c', rfl, hcell, _, hm⟩ := H1.out.at hlt
      by_cases hm1 : (m : Int) ≤ 1048576
      · by_cases hm2 : z + (m : Int) ≤ 1048576
        · go_wp2_with fail
          go_roundw
          case rel => exact ⟨z + m, k + 1, by omega, by omega, hlt, by go_num, by go_num, by trivial⟩
          case measure => simp [intOf]; omega
        · go_wp2_with fail
          go_ret
          exact ⟨.inr rfl, rfl⟩
      · go_wp2_with fail
        go_ret
        exact ⟨.inr rfl, rfl⟩
    · obtain rfl : k = NA := Nat.le_antisymm hk (Nat.le_of_not_lt hlt)
      clear hlt hk
      go_wp2_with fail
      all_goals first | (go_ret; exact ⟨.inr rfl, rfl⟩) | skip
      go_loopw [11, 13] (fun t i wq => ∃ (z : Int) (k : Nat), 0 ≤ z ∧ z ≤ 1048576 ∧ k ≤ NB ∧ t = .int .i64 z ∧ i = .int .i64 k ∧ wq = wr) (fun t i _ => NB - (intOf i).toNat)
      case atStart => exact ⟨_, 0, by omega, by omega, Nat.zero_le _, rfl, rfl, rfl⟩
      case round =>
        obtain ⟨z, k, hz0, hz1, hk, rfl, rfl, rfl⟩ := hrel
        by_cases hlt : k < NB
        · have hlti : (k : Int) < NB := Int.ofNat_lt.2 hlt
          obtain ⟨b, off, a', m, c', rfl, hcell, _, hm⟩ := H2.out.at hlt
          by_cases hm1 : (m : Int) ≤ 1048576
          · by_cases hm2 : z + (m : Int) ≤ 1048576
            · go_wp2_with fail
              go_roundw
              case rel => exact ⟨z + m, k + 1, by omega, by omega, hlt, by go_num, by go_num, by trivial⟩
              case measure => simp [intOf]; omega
            · go_wp2_with fail
              go_ret
              exact ⟨.inr rfl, rfl⟩
          · go_wp2_with fail
            go_ret
            exact ⟨.inr rfl, rfl⟩
        · obtain rfl : k = NB := Nat.le_antisymm hk (Nat.le_of_not_lt hlt)
          clear hlt hk
          go_wp2_with fail
          all_goals (go_ret; first | exact ⟨.inr rfl, rfl⟩ | exact ⟨.inl rfl, rfl⟩)

set_option maxHeartbeats 2000000 in
set_option maxRecDepth 100000 in
/-- zzBytes: some bool. -/
theorem zz20_any (B n c NA ca PA pca NB cb PB pcb : Nat) (a ha pa hb pb : Option Addr) (hA hB : List (List Int)) (w : World) (h1 : Rows0 B w ha NA hA) (h2 : Rows0 B w hb NB hB) (m1 : n ≤ 9223372036854775807) (m2 : NA ≤ 9223372036854775807) (m3 : PA ≤ 9223372036854775807) (m4 : NB ≤ 9223372036854775807) (m5 : PB ≤ 9223372036854775807) :
    Calls Tryf.prog 20 #[.slice a n c, .slice ha NA ca, .slice pa PA pca, .slice hb NB cb, .slice pb PB pcb] w fun e w' => (e = .returned (.bool true) ∨ e = .returned (.bool false)) ∧ w = w' := by
  have H1 := hide h1
  have H2 := hide h2
  clear h1 h2
  go_enter Tryf.func20, Tryf.ntmps20
  go_wp2_with fail
  all_goals first | (go_ret; exact ⟨.inr rfl, rfl⟩) | skip
  go_loopw [11, 12] (fun t i wr => ∃ (z : Int) (k : Nat), 0 ≤ z ∧ z ≤ 1048576 ∧ k ≤ NA ∧ t = .int .i64 z ∧ i = .int .i64 k ∧ wr = w) (fun t i _ => NA - (intOf i).toNat)
  case atStart => exact ⟨_, 0, by omega, by omega, Nat.zero_le _, rfl, rfl, rfl⟩
  case round =>
    obtain ⟨z, k, hz0, hz1, hk, rfl, rfl, rfl⟩ := hrel
    by_cases hlt : k < NA
    · have hlti : (k : Int) < NA := Int.ofNat_lt.2 hlt
      obtain ⟨b, off, a', m, c', rfl, hcell, _, hm⟩ := H1.out.at hlt
      by_cases hm1 : (m : Int) ≤ 1048576
      · by_cases hm2 : z + (m : Int) ≤ 1048576
        · go_wp2_with fail
          go_roundw
          case rel => exact ⟨z + m, k + 1, by omega, by omega, hlt, by go_num, by go_num, by trivial⟩
          case measure => simp [intOf]; omega
        · go_wp2_with fail
          go_ret
          exact ⟨.inr rfl, rfl⟩
      · go_wp2_with fail
        go_ret
        exact ⟨.inr rfl, rfl⟩
    · obtain rfl : k = NA := Nat.le_antisymm hk (Nat.le_of_not_lt hlt)
      clear hlt hk
      go_wp2_with fail
      all_goals first | (go_ret; exact ⟨.inr rfl, rfl⟩) | skip
      go_loopw [11, 13] (fun t i wq => ∃ (z : Int) (k : Nat), 0 ≤ z ∧ z ≤ 1048576 ∧ k ≤ NB ∧ t = .int .i64 z ∧ i = .int .i64 k ∧ wq = wr) (fun t i _ => NB - (intOf i).toNat)
      case atStart => exact ⟨_, 0, by omega, by omega, Nat.zero_le _, rfl, rfl, rfl⟩
      case round =>
        obtain ⟨z, k, hz0, hz1, hk, rfl, rfl, rfl⟩ := hrel
        by_cases hlt : k < NB
        · have hlti : (k : Int) < NB := Int.ofNat_lt.2 hlt
          obtain ⟨b, off, a', m, c', rfl, hcell, _, hm⟩ := H2.out.at hlt
          by_cases hm1 : (m : Int) ≤ 1048576
          · by_cases hm2 : z + (m : Int) ≤ 1048576
            · go_wp2_with fail
              go_roundw
              case rel => exact ⟨z + m, k + 1, by omega, by omega, hlt, by go_num, by go_num, by trivial⟩
              case measure => simp [intOf]; omega
            · go_wp2_with fail
              go_ret
              exact ⟨.inr rfl, rfl⟩
          · go_wp2_with fail
            go_ret
            exact ⟨.inr rfl, rfl⟩
        · obtain rfl : k = NB := Nat.le_antisymm hk (Nat.le_of_not_lt hlt)
          clear hlt hk
          go_wp2_with fail
          all_goals (go_ret; first | exact ⟨.inr rfl, rfl⟩ | exact ⟨.inl rfl, rfl⟩)

theorem mul_small {NA NB n : Nat} (h1 : NA ≤ 131072) (h2 : NB ≤ 131072) (h3 : n ≤ 4096) : (NA + NB) * ((n + 7) / 8 + 1) ≤ 262144 * 513 := Nat.mul_le_mul (by omega) (by omega)
theorem mul_wrap {NA NB n : Nat} (h1 : NA ≤ 131072) (h2 : NB ≤ 131072) (h3 : n ≤ 4096) : wrap64 (((NA : Int) + (NB : Int)) * (((n : Int) + 7) / 8 + 1)) = (((NA + NB) * ((n + 7) / 8 + 1) : Nat) : Int) := by
  have h := mul_small h1 h2 h3
  have e : ((NA : Int) + (NB : Int)) * (((n : Int) + 7) / 8 + 1) = (((NA + NB) * ((n + 7) / 8 + 1) : Nat) : Int) := by
    push_cast
    rfl
  rw [e]
  generalize (NA + NB) * ((n + 7) / 8 + 1) = q at h ⊢
  unfold wrap64
  omega

theorem mul_back {NA NB n : Nat} (h : ((NA : Int) + (NB : Int)) * (((n : Int) + 7) / 8 + 1) ≤ 4194304) : (NA + NB) * ((n + 7) / 8 + 1) ≤ 4194304 := by
  have e : ((NA : Int) + (NB : Int)) * (((n : Int) + 7) / 8 + 1) = (((NA + NB) * ((n + 7) / 8 + 1) : Nat) : Int) := by
    push_cast
    rfl
  rw [e] at h
  exact Int.ofNat_le.1 h
theorem all_succ {hl : List (List Int)} {k m : Nat} (h : ∀ j, j < k → (hl[j]?.getD []).length ≤ 131072) (h1 : (hl[k]?.getD []).length = m) (hm : m ≤ 131072) : ∀ j, j < k + 1 → (hl[j]?.getD []).length ≤ 131072 := by
  intro j hj
  by_cases e : j = k
  · subst e; omega
  · exact h j (by omega)

set_option maxHeartbeats 2000000 in
set_option maxRecDepth 100000 in
/-- hintsOverBoundB1: true; or false, and all is small. -/
theorem over_any (B n c NA ca PA pca NB cb PB pcb : Nat) (a ha pa hb pb : Option Addr) (hA hB : List (List Int)) (w : World) (h1 : Rows0 B w ha NA hA) (h2 : Rows0 B w hb NB hB) (m1 : n ≤ 9223372036854775807) (m2 : NA ≤ 9223372036854775807) (m3 : PA ≤ 9223372036854775807) (m4 : NB ≤ 9223372036854775807) (m5 : PB ≤ 9223372036854775807) :
    Calls Tryf.prog 6 #[.slice a n c, .slice ha NA ca, .slice pa PA pca, .slice hb NB cb, .slice pb PB pcb] w fun e w' => w = w' ∧ (e = .returned (.bool true) ∨ (e = .returned (.bool false) ∧ n ≤ 4096 ∧ NA ≤ 131072 ∧ NB ≤ 131072 ∧ (∀ k, k < NA → (hA[k]?.getD []).length ≤ 131072) ∧ (∀ k, k < NB → (hB[k]?.getD []).length ≤ 131072) ∧ (NA + NB) * ((n + 7) / 8 + 1) ≤ 4194304)) := by
  have H1 := hide h1
  have H2 := hide h2
  clear h1 h2
  go_enter Tryf.func6, Tryf.ntmps6
  go_wp2_with fail
  all_goals first | (go_ret; exact ⟨rfl, .inl rfl⟩) | skip
  have hn4 : n ≤ 4096 := by omega
  have hA1 : NA ≤ 131072 := by omega
  have hB1 : NB ≤ 131072 := by omega
  go_loopw [11, 12] (fun t i wr => ∃ (z : Int) (k : Nat), 0 ≤ z ∧ z ≤ 1048576 ∧ k ≤ NA ∧ t = .int .i64 z ∧ i = .int .i64 k ∧ wr = w ∧ (∀ j, j < k → (hA[j]?.getD []).length ≤ 131072)) (fun t i _ => NA - (intOf i).toNat)
  case atStart => exact ⟨_, 0, by omega, by omega, Nat.zero_le _, rfl, rfl, rfl, fun j hj => absurd hj (Nat.not_lt_zero _)⟩
  case round =>
    obtain ⟨z, k, hz0, hz1, hk, rfl, rfl, rfl, hall⟩ := hrel
    have HALL := hide hall
    clear hall
    by_cases hlt : k < NA
    · have hlti : (k : Int) < NA := Int.ofNat_lt.2 hlt
      obtain ⟨b, off, a', m, c', rfl, hcell, hlen, hm⟩ := H1.out.at hlt
      have HLEN := hide hlen
      clear hlen
      by_cases hm1 : (m : Int) ≤ 131072
      · have hm1' : m ≤ 131072 := Int.ofNat_le.1 hm1
        by_cases hm2 : z + 8 * ((m : Int) + 1) ≤ 1048576
        · go_wp2_with fail
          go_roundw
          case rel => exact ⟨z + 8 * ((m : Int) + 1), k + 1, by omega, by omega, hlt, by go_num, by go_num, by trivial, all_succ HALL.out HLEN.out hm1'⟩
          case measure => simp [intOf]; omega
        · go_wp2_with fail
          go_ret
          exact ⟨rfl, .inl rfl⟩
      · go_wp2_with fail
        go_ret
        exact ⟨rfl, .inl rfl⟩
    · obtain rfl : k = NA := Nat.le_antisymm hk (Nat.le_of_not_lt hlt)
      clear hlt hk
      go_wp2_with fail
      go_loopw [11, 13] (fun t i wq => ∃ (z : Int) (k : Nat), 0 ≤ z ∧ z ≤ 1048576 ∧ k ≤ NB ∧ t = .int .i64 z ∧ i = .int .i64 k ∧ wq = wr ∧ (∀ j, j < k → (hB[j]?.getD []).length ≤ 131072)) (fun t i _ => NB - (intOf i).toNat)
      case atStart => exact ⟨_, 0, by omega, by omega, Nat.zero_le _, rfl, rfl, rfl, fun j hj => absurd hj (Nat.not_lt_zero _)⟩
      case round =>
        obtain ⟨z, q, hz0, hz1, hq, rfl, rfl, rfl, hall⟩ := hrel
        have HALL2 := hide hall
        clear hall
        by_cases hlt : q < NB
        · have hlti : (q : Int) < NB := Int.ofNat_lt.2 hlt
          obtain ⟨b, off, a', m, c', rfl, hcell, hlen, hm⟩ := H2.out.at hlt
          have HLEN := hide hlen
          clear hlen
          by_cases hm1 : (m : Int) ≤ 131072
          · have hm1' : m ≤ 131072 := Int.ofNat_le.1 hm1
            by_cases hm2 : z + 8 * ((m : Int) + 1) ≤ 1048576
            · go_wp2_with fail
              go_roundw
              case rel => exact ⟨z + 8 * ((m : Int) + 1), q + 1, by omega, by omega, hlt, by go_num, by go_num, by trivial, all_succ HALL2.out HLEN.out hm1'⟩
              case measure => simp [intOf]; omega
            · go_wp2_with fail
              go_ret
              exact ⟨rfl, .inl rfl⟩
          · go_wp2_with fail
            go_ret
            exact ⟨rfl, .inl rfl⟩
        · obtain rfl : q = NB := Nat.le_antisymm hq (Nat.le_of_not_lt hlt)
          clear hlt hq
          have hmw := mul_wrap hA1 hB1 hn4
          go_wp2_with fail
          · go_ret
            exact ⟨rfl, .inl rfl⟩
          · rename_i hprod
            go_ret
            exact ⟨rfl, .inr ⟨rfl, hn4, hA1, hB1, HALL.out, HALL2.out, mul_back hprod⟩⟩
end Go.Proofs.Qxb6613881aFmt
