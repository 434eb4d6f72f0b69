/-
  numalign: Add, prefAt, addAll.
-/
import Derived.Test.Qxb6613881aFmtWeigh
namespace Go.Proofs.Qxb6613881aFmt
open Go.RowKit
set_option linter.unusedVariables false

/-- What a Turn leaves alone: all below B, where H and the records lie beyond. -/
theorem Turn.below {B H : Nat} {rv rv' : Value} {w w' : World} (h : Turn H rv rv' w w') (hH : B ≤ H) (hr : ∀ k, rv.ownBlock = some k → B ≤ k) (hB : B ≤ w.heap.size) : Below B w w' :=
  ⟨h.os, h.tape, h.output, h.size, fun k hk => h.block k (by omega) (by omega) (fun e => by have := hr k e.symm; omega)⟩
theorem Turn.rest {B H : Nat} {rv rv' : Value} {w w' : World} (h : Turn H rv rv' w w') (hr : ∀ k, rv.ownBlock = some k → B ≤ k) (hB : B ≤ w.heap.size) : ∀ k, rv'.ownBlock = some k → B ≤ k := by
  intro k hk
  rcases h.own with e | ⟨G, hG, e⟩
  · exact hr k (e ▸ hk)
  · rw [e] at hk; cases hk; omega

theorem stepR_fail {ns : List Int} {sl : Nat} {rs : List UInt8} {h : List Int × Bool} (hf : h.1 = [] ∨ known ns h.1 = false) : stepR ns sl (rs, false) h = (rs, true) := by
  unfold stepR
  rw [if_neg (by simp), if_pos hf]
theorem stepR_ok {ns : List Int} {sl : Nat} {rs : List UInt8} {h : List Int × Bool} (h0 : ¬ h.1 = []) (hk : known ns h.1 = true) : stepR ns sl (rs, false) h = (rs ++ recOf ns sl h.1 h.2, false) := by
  unfold stepR
  rw [if_neg (by simp), if_neg (by rw [hk]; simp [h0])]

set_option maxHeartbeats 1000000 in
/-- addWeighed at one hint, all ways together. -/
theorem aw_any (B H g T n S c Q m cc sl : Nat) (ns ids : List Int) (a : Option Addr) (rv : Value) (rs : List UInt8) (f : Bool) (er : Value) (add : Nat) (pr : Bool) (w : World) (hN : Nodes ns n) (hS : S ≤ 1048576) (hsl : (n + 7) / 8 = sl) (hs : HS w H g T n S c ns rv rs add er) (he : ErrIs f er)
    (hQ : w.heap[Q]? = some (.cells #[.slice a m cc, .bool pr] 71 (0, 0))) (hadd : add ≤ 1048576) (hrl : rs.length ≤ 100000000) (hBH : B ≤ H) (hBr : ∀ k, rv.ownBlock = some k → B ≤ k) (hB : B ≤ w.heap.size)
    (hm : ids.length = m) (hm2 : m ≤ 1048576) (hi : Rd B w a (ids.map (Value.int .i64))) (hr : ∀ x ∈ ids, inI64 x) :
    Calls Tryf.prog 32 #[.pointer (some ⟨H, 0, .none⟩), .int .u8 1, .slice (some ⟨Q, 0, .none⟩) 1 1] w fun e w' => e = .returned (.tuple #[]) ∧ ∃ rv' er', HS w' H g T n S c ns rv' (stepR ns sl (rs, f) (ids, pr)).1 (add + 1) er' ∧ ErrIs (stepR ns sl (rs, f) (ids, pr)).2 er' ∧ Turn H rv rv' w w' := by
  cases f with
  | true =>
    obtain ⟨t, p, rfl⟩ := he
    refine (aw_skip H g T n S c Q ns rv rs add t p a m cc pr w hs hQ hadd).mono ?_
    rintro e w' ⟨rfl, h1, h2⟩
    exact ⟨rfl, rv, _, h1, ⟨t, p, rfl⟩, h2⟩
  | false =>
    obtain rfl : er = .nilIface := he
    by_cases hm0 : ids = []
    · subst hm0
      obtain rfl : m = 0 := by simpa using hm.symm
      refine (aw_empty H g T n S c Q ns rv rs add a cc pr w hs hQ hadd).mono ?_
      rintro e w' ⟨rfl, t, p, h1, h2⟩
      rw [stepR_fail (.inl rfl)]
      exact ⟨rfl, rv, .iface t p, h1, ⟨t, p, rfl⟩, h2⟩
    · rcases hi with h0 | ⟨ib, io, rfl, hib, hc⟩
      · exact absurd (by simpa using h0) hm0
      · obtain ⟨ra, rcap, rfl⟩ := shape_any hs.recs
        have hmp : 0 < m := by
          cases ids with
          | nil => exact absurd rfl hm0
          | cons x r => rw [← hm]; exact Nat.succ_pos _
        have hi' : ∀ j, j < m → w.cell? ⟨ib, io + j, .none⟩ = some (.int .i64 (ids[j]?.getD 0)) := fun j hj => hc j _ (by
          rw [List.getElem?_map, List.getElem?_eq_getElem (by omega)]; rfl)
        have hn1 : some ib ≠ (Value.slice ra rs.length rcap).ownBlock := fun e => by have := hBr ib e.symm; omega
        by_cases hk : known ns ids = true
        · refine (aw_yes H g T n S c Q ib io m cc sl ns ids ra rcap rs add pr w hN hS hsl hs hQ hadd hrl (by omega) (by omega) hn1 hm hmp hm2 hi' hr hk).mono ?_
          rintro e w' ⟨rfl, rv', h1, h2⟩
          rw [stepR_ok hm0 hk]
          exact ⟨rfl, rv', .nilIface, h1, rfl, h2⟩
        · have hk' : known ns ids = false := by simpa using hk
          refine (aw_no H g T n S c Q ib io m cc sl ns ids ra rcap rs add pr w hN hS hsl hs hQ hadd hrl (by omega) (by omega) hn1 hm hmp hm2 hi' hr hk').mono ?_
          rintro e w' ⟨rfl, rv', t, p, h1, h2⟩
          rw [stepR_fail (.inr hk')]
          exact ⟨rfl, rv', .iface t p, h1, ⟨t, p, rfl⟩, h2⟩

set_option maxHeartbeats 1000000 in
/-- Add(ids, preferred). -/
theorem add_any (B H g T n S c m cc sl : Nat) (ns ids : List Int) (a : Option Addr) (rv : Value) (rs : List UInt8) (f : Bool) (er : Value) (add : Nat) (pr : Bool) (w : World) (hN : Nodes ns n) (hS : S ≤ 1048576) (hsl : (n + 7) / 8 = sl) (hs : HS w H g T n S c ns rv rs add er) (he : ErrIs f er)
    (hadd : add ≤ 1048576) (hrl : rs.length ≤ 100000000) (hBH : B ≤ H) (hBr : ∀ k, rv.ownBlock = some k → B ≤ k) (hB : B ≤ w.heap.size)
    (hm : ids.length = m) (hm2 : m ≤ 1048576) (hi : Rd B w a (ids.map (Value.int .i64))) (hr : ∀ x ∈ ids, inI64 x) :
    Calls Tryf.prog 24 #[.pointer (some ⟨H, 0, .none⟩), .slice a m cc, .bool pr] w fun e w' => e = .returned (.tuple #[]) ∧ ∃ rv' er', HS w' H g T n S c ns rv' (stepR ns sl (rs, f) (ids, pr)).1 (add + 1) er' ∧ ErrIs (stepR ns sl (rs, f) (ids, pr)).2 er' ∧ Turn H rv rv' w w' := by
  have hb1 : Below w.heap.size w (w.alloc (.cells #[.slice a m cc, .bool pr] 71)) := (Below.refl _ w).alloc (Nat.le_refl _) _
  have hA := aw_any B H g T n S c w.heap.size m cc sl ns ids a rv rs f er add pr _ hN hS hsl (hs.below hb1) he (heap_alloc_new w _) hadd hrl hBH hBr (by simp; omega) hm hm2 (hi.below (hb1.mono hB)) hr
  clear hi hr hN hs he
  go_enter Tryf.func24, Tryf.ntmps24
  go_wp2_with (first
    | (go_at_call 32; refine hA.mono ?_; rintro e w1 ⟨rfl, rv', er', h1, h2, h3⟩)
    | fail)
  go_end0
  exact ⟨rfl, rv', er', h1, h2, Turn.trans (.of_below hb1) h3⟩

/-- prefAt(prefs, i). -/
theorem prefAt_any (B : Nat) (pa : Option Addr) (P pc k : Nat) (ps : List Bool) (w : World) (hP : ps.length = P) (hp : Rd B w pa (ps.map Value.bool)) :
    Calls Tryf.prog 25 #[.slice pa P pc, .int .i64 (k : Int)] w fun e w' => e = .returned (.bool (ps[k]?.getD false)) ∧ w = w' := by
  by_cases h : k < P
  · have hi : (k : Int) < P := Int.ofNat_lt.2 h
    rcases hp with h0 | ⟨b, off, rfl, _, hc⟩
    · exfalso
      have : ps = [] := by simpa using h0
      subst this
      simp at hP
      omega
    · have hck := hc k (.bool (ps[k]?.getD false)) (by rw [List.getElem?_map, List.getElem?_eq_getElem (by omega)]; rfl)
      clear hc
      generalize ps[k]?.getD false = pv at hck ⊢
      go_enter Tryf.func25, Tryf.ntmps25
      go_wp2
      go_ret
      exact ⟨rfl, rfl⟩
  · have hi : (P : Int) ≤ k := Int.ofNat_le.2 (Nat.le_of_not_lt h)
    have e : ps[k]?.getD false = false := by rw [List.getElem?_eq_none (by omega)]; rfl
    rw [e]
    clear hp
    go_enter Tryf.func25, Tryf.ntmps25
    go_wp2
    go_ret
    exact ⟨rfl, rfl⟩

/-- A slice of slices of ints that is read: at ha, N rows, hs. -/
def Rows (B : Nat) (w : World) (ha : Option Addr) (N : Nat) (hs : List (List Int)) : Prop :=
  hs.length = N ∧ ∃ vs : List (Option Addr × Nat × Nat), vs.length = N ∧ Rd B w ha (vs.map fun v => Value.slice v.1 v.2.1 v.2.2) ∧
    ∀ (k : Nat) (v : Option Addr × Nat × Nat) (h : List Int), vs[k]? = some v → hs[k]? = some h → Rd B w v.1 (h.map (Value.int .i64)) ∧ h.length = v.2.1 ∧ v.2.1 ≤ 1048576 ∧ ∀ x ∈ h, inI64 x
theorem Rows.below {B : Nat} {w w' : World} {ha : Option Addr} {N : Nat} {hs : List (List Int)} (h : Rows B w ha N hs) (hb : Below B w w') : Rows B w' ha N hs := by
  obtain ⟨h1, vs, h2, h3, h4⟩ := h
  exact ⟨h1, vs, h2, h3.below hb, fun k v h hv hh => ⟨(h4 k v h hv hh).1.below hb, (h4 k v h hv hh).2⟩⟩
theorem Rows.at {B : Nat} {w : World} {ha : Option Addr} {N : Nat} {hs : List (List Int)} (h : Rows B w ha N hs) {k : Nat} (hk : k < N) :
    ∃ b off a m c, ha = some ⟨b, off, .none⟩ ∧ b < B ∧ w.cell? ⟨b, off + k, .none⟩ = some (.slice a m c) ∧ Rd B w a ((hs[k]?.getD []).map (Value.int .i64)) ∧ (hs[k]?.getD []).length = m ∧ m ≤ 1048576 ∧ ∀ x ∈ hs[k]?.getD [], inI64 x := by
  obtain ⟨h1, vs, h2, h3, h4⟩ := h
  rcases h3 with h0 | ⟨b, off, rfl, hb, hc⟩
  · exfalso
    have : vs = [] := by simpa using h0
    subst this
    simp at h2
    omega
  · obtain ⟨v, hv⟩ : ∃ v, vs[k]? = some v := ⟨_, List.getElem?_eq_getElem (by omega)⟩
    obtain ⟨h, hh⟩ : ∃ h, hs[k]? = some h := ⟨_, List.getElem?_eq_getElem (by omega)⟩
    have := h4 k v h hv hh
    refine ⟨b, off, v.1, v.2.1, v.2.2, rfl, hb, hc k _ (by rw [List.getElem?_map, hv]; rfl), ?_⟩
    rw [hh]
    exact this

/-- The hints with their flags. -/
def withPref (hs : List (List Int)) (ps : List Bool) : List (List Int × Bool) := (List.range hs.length).map fun k : Nat => (hs[k]?.getD [], ps[k]?.getD false)
theorem withPref_length (hs : List (List Int)) (ps : List Bool) : (withPref hs ps).length = hs.length := by simp [withPref]
theorem withPref_get (hs : List (List Int)) (ps : List Bool) {k : Nat} (hk : k < hs.length) : (withPref hs ps)[k]'(by rw [withPref_length]; exact hk) = (hs[k]?.getD [], ps[k]?.getD false) := by simp [withPref]
def runR (ns : List Int) (sl : Nat) (st : List UInt8 × Bool) (l : List (List Int × Bool)) : List UInt8 × Bool := l.foldl (stepR ns sl) st
theorem runR_take (ns : List Int) (sl : Nat) (st : List UInt8 × Bool) (hs : List (List Int)) (ps : List Bool) {k : Nat} (hk : k < hs.length) :
    runR ns sl st ((withPref hs ps).take (k + 1)) = stepR ns sl (runR ns sl st ((withPref hs ps).take k)) (hs[k]?.getD [], ps[k]?.getD false) := by
  unfold runR
  rw [List.take_succ_eq_append_getElem (by rw [withPref_length]; exact hk), List.foldl_append, withPref_get hs ps hk]
  rfl
theorem stepR_length (ns : List Int) (sl : Nat) (st : List UInt8 × Bool) (h : List Int × Bool) : (stepR ns sl st h).1.length ≤ st.1.length + (sl + 1) := by
  unfold stepR
  split
  · omega
  · split
    · simp
    · simp [recOf_length]
theorem runR_length (ns : List Int) (sl : Nat) : ∀ (l : List (List Int × Bool)) (st : List UInt8 × Bool), (runR ns sl st l).1.length ≤ st.1.length + l.length * (sl + 1)
  | [], st => by simp [runR]
  | h :: l, st => by
    have h1 := runR_length ns sl l (stepR ns sl st h)
    have h2 := stepR_length ns sl st h
    have e : runR ns sl st (h :: l) = runR ns sl (stepR ns sl st h) l := rfl
    rw [e, List.length_cons, Nat.add_mul, Nat.one_mul]
    omega
theorem bound_at {ns : List Int} {sl k N M : Nat} {st : List UInt8 × Bool} {hs : List (List Int)} {ps : List Bool} (hk : k ≤ N) (hb : st.1.length + N * (sl + 1) ≤ M) : (runR ns sl st ((withPref hs ps).take k)).1.length ≤ M := by
  have h1 := runR_length ns sl ((withPref hs ps).take k) st
  have h2 : ((withPref hs ps).take k).length ≤ N := by simp; omega
  have h3 := Nat.mul_le_mul_right (sl + 1) h2
  omega
theorem add_le {add N k : Nat} (h : add + N ≤ 1048576) (hk : k ≤ N) : add + k ≤ 1048576 := by omega
theorem round_meas {k N : Nat} (h : k < N) : N - (k + 1) < N - k := by omega

set_option maxHeartbeats 1000000 in
/-- addAll(s, hints, prefs). -/
theorem addAll_any (B H g T n S c sl N hcap P pcap : Nat) (ns : List Int) (ha pa : Option Addr) (hl : List (List Int)) (ps : List Bool) (rv : Value) (rs : List UInt8) (f : Bool) (er : Value) (add : Nat) (w : World) (hN : Nodes ns n) (hS : S ≤ 1048576) (hsl : (n + 7) / 8 = sl) (hs : HS w H g T n S c ns rv rs add er) (he : ErrIs f er)
    (hadd : add + N ≤ 1048576) (hrl : rs.length + N * (sl + 1) ≤ 100000000) (hBH : B ≤ H) (hBr : ∀ k, rv.ownBlock = some k → B ≤ k) (hB : B ≤ w.heap.size)
    (hrow : Rows B w ha N hl) (hP : ps.length = P) (hp : Rd B w pa (ps.map Value.bool)) :
    Calls Tryf.prog 11 #[.pointer (some ⟨H, 0, .none⟩), .slice ha N hcap, .slice pa P pcap] w fun e w' => e = .returned (.tuple #[]) ∧ ∃ rv' er', HS w' H g T n S c ns rv' (runR ns sl (rs, f) (withPref hl ps)).1 (add + N) er' ∧ ErrIs (runR ns sl (rs, f) (withPref hl ps)).2 er' ∧ Turn H rv rv' w w' := by
  have HN := hide hN
  have HSL := hide hsl
  have HR := hide hrow
  have HP := hide hP
  have HPP := hide hp
  have HRL := hide hrl
  have HE := hide he
  have HBR := hide hBr
  have HNl : N ≤ 1048576 := by omega
  clear hN hsl hrow hP hp hrl he hBr
  go_enter Tryf.func11, Tryf.ntmps11
  go_wp2_with fail
  go_loopw [6] (fun i wr => ∃ (k : Nat) (rv' er' : Value), k ≤ N ∧ i = .int .i64 k ∧ HS wr H g T n S c ns rv' (runR ns sl (rs, f) ((withPref hl ps).take k)).1 (add + k) er' ∧ ErrIs (runR ns sl (rs, f) ((withPref hl ps).take k)).2 er' ∧ Turn H rv rv' w wr) (fun i _ => N - (intOf i).toNat)
  case atStart => exact ⟨0, rv, er, Nat.zero_le _, rfl, hs, HE.out, .of_below (Below.refl _ _)⟩
  case round =>
    obtain ⟨k, rv', er', hk, rfl, hsk, hek, htk⟩ := hrel
    by_cases hlt : k < N
    · have hlti : (k : Int) < N := Int.ofNat_lt.2 hlt
      have hbk := htk.below hBH HBR.out hB
      obtain ⟨b, off, a, m, c', rfl, hbB, hc, hi, hm, hm2, hr⟩ := (HR.out.below hbk).at hlt
      have hPk := prefAt_any B pa P pcap k ps wr.drew HP.out (HPP.out.below hbk.drew)
      have hAk := add_any B H g T n S c m c' sl ns (hl[k]?.getD []) a rv' _ _ er' (add + k) (ps[k]?.getD false) wr.drew HN.out hS HSL.out (hsk.below (Below.refl _ _).drew) hek (add_le hadd hk) (bound_at hk HRL.out) hBH (htk.rest HBR.out hB) (Nat.le_trans hB hbk.size) hm hm2 hi hr
      have HSK := hide hsk
      have HEK := hide hek
      clear hi hr hm hsk hek
      go_wp2_with fail
      go_region_held3 (fun w' => w'.cell? ⟨b, off + k, .none⟩ = some (.slice a m c'))
        (first | exact hc2 | exact hc)
        (first
          | (go_at_call 25; refine hPk.mono ?_; rintro e w1 ⟨rfl, rfl⟩)
          | (go_at_call 24; refine hAk.mono ?_; rintro e w2 ⟨rfl, rv2, er2, hs2, he2, ht2⟩; have ht3 := htk.trans (Turn.trans (.of_below (Below.refl _ _).drew) ht2); have hc2 : w2.cell? ⟨b, off + k, .none⟩ = some (.slice a m c') := ((ht2.below hBH (htk.rest HBR.out hB) (Nat.le_trans hB hbk.size)).cell (p := ⟨b, off + k, .none⟩) hbB).trans hc))
      go_wp2_with fail
      go_roundw
      case rel => exact ⟨k + 1, rv2, er2, hlt, by go_num, by rw [runR_take _ _ _ _ _ (by rw [HR.out.1]; exact hlt)]; exact hs2, by rw [runR_take _ _ _ _ _ (by rw [HR.out.1]; exact hlt)]; exact he2, ht3⟩
      case measure => simp [intOf]; omega
    · obtain rfl : k = N := Nat.le_antisymm hk (Nat.le_of_not_lt hlt)
      go_wp2_with fail
      go_end0
      have e1 : (withPref hl ps).take k = withPref hl ps := List.take_of_length_le (by rw [withPref_length, HR.out.1]; exact Nat.le_refl _)
      rw [e1] at hsk hek
      exact ⟨rfl, rv', er', hsk, hek, htk⟩
end Go.Proofs.Qxb6613881aFmt
