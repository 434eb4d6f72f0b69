/-
  numalign: three HintSets beside each other; the plain facts of FnHintSetsResourceJoins.
-/
import Derived.Test.Qxb6613881aFmtForgets
import Derived.Test.Qxb6613881aFmtSeen
namespace Go.Proofs.Qxb6613881aFmt
open Go.RowKit
set_option linter.unusedVariables false

/-- The records of two HintSets do not share a block. -/
def Apart (rv rv1 : Value) : Prop := ∀ k, rv.ownBlock = some k → rv1.ownBlock ≠ some k
theorem Apart.symm {a b : Value} (h : Apart a b) : Apart b a := fun k h1 h2 => h k h2 h1
theorem apart_nil (a : Value) : Apart a (.slice none 0 0) := fun k _ h => by cases h
theorem Apart.turn {w w' : World} {H g T n S c H' : Nat} {ns : List Int} {rv rv1 rv2 : Value} {rs : List UInt8} {add : Nat} {er : Value} (h : Apart rv rv1) (ht : Turn H' rv1 rv2 w w') (hs : HS w H g T n S c ns rv rs add er) : Apart rv rv2 := by
  intro k hk e
  rcases ht.own with e1 | ⟨G, hG, e1⟩
  · exact h k hk (e1 ▸ e)
  · rw [e1] at e
    cases e
    exact absurd (hs.recs.lt _ hk).2 (Nat.not_lt.2 hG)
/-- A HintSets stays as it is while another turns. -/
theorem HS.other {w w' : World} {H g T n S c H' g' T' S' c' : Nat} {ns : List Int} {rv rv1 rv2 : Value} {rs rs' : List UInt8} {add add' : Nat} {er er' : Value}
    (h : HS w H g T n S c ns rv rs add er) (ht : Turn H' rv1 rv2 w w') (hs : HS w H' g' T' n S' c' ns rv1 rs' add' er') (hne : H ≠ H') (hr : Apart rv rv1) : HS w' H g T n S c ns rv rs add er := by
  obtain ⟨gr, hgb, _, _⟩ := own_block h.ids
  have hgl : g < w.heap.size := (h.ids.lt g rfl).2
  have b1 : Blk w' g _ 3 := Blk.turn (k := g) (t := 3) hgb ht hs (by decide) (by decide)
  refine ⟨(ht.block H (heap_lt h.blk) hne (row_ne hs.recs h.blk (by decide))).trans h.blk, row_keep h.ids (Nat.le_refl _) hgl (Eq.trans b1 hgb.symm), Blk.turn (k := T) (t := 3) h.tbl ht hs (by decide) (by decide), h.recs.1, ?_⟩
  rcases h.recs.2 with e | ⟨G, cap, cur, h1, h2, h3, h4⟩
  · exact .inl e
  · refine .inr ⟨G, cap, cur, h1, h2, (ht.block G (heap_lt h3) ?_ ?_).trans h3, h4⟩
    · intro e
      subst e
      have := hs.blk
      rw [h3] at this
      simp at this
    · intro e
      exact hr G (by rw [h1]; rfl) e.symm

/-- Three HintSets beside each other. -/
structure Tri (w wk : World) (So n : Nat) (ns : List Int) (H1 g1 T1 S1 c1 H2 g2 T2 S2 c2 H3 g3 T3 S3 c3 : Nat) (rv1 rv2 rv3 : Value) (rs1 rs2 rs3 : List UInt8) (a1 a2 a3 : Nat) (e1 e2 e3 : Value) : Prop where
  low : Below w.heap.size w wk
  so : Blk wk So (vi ns).toArray 3
  h1 : HS wk H1 g1 T1 n S1 c1 ns rv1 rs1 a1 e1
  h2 : HS wk H2 g2 T2 n S2 c2 ns rv2 rs2 a2 e2
  h3 : HS wk H3 g3 T3 n S3 c3 ns rv3 rs3 a3 e3
  n12 : H1 ≠ H2
  n13 : H1 ≠ H3
  n23 : H2 ≠ H3
  l1 : w.heap.size ≤ H1
  l2 : w.heap.size ≤ H2
  l3 : w.heap.size ≤ H3
  r1 : ∀ k, rv1.ownBlock = some k → w.heap.size ≤ k
  r2 : ∀ k, rv2.ownBlock = some k → w.heap.size ≤ k
  r3 : ∀ k, rv3.ownBlock = some k → w.heap.size ≤ k
  a12 : Apart rv1 rv2
  a13 : Apart rv1 rv3
  a23 : Apart rv2 rv3
section
variable {w wk wl : World} {So n : Nat} {ns : List Int} {H1 g1 T1 S1 c1 H2 g2 T2 S2 c2 H3 g3 T3 S3 c3 : Nat} {rv1 rv2 rv3 rv : Value} {rs1 rs2 rs3 rs : List UInt8} {a1 a2 a3 a : Nat} {e1 e2 e3 e : Value}
theorem Tri.turn1 (h : Tri w wk So n ns H1 g1 T1 S1 c1 H2 g2 T2 S2 c2 H3 g3 T3 S3 c3 rv1 rv2 rv3 rs1 rs2 rs3 a1 a2 a3 e1 e2 e3) (ht : Turn H1 rv1 rv wk wl) (hs : HS wl H1 g1 T1 n S1 c1 ns rv rs a e) :
    Tri w wl So n ns H1 g1 T1 S1 c1 H2 g2 T2 S2 c2 H3 g3 T3 S3 c3 rv rv2 rv3 rs rs2 rs3 a a2 a3 e e2 e3 :=
  ⟨h.low.trans (ht.below h.l1 h.r1 h.low.size), h.so.turn ht h.h1 (by decide) (by decide), hs, h.h2.other ht h.h1 h.n12.symm h.a12.symm, h.h3.other ht h.h1 h.n13.symm h.a13.symm, h.n12, h.n13, h.n23, h.l1, h.l2, h.l3,
    ht.rest h.r1 h.low.size, h.r2, h.r3, (h.a12.symm.turn ht h.h2).symm, (h.a13.symm.turn ht h.h3).symm, h.a23⟩
theorem Tri.turn2 (h : Tri w wk So n ns H1 g1 T1 S1 c1 H2 g2 T2 S2 c2 H3 g3 T3 S3 c3 rv1 rv2 rv3 rs1 rs2 rs3 a1 a2 a3 e1 e2 e3) (ht : Turn H2 rv2 rv wk wl) (hs : HS wl H2 g2 T2 n S2 c2 ns rv rs a e) :
    Tri w wl So n ns H1 g1 T1 S1 c1 H2 g2 T2 S2 c2 H3 g3 T3 S3 c3 rv1 rv rv3 rs1 rs rs3 a1 a a3 e1 e e3 :=
  ⟨h.low.trans (ht.below h.l2 h.r2 h.low.size), h.so.turn ht h.h2 (by decide) (by decide), h.h1.other ht h.h2 h.n12 h.a12, hs, h.h3.other ht h.h2 h.n23.symm h.a23.symm, h.n12, h.n13, h.n23, h.l1, h.l2, h.l3,
    h.r1, ht.rest h.r2 h.low.size, h.r3, h.a12.turn ht h.h1, h.a13, (h.a23.symm.turn ht h.h3).symm⟩
theorem Tri.turn3 (h : Tri w wk So n ns H1 g1 T1 S1 c1 H2 g2 T2 S2 c2 H3 g3 T3 S3 c3 rv1 rv2 rv3 rs1 rs2 rs3 a1 a2 a3 e1 e2 e3) (ht : Turn H3 rv3 rv wk wl) (hs : HS wl H3 g3 T3 n S3 c3 ns rv rs a e) :
    Tri w wl So n ns H1 g1 T1 S1 c1 H2 g2 T2 S2 c2 H3 g3 T3 S3 c3 rv1 rv2 rv rs1 rs2 rs a1 a2 a e1 e2 e :=
  ⟨h.low.trans (ht.below h.l3 h.r3 h.low.size), h.so.turn ht h.h3 (by decide) (by decide), h.h1.other ht h.h3 h.n13 h.a13, h.h2.other ht h.h3 h.n23 h.a23, hs, h.n12, h.n13, h.n23, h.l1, h.l2, h.l3,
    h.r1, h.r2, ht.rest h.r3 h.low.size, h.a12, h.a13.turn ht h.h1, h.a23.turn ht h.h2⟩
theorem Tri.alloc (h : Tri w wk So n ns H1 g1 T1 S1 c1 H2 g2 T2 S2 c2 H3 g3 T3 S3 c3 rv1 rv2 rv3 rs1 rs2 rs3 a1 a2 a3 e1 e2 e3) (o : Obj) :
    Tri w (wk.alloc o) So n ns H1 g1 T1 S1 c1 H2 g2 T2 S2 c2 H3 g3 T3 S3 c3 rv1 rv2 rv3 rs1 rs2 rs3 a1 a2 a3 e1 e2 e3 :=
  ⟨h.low.alloc h.low.size o, h.so.alloc o, h.h1.alloc o, h.h2.alloc o, h.h3.alloc o, h.n12, h.n13, h.n23, h.l1, h.l2, h.l3, h.r1, h.r2, h.r3, h.a12, h.a13, h.a23⟩
end
theorem tri_start {w wk : World} {So n : Nat} {ns : List Int} {H1 g1 T1 S1 c1 H2 g2 T2 S2 c2 H3 g3 T3 S3 c3 : Nat} (low : Below w.heap.size w wk) (so : Blk wk So (vi ns).toArray 3)
    (h1 : HS wk H1 g1 T1 n S1 c1 ns (.slice none 0 0) [] 0 .nilIface) (h2 : HS wk H2 g2 T2 n S2 c2 ns (.slice none 0 0) [] 0 .nilIface) (h3 : HS wk H3 g3 T3 n S3 c3 ns (.slice none 0 0) [] 0 .nilIface) (n12 : H1 < H2) (n23 : H2 < H3) (l1 : w.heap.size ≤ H1) :
    Tri w wk So n ns H1 g1 T1 S1 c1 H2 g2 T2 S2 c2 H3 g3 T3 S3 c3 (.slice none 0 0) (.slice none 0 0) (.slice none 0 0) [] [] [] 0 0 0 .nilIface .nilIface .nilIface :=
  ⟨low, so, h1, h2, h3, Nat.ne_of_lt n12, Nat.ne_of_lt (Nat.lt_trans n12 n23), Nat.ne_of_lt n23, l1, Nat.le_trans l1 (Nat.le_of_lt n12), Nat.le_trans l1 (Nat.le_of_lt (Nat.lt_trans n12 n23)),
    fun k hk => by (cases hk), fun k hk => by (cases hk), fun k hk => by (cases hk), apart_nil _, apart_nil _, apart_nil _⟩

/-- All that Joins' checks at the end read. -/
structure End (w wk : World) (r1 r2 r3 M1 M2 M3 So g1 g2 g3 n c1 c2 c3 : Nat) (ns : List Int) (s1 s2 s3 : ByteArray) (a1 a2 a3 : Int) (e1 e2 e3 : Value) : Prop where
  low : Below w.heap.size w wk
  so : Blk wk So (vi ns).toArray 3
  b1 : Blk wk r1 #[.string ⟨#[]⟩, .bool false, .slice none 0 0, .pointer (some ⟨M1, 0, .none⟩)] 38
  b2 : Blk wk r2 #[.string ⟨#[]⟩, .bool false, .slice none 0 0, .pointer (some ⟨M2, 0, .none⟩)] 38
  b3 : Blk wk r3 #[.string ⟨#[]⟩, .bool false, .slice none 0 0, .pointer (some ⟨M3, 0, .none⟩)] 38
  m1 : Blk wk M1 #[.slice (some ⟨g1, 0, .none⟩) n c1, .string s1, .int .i64 a1, e1] 59
  m2 : Blk wk M2 #[.slice (some ⟨g2, 0, .none⟩) n c2, .string s2, .int .i64 a2, e2] 59
  m3 : Blk wk M3 #[.slice (some ⟨g3, 0, .none⟩) n c3, .string s3, .int .i64 a3, e3] 59
theorem End.below {w wk wl : World} {r1 r2 r3 M1 M2 M3 So g1 g2 g3 n c1 c2 c3 : Nat} {ns : List Int} {s1 s2 s3 : ByteArray} {a1 a2 a3 : Int} {e1 e2 e3 : Value} (h : End w wk r1 r2 r3 M1 M2 M3 So g1 g2 g3 n c1 c2 c3 ns s1 s2 s3 a1 a2 a3 e1 e2 e3) (hb : Below wk.heap.size wk wl) : End w wl r1 r2 r3 M1 M2 M3 So g1 g2 g3 n c1 c2 c3 ns s1 s2 s3 a1 a2 a3 e1 e2 e3 := by
  have q := Nat.le_refl wk.heap.size
  exact ⟨h.low.trans (hb.mono h.low.size), h.so.below hb q, h.b1.below hb q, h.b2.below hb q, h.b3.below hb q, h.m1.below hb q, h.m2.below hb q, h.m3.below hb q⟩

/-- Never more than one record each. -/
theorem runR_le (ns : List Int) (sl : Nat) : ∀ (l : List (List Int × Bool)) (rs : List UInt8), (runR ns sl (rs, false) l).1.length ≤ rs.length + l.length * (sl + 1)
  | [], rs => by simp [runR]
  | h :: l, rs => by
    have e : runR ns sl (rs, false) (h :: l) = runR ns sl (stepR ns sl (rs, false) h) l := rfl
    rw [e]
    rcases step_cases ns sl rs h with ⟨h1, h2⟩ | ⟨h1, h2⟩
    · rw [h2]
      refine Nat.le_trans (runR_le ns sl l _) ?_
      rw [List.length_append, recOf_length, List.length_cons, Nat.add_mul]
      omega
    · rw [h2, runR_failed]
      exact Nat.le_add_right _ _
theorem N_both {NA NB sl : Nat} {ns : List Int} {hA : List (List Int)} {psA : List Bool} (h : (NA + NB) * (sl + 1) ≤ 4194304) (hl : hA.length = NA) : (runR ns sl ([], false) (withPref hA psA)).1.length + NB * (sl + 1) ≤ 100000000 := by
  have := runR_le ns sl (withPref hA psA) []
  rw [withPref_length, hl] at this
  rw [Nat.add_mul] at h
  simp only [List.length_nil] at this
  omega
theorem N_add2 {NA NB : Nat} (h : NA ≤ 131072) (h2 : NB ≤ 131072) : 0 + NA + NB ≤ 1048576 := by omega
/-- The joined records, and who fails. -/
theorem join_facts {ns : List Int} {sl : Nat} {hA hB : List (List Int)} {psA psB : List Bool} {e1 e2 e3 : Value}
    (h1 : ErrIs (runR ns sl ((runR ns sl ([], false) (withPref hA psA)).1, (runR ns sl ([], false) (withPref hA psA)).2) (withPref hB psB)).2 e1) (h2 : ErrIs (runR ns sl ([], false) (withPref hA psA)).2 e2) (h3 : ErrIs (runR ns sl ([], false) (withPref hB psB)).2 e3) :
    (okAll ns hA = true ∧ okAll ns hB = true ∧ e1 = .nilIface ∧ e2 = .nilIface ∧ e3 = .nilIface ∧ (runR ns sl ((runR ns sl ([], false) (withPref hA psA)).1, (runR ns sl ([], false) (withPref hA psA)).2) (withPref hB psB)).1 = (runR ns sl ([], false) (withPref hA psA)).1 ++ (runR ns sl ([], false) (withPref hB psB)).1) ∨
    (okAll ns hA = true ∧ okAll ns hB = false ∧ (∃ t p, e1 = .iface t p) ∧ e2 = .nilIface ∧ (∃ t p, e3 = .iface t p) ∧ (runR ns sl ((runR ns sl ([], false) (withPref hA psA)).1, (runR ns sl ([], false) (withPref hA psA)).2) (withPref hB psB)).1 = (runR ns sl ([], false) (withPref hA psA)).1 ++ (runR ns sl ([], false) (withPref hB psB)).1) ∨
    (okAll ns hA = false ∧ okAll ns hB = true ∧ (∃ t p, e1 = .iface t p) ∧ (∃ t p, e2 = .iface t p) ∧ e3 = .nilIface ∧ (runR ns sl ((runR ns sl ([], false) (withPref hA psA)).1, (runR ns sl ([], false) (withPref hA psA)).2) (withPref hB psB)).1 = (runR ns sl ([], false) (withPref hA psA)).1) ∨
    (okAll ns hA = false ∧ okAll ns hB = false ∧ (∃ t p, e1 = .iface t p) ∧ (∃ t p, e2 = .iface t p) ∧ (∃ t p, e3 = .iface t p) ∧ (runR ns sl ((runR ns sl ([], false) (withPref hA psA)).1, (runR ns sl ([], false) (withPref hA psA)).2) (withPref hB psB)).1 = (runR ns sl ([], false) (withPref hA psA)).1) := by
  have qA : (runR ns sl ([], false) (withPref hA psA)).2 = !okAll ns hA := by rw [runR_ok, okL_with]
  have qB : (runR ns sl ([], false) (withPref hB psB)).2 = !okAll ns hB := by rw [runR_ok, okL_with]
  rw [qA] at h1 h2 ⊢
  rw [qB] at h3
  cases hA' : okAll ns hA with
  | true =>
    rw [hA'] at h1 h2
    have qC : (runR ns sl ((runR ns sl ([], false) (withPref hA psA)).1, false) (withPref hB psB)).2 = !okAll ns hB := by rw [runR_ok, okL_with]
    change ErrIs (runR ns sl ((runR ns sl ([], false) (withPref hA psA)).1, false) (withPref hB psB)).2 e1 at h1
    rw [qC] at h1
    cases hB' : okAll ns hB with
    | true =>
      rw [hB'] at h1 h3
      exact .inl ⟨rfl, rfl, h1, h2, h3, runR_prefix ns sl _ _⟩
    | false =>
      rw [hB'] at h1 h3
      exact .inr (.inl ⟨rfl, rfl, h1, h2, h3, runR_prefix ns sl _ _⟩)
  | false =>
    rw [hA'] at h1 h2
    change ErrIs (runR ns sl ((runR ns sl ([], false) (withPref hA psA)).1, true) (withPref hB psB)).2 e1 at h1
    have qF := runR_failed ns sl (withPref hB psB) (runR ns sl ([], false) (withPref hA psA)).1
    rw [qF] at h1
    have qG : (runR ns sl ((runR ns sl ([], false) (withPref hA psA)).1, !false) (withPref hB psB)).1 = (runR ns sl ([], false) (withPref hA psA)).1 := by
      change (runR ns sl ((runR ns sl ([], false) (withPref hA psA)).1, true) (withPref hB psB)).1 = _
      rw [qF]
    cases hB' : okAll ns hB with
    | true =>
      rw [hB'] at h3
      exact .inr (.inr (.inl ⟨rfl, rfl, h1, h2, h3, qG⟩))
    | false =>
      rw [hB'] at h3
      exact .inr (.inr (.inr ⟨rfl, rfl, h1, h2, h3, qG⟩))
/-- What recordsMatch needs of the records. -/
theorem match_facts {ns : List Int} {sl N : Nat} {hl : List (List Int)} {ps : List Bool} (hN : hl.length = N) (h : okAll ns hl = true) :
    (runR ns sl ([], false) (withPref hl ps)).1 = recsOf ns sl (withPref hl ps) ∧ (ByteArray.mk (runR ns sl ([], false) (withPref hl ps)).1.toArray).size = N * (sl + 1) := by
  have q := okL_with ns hl ps
  rw [h] at q
  refine ⟨by rw [runR_recs ns sl _ _ q]; rfl, ?_⟩
  have := runR_len ns sl (withPref hl ps) [] q
  simp only [ByteArray.size, List.size_toArray]
  rw [this, withPref_length, hN]
  simp
end Go.Proofs.Qxb6613881aFmt
