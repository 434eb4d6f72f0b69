/-
  numalign: small laws: a slice that is read ('Rd'), rows that are owned, append of zeros.
-/
import Derived.Test.Qxb6613881aFmtErr
import Derived.WalkKit
import Derived.WalkSpells
import Derived.WalkLawsBesides
import Derived.ProofKit
import Derived.Laws.CopyOwn
import Derived.Lib.AppendZeros
import Derived.Deep.WholeRow
import Derived.Deep.QuietTactic
import Derived.BigQuiet
import Derived.Deep.DeepMust
import Derived.Lib.SliceRun
import Derived.Outline
namespace Go.Proofs.Qxb6613881aFmt
open Go.RowKit
set_option linter.unusedVariables false

/-- THE SLICE AT a READS AS vs, AND LIES BELOW BLOCK B (where it has an element at all). -/
def Rd (B : Nat) (w : World) (a : Option Addr) (vs : List Value) : Prop :=
  vs = [] ∨ ∃ b off, a = some ⟨b, off, .none⟩ ∧ b < B ∧ ∀ j v, vs[j]? = some v → w.cell? ⟨b, off + j, .none⟩ = some v
theorem Rd.nil (B : Nat) (w : World) (a : Option Addr) : Rd B w a [] := .inl rfl
theorem Rd.mono {B B' : Nat} {w : World} {a : Option Addr} {vs : List Value} (h : Rd B w a vs) (hB : B ≤ B') : Rd B' w a vs := by
  rcases h with h | ⟨b, off, h1, h2, h3⟩
  · exact .inl h
  · exact .inr ⟨b, off, h1, by omega, h3⟩
theorem Rd.below {B : Nat} {w w' : World} {a : Option Addr} {vs : List Value} (h : Rd B w a vs) (hb : Below B w w') : Rd B w' a vs := by
  rcases h with h | ⟨b, off, h1, h2, h3⟩
  · exact .inl h
  · exact .inr ⟨b, off, h1, h2, fun j v hv => by rw [hb.cell (p := ⟨b, off + j, .none⟩) h2]; exact h3 j v hv⟩
theorem Rd.at {B g : Nat} {w : World} {vs : List Value} (h : Rd B w (some ⟨g, 0, .none⟩) vs) : ∀ j v, vs[j]? = some v → w.cell? ⟨g, j, .none⟩ = some v := by
  intro j v hv
  rcases h with h | ⟨b, off, h1, h2, h3⟩
  · subst h; cases hv
  · simp only [Option.some.injEq, Addr.mk.injEq, and_true] at h1
    obtain ⟨rfl, rfl⟩ := h1
    have := h3 j v hv
    rwa [Nat.zero_add] at this
/-- A part of it. -/
theorem Rd.part {B g : Nat} {w : World} {us vs ts : List Value} (h : Rd B w (some ⟨g, 0, .none⟩) (us ++ vs ++ ts)) : Rd B w (some ⟨g, us.length, .none⟩) vs := by
  by_cases hv : vs = []
  · exact .inl hv
  · rcases h with h | ⟨b, off, h1, h2, h3⟩
    · simp at h; exact .inl h.2.1
    · simp only [Option.some.injEq, Addr.mk.injEq, and_true] at h1
      obtain ⟨rfl, rfl⟩ := h1
      refine .inr ⟨_, us.length, rfl, h2, fun j v hj => ?_⟩
      have := h3 (us.length + j) v (by
        rw [List.append_assoc, List.getElem?_append_right (by omega), List.getElem?_append_left (by
          have := (List.getElem?_eq_some_iff.1 hj).1; omega)]
        rw [← hj]; congr 1; omega)
      rwa [Nat.zero_add] at this
/-- What a row owns is read. -/
theorem Rd.own {w : World} {base : Nat} {e : TypeId} {a : Option Addr} {n m cap : Nat} {xs : List Value} (h : w.ownsRow base e 1 (.slice a m cap) n xs) : Rd w.heap.size w a xs ∧ m = n ∧ xs.length = n := by
  have hl := h.1
  have hb := fun k hk => (h.lt k hk).2
  rcases h.2 with ⟨h1, h2⟩ | ⟨g, cap', cur, h1, h2, h3, h4, h5, h6, h7⟩
  · simp only [Value.slice.injEq] at h1
    obtain ⟨rfl, rfl, rfl⟩ := h1
    subst h2
    exact ⟨.inl (List.eq_nil_of_length_eq_zero (by simpa using hl)), rfl, by simpa using hl⟩
  · simp only [Value.slice.injEq] at h1
    obtain ⟨rfl, rfl, rfl⟩ := h1
    refine ⟨.inr ⟨g, 0, rfl, hb g rfl, fun j v hv => ?_⟩, rfl, by simpa using hl⟩
    have hj : j < xs.length := (List.getElem?_eq_some_iff.1 hv).1
    rw [Nat.zero_add, h.cellAt j (by omega)]
    exact hv

/-- A row that is full: its block, written out. -/
theorem own_full {w : World} {base g n : Nat} {e : TypeId} {xs : List Value} (h : w.ownsRow base e 1 (.slice (some ⟨g, 0, .none⟩) n n) n xs) : w.heap[g]? = some (.cells xs.toArray e (0, 0)) ∧ xs.length = n := by
  have hl := h.1
  rcases h.2 with ⟨h1, h2⟩ | ⟨g', cap', cur, h1, h2, h3, h4, h5, h6, h7⟩
  · cases h1
  · simp only [Value.slice.injEq, Option.some.injEq, Addr.mk.injEq, and_true, true_and] at h1
    obtain ⟨rfl, rfl⟩ := h1
    rw [List.take_of_length_le (by rw [Array.length_toList]; omega)] at h7
    subst h7
    exact ⟨by simpa using h3, by simpa using hl⟩
theorem own_full_ex {w : World} {base g n : Nat} {e : TypeId} {xs : List Value} (h : w.ownsRow base e 1 (.slice (some ⟨g, 0, .none⟩) n n) n xs) : ∃ cur : List Value, w.heap[g]? = some (.cells cur.toArray e (0, 0)) ∧ cur.length = n := ⟨xs, own_full h⟩
/-- .. and back. -/
theorem full_own {w : World} {base g n : Nat} {e : TypeId} {xs : List Value} (h : w.heap[g]? = some (.cells xs.toArray e (0, 0))) (hb : base ≤ g) (hn : xs.length = n) (hm : n ≤ maxLen) : w.ownsRow base e 1 (.slice (some ⟨g, 0, .none⟩) n n) n xs :=
  ⟨by omega, .inr ⟨g, n, xs.toArray, rfl, hb, h, Nat.le_refl _, hm, by simpa using hn, by subst hn; simp⟩⟩
theorem splice_all {α : Type} (L cs : List α) (h : L.length = cs.length) : splice L 0 cs = cs := by
  simp [splice, List.drop_of_length_le (Nat.le_of_eq h)]
/-- What a copy asks of its source. -/
theorem Rd.src {B : Nat} {w w' : World} {a : Option Addr} {vs : List Value} {g : Nat} (h : Rd B w a vs) (hb : Below B w w') :
    0 < vs.length → (some (⟨g, 0, .none⟩ : Addr)) = some ⟨g, 0, .none⟩ ∧ ∃ ad, a = some ad ∧ ∀ j v, vs[j]? = some v → w'.cell? (ad.add j) = some v := by
  intro hp
  rcases h.below hb with h | ⟨b, off, h1, h2, h3⟩
  · subst h; simp at hp
  · exact ⟨rfl, _, h1, fun j v hv => by rw [Go.WideShapes.add_plain]; exact h3 j v hv⟩


theorem info5 : (Tryf.prog.info? 5).map (fun i => (i.zero, i.size, i.bytes)) = some (some (.int .u8 0), 1, 1) := by kernel_rfl
theorem size5 : (Tryf.prog.info? 5).map (·.size) = some 1 := by kernel_rfl
theorem info3 : (Tryf.prog.info? 3).map (fun i => (i.zero, i.size, i.bytes)) = some (some (.int .i64 0), 1, 8) := by kernel_rfl
theorem size3 : (Tryf.prog.info? 3).map (·.size) = some 1 := by kernel_rfl

theorem zeroCells_byte (n : Nat) : Builtin.zeroCells #[Value.int .u8 0] n = (List.replicate n (Value.int .u8 0)).toArray := by
  apply Array.ext'
  simp [Builtin.zeroCells]
  apply List.ext_getElem
  · simp
  · intro i h1 h2
    simp [Nat.mod_one]

/-- append(s, make([]byte, m)...) on a row that is owned. -/
theorem append_zeros (base n m : Nat) (ty : TypeId) (v : Value) (xs : List Value) (w : World) (hown : w.ownsRow base 5 1 v n xs) (hm : 0 < m) (hs : n + m ≤ 1000000000) (hbase : base ≤ w.heap.size) :
    ∃ g cap w', (Builtin.append_ #[53, 3] ty #[v, .int .i64 m]).run Tryf.prog w = .ok (.slice (some ⟨g, 0, .none⟩) (n + m) cap) w' ∧ w'.ownsRow base 5 1 (.slice (some ⟨g, 0, .none⟩) (n + m) cap) (n + m) (xs ++ List.replicate m (.int .u8 0)) ∧ w.grownBy w' v.ownBlock ∧ (some g = v.ownBlock ∨ g = w.heap.size) := by
  obtain ⟨i0, hi, hz0, hz1, hz2⟩ := info_parts info5
  have hw : IntKind.i64.wrap (m : Int) = m := by rw [IntKind.wrap_i64]; omega
  have hneg : ¬ ((m : Int) < 0) := by omega
  have hm0 : m ≠ 0 := by omega
  have h48i : ¬ (281474976710656 < (m : Int)) := by omega
  have hlen : (xs ++ List.replicate m (Value.int .u8 0)).length = (n + m) * 1 := by rw [List.length_append, hown.1, List.length_replicate]; omega
  have grown : ∀ (old : Nat), old < n + m → ∀ (row : Option Nat),
      (w.drew.alloc (.cells (xs.toArray ++ (List.replicate m (Value.int .u8 0)).toArray ++ (List.replicate (grownCap w (n + m) old 5 - (n + m)) (Value.int .u8 0)).toArray) 5)).ownsRow base 5 1
        (.slice (some ⟨w.heap.size, 0, .none⟩) (n + m) (grownCap w (n + m) old 5)) (n + m) (xs ++ List.replicate m (.int .u8 0)) ∧
      w.grownBy (w.drew.alloc (.cells (xs.toArray ++ (List.replicate m (Value.int .u8 0)).toArray ++ (List.replicate (grownCap w (n + m) old 5 - (n + m)) (Value.int .u8 0)).toArray) 5)) row := by
    intro old ho row
    have hge := grownCap_ge w (n + m) old 5
    have hcm : grownCap w (n + m) old 5 ≤ maxLen := grownCap_le_maxLen w (n + m) old 5 (by unfold maxLen; omega)
    refine ⟨⟨hlen, .inr ⟨w.heap.size, _, _, rfl, hbase, heap_alloc_new w.drew _, hge, hcm, ?_, ?_⟩⟩, ⟨rfl, rfl, rfl, by simp, fun k hk h => (World.grownBy_alloc w.drew _ row).block k hk h⟩⟩
    · have h1 := hown.1
      simp
      omega
    · simp only [Array.toList_append, List.append_assoc]
      rw [← List.append_assoc, ← hlen]
      exact List.take_left
  rcases hown.2 with ⟨rfl, rfl⟩ | ⟨g, cap, cur, rfl, hbg, hg, hnc, hcm, hcs, htake⟩
  · have hx : xs = [] := List.eq_nil_of_length_eq_zero (by simpa using hown.1)
    subst hx
    have hr := Lib.run_append_nil_zeros (P := Tryf.prog) w 53 3 ty 5 i0 (.int .u8 0) .i64 .i64 Tryf.underlying53 Tryf.underlying3 hi hz0 m hm (by omega) (by omega) (by rw [hz2]; omega)
    have hgr := grown 0 (by omega) (Value.ownBlock (.slice .none 0 0))
    simp only [Nat.zero_add, List.nil_append, Value.cells, zeroCells_byte] at hgr hr ⊢
    exact ⟨_, _, _, hr, by simpa using hgr.1, by simpa using hgr.2, .inr rfl⟩
  · by_cases hroom : n + m ≤ cap
    · have hst := run_storeCells_at Tryf.prog g n 5 (List.replicate m (Value.int .u8 0)) 0 cur w hg (by simp; omega) (fun u hu => by rw [List.eq_of_mem_replicate hu]; rfl)
      simp only [Nat.add_zero] at hst
      refine ⟨g, cap, w.setRow g (cur.toList.take n ++ List.replicate m (Value.int .u8 0) ++ cur.toList.drop (n + m)).toArray, ?_, ⟨hlen, .inr ⟨g, cap, _, rfl, hbg, setRow_heap w g cur _ 5 _ hg, hroom, hcm, ?_, ?_⟩⟩, ⟨rfl, rfl, rfl, by simp, fun k _ hk => setRow_other w g k _ (fun e => hk (by simp [Value.ownBlock, e]))⟩, .inl rfl⟩
      · simp [Builtin.append_, run_underlying Tryf.underlying53, run_underlying Tryf.underlying3, sizeOf, typeInfo, zeroValue, hi, hz0, hz1, hz2, asInt, asIntOf, hw, hm0, hneg, h48i, hroom, Addr.add_lit, zeroCells_byte, Value.cells]
        rw [hst]
        simp
      · simp only [List.size_toArray, List.length_append, List.length_take, List.length_drop, Array.length_toList, List.length_replicate]
        omega
      · rw [Nat.mul_one] at htake
        rw [htake, ← hlen]
        exact List.take_left
    · have holds : ∀ j u, xs[j]? = some u → w.cell? ((⟨g, 0, .none⟩ : Addr).add j) = some u := hown.cells (g := g) rfl
      have hl1 := hown.1
      have hfo := run_firstCells_some (P := Tryf.prog) w.drew 1 n ⟨g, 0, .none⟩ n cap xs hl1 (by simpa using holds)
      have h48' : ¬ (281474976710656 < Builtin.nextslicecap (n + m) cap) := by have := nextslicecap_le (need := n + m) (old := cap) (by omega); omega
      have h63' : ¬ (9223372036854775807 < ((n : Int) + (m : Int))) := by omega
      have hgr := grown cap (by omega) (Value.ownBlock (.slice (some ⟨g, 0, .none⟩) n cap))
      refine ⟨w.heap.size, grownCap w (n + m) cap 5, _, ?_, hgr.1, hgr.2, .inr rfl⟩
      simp [Builtin.append_, run_underlying Tryf.underlying53, run_underlying Tryf.underlying3, sizeOf, typeInfo, zeroValue, hi, hz0, hz1, hz2, asInt, asIntOf, hw, hm0, hneg, h48i, hroom, h48', h63', Question.forced, hfo, newRow, grownCap, zeroCells_byte, Value.cells]
end Go.Proofs.Qxb6613881aFmt
