/-
  The proof of Rows.FnGivenTwiceAfterOneMoreNameSaid: the frame of the guide's own shells; the walk: walk5_in, walk5_out (Qxb6613108aLaw).
-/
import Derived.Test.Qxb6613108aLaw
import Derived.WalkKit
import Derived.ProofKit
import Derived.OpenShut
import Derived.ShutString
import Derived.ChangeOld
import Derived.Below
import Derived.Deep.Grids
namespace Go.Proofs.Qxb6613108a.fnGivenTwiceAfterOneMoreName
open Go.ChangeShapes Go.WideShapes Go.ChangeAt Go.RowKit
open Go.ChangeMaps (open_string shut_string)
set_option linter.unusedVariables false

theorem own : ownKnob Try.prog.godebug = none := by kernel_rfl
theorem laidOut : laidOutB Try.prog = true := by kernel_rfl

/-- The cells at an address that is met: it is plain. -/
theorem plain_at {w : World} {a : Addr} {f : Nat → Value} {n : Nat} (h : ∀ i, i < n → w.cell? (a.add i) = some (f i)) (hp : 0 < n) :
    ∃ b off, a = ⟨b, off, none⟩ ∧ ∀ j, j < n → w.cell? ⟨b, off + j, none⟩ = some (f j) := by
  obtain ⟨b, off, spot⟩ := a
  have hspot : spot = none := by simpa [Addr.add] using World.cell?_spot (h 0 hp)
  subst hspot
  exact ⟨b, off, rfl, fun j hj => by rw [← Go.WideShapes.add_plain]; exact h j hj⟩
theorem rd_of {w : World} {a : Addr} {f : Nat → Value} {n cap : Nat} (h : ∀ i, i < cap → w.cell? (a.add i) = some (f i)) (hn : n ≤ cap) {vs : List Value} (hv : vs.length = n) (hf : ∀ j, j < n → vs[j]? = some (f j)) :
    Rd w.heap.size w (some a) vs := by
  by_cases h0 : n = 0
  · subst h0; exact .inl (List.eq_nil_of_length_eq_zero hv)
  · obtain ⟨b, off, rfl, hc⟩ := plain_at (n := n) (fun i hi => h i (by omega)) (by omega)
    refine .inr ⟨b, off, rfl, cell_lt (hc 0 (by omega)), fun j v hj => ?_⟩
    have hjn : j < n := by have := (List.getElem?_eq_some_iff.1 hj).1; omega
    rw [hc j hjn, ← hf j hjn]; exact hj

set_option maxRecDepth 100000 in
theorem lifted (os : Os) (started : os.Started) (H : Type) (enc : TypeId × Value → H) :
    ReturnsInHanded {} Try.checked os 5 .any (Rows.fnGivenTwiceAfterOneMoreNameSpec.pre6 enc Try.prog Try.f5 Rows.fnGivenTwiceAfterOneMoreNameRow.domain false) (Rows.fnGivenTwiceAfterOneMoreNameSpec.post enc Try.prog Try.f5 false true false false) := by
  refine returnsInHanded_of_change (C := Try.checked) own started (by kernel_rfl) Try.func5
    (ChangeSpec.witness6 (enc := enc) (C := Try.checked) false ⟨#[], #[.slice none 0 0, .slice none 0 0, .string ByteArray.empty, .bool false, .string ByteArray.empty], []⟩ 8 (by kernel_rfl) (by kernel_rfl) (by kernel_rfl) (by kernel_rfl)) ?_
  intro W base args ds gs before hval0 hW hcnd _
  have hval : ∀ (j : Nat) t v, Try.f5.params[j]? = some t → args[j]? = some v → Value.okWide Try.prog W .any base t v := hval0
  have hW' := hW
  obtain ⟨p, q, hA0, hV, rfl, hfz, hnd⟩ := hW
  have hA : DataW.TrodAll enc Try.prog W 0 (fun _ => true) true Try.f5.params.toList args.toList ds p := hA0
  rw [Try.params5] at hA hval
  obtain ⟨v0, vs0, d0, ds0, p0, q0, hargs, rfl, rfl, h0, r0⟩ := trodAll_cons hA
  obtain ⟨v1, vs1, d1, ds1, p1, q1, rfl, rfl, rfl, h1, r1⟩ := trodAll_cons r0
  obtain ⟨v2, vs2, d2, ds2, p2, q2, rfl, rfl, rfl, h2, r2⟩ := trodAll_cons r1
  obtain ⟨v3, vs3, d3, ds3, p3, q3, rfl, rfl, rfl, h3, r3⟩ := trodAll_cons r2
  obtain ⟨v4, vs4, d4, ds4, p4, q4, rfl, rfl, rfl, h4, r4⟩ := trodAll_cons r3
  obtain ⟨rfl, rfl, rfl⟩ := trodAll_nil r4
  obtain rfl : args = #[v0, v1, v2, v3, v4] := by cases args; simp_all
  obtain ⟨rfl, rfl⟩ := trodVars_none hV
  obtain ⟨a0, len0, cap0, rfl⟩ := okWide_slice Try.underlying29 (hval 0 29 v0 rfl rfl)
  obtain ⟨a1, len1, cap1, rfl⟩ := okWide_slice Try.underlying30 (hval 1 30 v1 rfl rfl)
  have k0 := h0
  have k1 := h1
  have lt0 : ∀ x ∈ p0, x.block < W.heap.size := by obtain ⟨m, hm⟩ := k0; exact DataW.trod_lt m _ _ _ hm
  have lt1 : ∀ x ∈ p1, x.block < W.heap.size := by obtain ⟨m, hm⟩ := k1; exact DataW.trod_lt m _ _ _ hm
  obtain ⟨ss, s0, m0, hs⟩ : ∃ ss, SlS W a0 len0 ss ∧ len0 ≤ maxLen ∧ ∀ s ∈ ss, s.size ≤ maxLen := by
    obtain ⟨fuel, hf⟩ := h0
    rcases open_strings Try.underlying29 Try.underlying9 (by kernel_rfl) hf with ⟨hcs, _⟩ | ⟨x, l, c, ss, hcs, _, hl, hm, hz, _, hcell, hws⟩
    · simp [Value.cells] at hcs
      obtain ⟨rfl, rfl, rfl⟩ := hcs
      exact ⟨[], ⟨.inl rfl, rfl, fun _ => rfl⟩, by unfold maxLen; omega, by simp⟩
    · simp [Value.cells] at hcs
      obtain ⟨rfl, rfl, rfl⟩ := hcs
      have hz' : ss.length = cap0 := by simpa using hz
      have hl' : (ss.take len0).length = len0 := by rw [List.length_take]; omega
      refine ⟨ss.take len0, ⟨rd_of hcell (n := len0) (by omega) (by rw [List.length_map]; exact hl') (fun j hj => ?_), hl', fun h => by cases h⟩, by omega, fun s hs => hws s (List.mem_of_mem_take hs)⟩
      rw [List.getElem?_map, List.getElem?_take, if_pos hj, List.getElem?_eq_getElem (by omega)]
      simp [List.getD_eq_getElem?_getD, List.getElem?_eq_getElem (show j < ss.length by omega)]
  obtain ⟨ts, b0, m1⟩ : ∃ ts, SlB W a1 len1 ts ∧ len1 ≤ maxLen := by
    obtain ⟨fuel, hf⟩ := h1
    rcases Go.Deep.open_bools Try.underlying30 Try.underlying4 (by kernel_rfl) hf with ⟨hcs, _⟩ | ⟨x, l, c, Bf, hcs, _, hl, hm, _, hcell⟩
    · simp [Value.cells] at hcs
      obtain ⟨rfl, rfl, rfl⟩ := hcs
      exact ⟨[], ⟨.inl rfl, rfl, fun _ => rfl⟩, by unfold maxLen; omega⟩
    · simp [Value.cells] at hcs
      obtain ⟨rfl, rfl, rfl⟩ := hcs
      refine ⟨(List.range len1).map Bf, ⟨rd_of hcell (n := len1) hl (by simp) (fun j hj => ?_), by simp, fun h => by cases h⟩, by omega⟩
      simp [hj]
  obtain ⟨x, rfl, rfl, rfl, wx⟩ := open_string Try.underlying9 (hval 2 9 v2 rfl rfl) h2
  obtain ⟨t, rfl, rfl, rfl⟩ := open_bool Try.underlying4 (hval 3 4 v3 rfl rfl) h3
  obtain ⟨y, rfl, rfl, rfl, wy⟩ := open_string Try.underlying9 (hval 4 9 v4 rfl rfl) h4
  clear hA0 hval0
  have wk : Calls Try.prog 5 #[.slice a0 len0 cap0, .slice a1 len1 cap1, .string x, .bool t, .string y] W fun e w' => e = .returned (.bool true) ∧ Below W.heap.size W w' := by
    by_cases h : len0 ≤ 65536 ∧ len1 = len0 ∧ x.size ≤ 1048576 ∧ y.size ≤ 1048576
    · obtain ⟨g1, g2, g3, g4⟩ := h
      subst g2
      exact walk5_in a0 a1 len1 cap0 cap1 ss ts x y t W s0 b0 g1 g3 g4 hs
    · exact walk5_out a0 a1 len0 cap0 len1 cap1 ss x y t W s0 m0 m1 hs wx wy h
  refine wk.mono fun e W' ⟨he, bel⟩ => ?_
  subst he
  exact ⟨_, rfl, _, _, _, [], _, [], hW', trodAll_mk1 (shut_bool Try.underlying4 _), (trodAll_cons_mk (Below.trod laidOut (by kernel_rfl) (of_decide_eq_true (by kernel_rfl)) k0 bel lt0) (trodAll_cons_mk (Below.trod laidOut (by kernel_rfl) (of_decide_eq_true (by kernel_rfl)) k1 bel lt1) (trodAll_cons_mk (shut_string Try.underlying9 wx) (trodAll_cons_mk (shut_bool Try.underlying4 _) (trodAll_cons_mk (shut_string Try.underlying9 wy) trodAll_mk0))))), rfl, bel.frame _, fun h => by cases h⟩

theorem over : Rows.fnGivenTwiceAfterOneMoreNameRow.holds Try.pinned (OpenSpec.ofChange Rows.fnGivenTwiceAfterOneMoreNameSpec) :=
  OpenClaim.holds_of_wide 5 Try.f5 rfl rfl rfl rfl rfl rfl rfl ⟨rfl, rfl, rfl, rfl, rfl⟩ rfl rfl rfl rfl rfl (by kernel_rfl) Try.func5 (by kernel_rfl)
    (of_decide_eq_true (by kernel_rfl)) (by unfold Func.isWrapper; first | (rw [if_pos (by decide +kernel)]; kernel_rfl) | (rw [if_neg (by decide +kernel)]; exact ⟨rfl, rfl⟩))
    (fun os started H enc _ => lifted os started H enc)

/-- THE STATEMENT -/
theorem proved : Rows.FnGivenTwiceAfterOneMoreNameSaid := over
end Go.Proofs.Qxb6613108a.fnGivenTwiceAfterOneMoreName
