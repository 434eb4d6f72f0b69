/-
  The proof of Rows.FnAppendNodeHashAnyCutToldSaid: from the walk (Qxb6613964aFmtLaw) to the told card.
-/
import Derived.Test.Qxb6613964aFmtCards
import Derived.Test.Qxb6613964aFmtLaw
import Derived.WalkKit
import Derived.ProofKit
import Derived.OpenShut
import Derived.ChangeOld
import Derived.Below
import Derived.Stop.JoinedAt
import Derived.Stop.JoinedTold
import Derived.SizedLaws
import Derived.SevenToldRow
namespace Go.Proofs.Qxb6613964aFmt.fnAppendNodeHashAnyCut
open Go.ChangeShapes Go.WideShapes Go.ChangeAt Go.RowKit
open Go.Extern.Stop Go.Stop Go.Extern
set_option linter.unusedVariables false

theorem own : ownKnob Tryf.prog.godebug = none := by kernel_rfl
theorem laidOut : laidOutB Tryf.pinned.checked.prog = true := by kernel_rfl
theorem cells5 : Tryf.prog.cellsOf 5 = 1 := by kernel_rfl
theorem cells23 : Tryf.prog.cellsOf 23 = 32 := by kernel_rfl
theorem stops : Tryf.pinned.checked.prog.stops = ["fmt.Sprintf"] := by kernel_rfl
theorem stopKnobs : Tryf.pinned.checked.prog.stopKnobs = [] := by kernel_rfl
theorem quiet (os : Os) : Stop.quiet Tryf.pinned.checked.prog os := by
  intro k hk
  rw [stopKnobs] at hk
  cases hk

theorem ints_of {k : IntKind} : ∀ {l : List Value}, (∀ i, i < l.length → ∃ z, l[i]? = some (.int k z)) → ∃ zs : List Int, l = zs.map (Value.int k)
  | [], _ => ⟨[], rfl⟩
  | v :: r, h => by
    obtain ⟨z, hz⟩ := h 0 (by simp)
    obtain ⟨zs, hzs⟩ := ints_of (l := r) (fun i hi => by
      obtain ⟨z, hz⟩ := h (i + 1) (by simpa using hi)
      exact ⟨z, by simpa using hz⟩)
    simp at hz
    exact ⟨z :: zs, by rw [hz, hzs]; rfl⟩

theorem take_one {l : List Value} {i : Nat} {v : Value} (h : (l.drop i).take 1 = [v]) : l[i]? = some v := by
  have : ((l.drop i).take 1)[0]? = some v := by rw [h]; rfl
  simpa using this

theorem walk (a : Option Addr) (n cap : Nat) (zs hz : List Int) (k : Int) (w : World) (hzl : hz.length = 32)
    (h : (a = none ∧ n = 0 ∧ cap = 0 ∧ zs = []) ∨ ∃ x, a = some x ∧ n ≤ cap ∧ cap ≤ maxLen ∧ zs.length = cap ∧ (∀ i, i < zs.length → w.cell? (x.add i) = some (.int .u8 (zs.getD i 0)))) :
    Calls Tryf.prog 3 #[.slice a n cap, .agg (hz.map (Value.int .u8)).toArray, .int .i64 k] w fun e w' => e = .returned (.bool true) ∧ Below w.heap.size w w' := by
  have hvl : (hz.map (Value.int .u8)).length = 32 := by simpa using hzl
  by_cases hlen : n ≤ 1048576
  · have hrn : Rd w.heap.size w a ((zs.take n).map (Value.int .u8)) ∧ (zs.take n).length = n ∧ (a = none → n = 0) := by
      rcases h with ⟨rfl, rfl, rfl, rfl⟩ | ⟨x, rfl, hl, hm, rfl, hc⟩
      · exact ⟨.inl rfl, rfl, fun _ => rfl⟩
      · refine ⟨?_, by simp; omega, fun h => by cases h⟩
        by_cases h0 : n = 0
        · subst h0; exact .inl rfl
        · obtain ⟨b, off, rfl, hc'⟩ := ints_at hc (by omega)
          refine .inr ⟨b, off, rfl, cell_lt (hc' 0 (by omega)), fun j v hj => ?_⟩
          have hj' : j < zs.length := by have := (List.getElem?_eq_some_iff.1 hj).1; simp at this; omega
          have hjn : j < n := by have := (List.getElem?_eq_some_iff.1 hj).1; simp at this; omega
          rw [hc' j hj', ← hj]
          simp [hjn, hj', List.getD_eq_getElem?_getD]
    obtain ⟨hr, hn, h0⟩ := hrn
    by_cases hk : 0 ≤ k ∧ k ≤ n
    · obtain ⟨kn, rfl⟩ := Int.eq_ofNat_of_zero_le hk.1
      exact walk3 a n cap (zs.take n) hz _ kn w hr hn h0 hvl rfl (ints_oneCell .u8 hz) hlen (by omega)
    · exact walk3_cut a n cap _ k w hlen hk hvl
  · exact walk3_over a n cap _ k w hlen hvl

set_option maxRecDepth 100000 in
theorem lifted (os : Os) (started : os.Started) (H : Type) (enc : TypeId × Value → H) :
    ReturnsInTold none {} Tryf.checked os 3 .any Input.okWide ((OpenSpec.ofChange Rows.fnAppendNodeHashAnyCutSpec).preRow enc Tryf.prog Tryf.f3 [] false []) (fun F => ((OpenSpec.ofChange Rows.fnAppendNodeHashAnyCutSpec).at F).post enc Tryf.prog Tryf.f3 false true false false) (aloneAtReturn Tryf.prog) nothingAlways := by
  refine returnsInTold_of_row (C := Tryf.checked) (s := OpenSpec.ofChange Rows.fnAppendNodeHashAnyCutSpec) (by kernel_rfl) own started (by kernel_rfl) Tryf.func3
    (OpenSpec.witness_stopped (enc := enc) (C := Tryf.checked) false ⟨#[], #[.slice none 0 0, .agg (Array.replicate 32 (.int .u8 0)), .int .i64 0], []⟩ 8 (by kernel_rfl) (by kernel_rfl) (by kernel_rfl) (by kernel_rfl)) ?_
  intro F W base args ds gs before _ hF hval0 hW _ _ _ _ _
  have hval : ∀ (j : Nat) t v, Tryf.f3.params[j]? = some t → args[j]? = some v → Value.okWide Tryf.prog W .any base t v := hval0
  have hW' := hW
  obtain ⟨p, q, hA0, hV, rfl, _, _⟩ := hW
  have hA : DataW.TrodAll enc Tryf.prog W 0 (fun _ => true) true Tryf.f3.params.toList args.toList ds p := hA0
  rw [Tryf.params3] at hA hval
  obtain ⟨v0, v1, v2, d0, d1, d2, p0, p1, p2, rfl, rfl, rfl, h0, h1, h2⟩ := trodAll_three hA
  obtain ⟨rfl, rfl⟩ := trodVars_none hV
  obtain ⟨a0, len0, cap0, rfl⟩ := okWide_slice Tryf.underlying22 (hval 0 22 v0 rfl rfl)
  have k0 := h0
  have k1 := h1
  have k2 := h2
  have lt0 : ∀ x ∈ p0, x.block < W.heap.size := by obtain ⟨m, hm⟩ := k0; exact DataW.trod_lt m _ _ _ hm
  have lt1 : ∀ x ∈ p1, x.block < W.heap.size := by obtain ⟨m, hm⟩ := k1; exact DataW.trod_lt m _ _ _ hm
  have lt2 : ∀ x ∈ p2, x.block < W.heap.size := by obtain ⟨m, hm⟩ := k2; exact DataW.trod_lt m _ _ _ hm
  obtain ⟨z0, w0⟩ : ∃ zs, (a0 = none ∧ len0 = 0 ∧ cap0 = 0 ∧ zs = []) ∨ ∃ x, a0 = some x ∧ len0 ≤ cap0 ∧ cap0 ≤ maxLen ∧ zs.length = cap0 ∧ (∀ i, i < zs.length → W.cell? (x.add i) = some (.int .u8 (zs.getD i 0))) := by
    obtain ⟨fuel, hf⟩ := h0
    rcases open_ints Tryf.underlying22 Tryf.underlying5 (by kernel_rfl) hf with ⟨hcs, _⟩ | ⟨x, l, c, zs, hcs, _, hl, hm, hz, _, hcell, hwz⟩
    · simp [Value.cells] at hcs
      obtain ⟨rfl, rfl, rfl⟩ := hcs
      exact ⟨[], .inl ⟨rfl, rfl, rfl, rfl⟩⟩
    · simp [Value.cells] at hcs
      obtain ⟨rfl, rfl, rfl⟩ := hcs
      exact ⟨zs, .inr ⟨_, rfl, hl, hm, by simpa using hz, hcell⟩⟩
  obtain ⟨hz, hzl, rfl⟩ : ∃ hz : List Int, hz.length = 32 ∧ v1 = .agg (hz.map (Value.int .u8)).toArray := by
    obtain ⟨cs, rfl, hsz, _⟩ : ∃ cs, v1 = .agg cs ∧ cs.size = Tryf.prog.cellsOf 23 ∧ Row.okWide Tryf.prog W .any base 23 cs := by
      have := hval 1 23 v1 rfl rfl
      simpa [Value.okWide, Tryf.underlying23] using this
    rw [cells23] at hsz
    obtain ⟨fuel, hf⟩ := h1
    obtain ⟨xs, m, _, _, hcl, hxl, hel⟩ := DataW.trod_array Tryf.underlying23 hf
    simp only [Value.cells] at hel
    obtain ⟨zs, hzs⟩ := ints_of (k := .u8) (l := cs.toList) (fun i hi => by
      have hi' : i < 32 := by simpa [hsz] using hi
      have h := hel i hi'
      rw [cells5, Nat.mul_one, List.getElem?_eq_getElem (by omega)] at h
      obtain ⟨z, e, _, _⟩ := DataW.trod_int Tryf.underlying5 h
      exact ⟨z, take_one e⟩)
    refine ⟨zs, ?_, ?_⟩
    · have := congrArg List.length hzs
      simpa [hsz] using this.symm
    · rw [← hzs]
  obtain ⟨a2, rfl, rfl, rfl, w2⟩ := open_int Tryf.underlying3 (hval 2 3 v2 rfl rfl) h2
  clear hA0 hval0
  refine (walk a0 len0 cap0 z0 hz a2 W hzl w0).mono fun e W' ⟨he, bel⟩ => ?_
  subst he
  exact ⟨_, rfl, _, _, _, [], _, [], hW', trodAll_mk1 (shut_bool Tryf.underlying4 _), (trodAll_cons_mk (Below.trod laidOut (by kernel_rfl) (of_decide_eq_true (by kernel_rfl)) k0 bel lt0) (trodAll_cons_mk (Below.trod laidOut (by kernel_rfl) (of_decide_eq_true (by kernel_rfl)) k1 bel lt1) (trodAll_cons_mk (shut_int Tryf.underlying3 w2) trodAll_mk0))), rfl, bel.frame _, fun h => by cases h⟩

/-- THE STATEMENT -/
theorem proved : Rows.FnAppendNodeHashAnyCutToldSaid :=
  Claim7.holds_of_told_any 3 Tryf.f3 "fmt.Sprintf" [] [] _ _ _ (by kernel_rfl) rfl rfl rfl laidOut (by kernel_rfl) rfl ⟨rfl, rfl, rfl, rfl, rfl, rfl, rfl⟩ rfl rfl (by kernel_rfl) (by kernel_rfl) Tryf.func3 (by kernel_rfl)
    (of_decide_eq_true (by kernel_rfl)) (of_decide_eq_true (by kernel_rfl)) stops.symm rfl stopKnobs.symm (by kernel_rfl)
    (by kernel_rfl) (by kernel_rfl) (by kernel_rfl) (by kernel_rfl) (by kernel_rfl) (by kernel_rfl) (by kernel_rfl) (by kernel_rfl) (by kernel_rfl) rfl (by kernel_rfl) rfl rfl
    rfl rfl
    rfl (by kernel_rfl) (by kernel_rfl) (by kernel_rfl) (by decide) (by kernel_rfl)
    (OpenClaim.moreEntering_of (by kernel_rfl) (by kernel_rfl) (by kernel_rfl) (by kernel_rfl) (by kernel_rfl) (by kernel_rfl) (by kernel_rfl) (by kernel_rfl) (by kernel_rfl) (by kernel_rfl))
    ⟨_, WideRow.started_initial, quiet _⟩
    (fun os started _ H enc _ => lifted os started H enc)
end Go.Proofs.Qxb6613964aFmt.fnAppendNodeHashAnyCut
