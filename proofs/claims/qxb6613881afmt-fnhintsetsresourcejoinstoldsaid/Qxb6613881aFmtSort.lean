/-
  numalign: sortedCopyB1.
-/
import Derived.Test.Qxb6613881aFmtIndex
namespace Go.Proofs.Qxb6613881aFmt
open Go.RowKit
set_option linter.unusedVariables false

abbrev vi (zs : List Int) : List Value := zs.map (Value.int .i64)
theorem srt_sorted (zs : List Int) : (srt zs).Pairwise (· ≤ ·) := by
  have := List.pairwise_mergeSort (le := fun x y : Int => decide (x ≤ y)) (fun a b c h1 h2 => by simp at *; omega) (fun a b => by simp; omega) zs
  exact this.imp (fun h => by simpa using h)
theorem srt_unique {zs L : List Int} (hp : L.Perm zs) (hs : L.Pairwise (· ≤ ·)) : L = srt zs := by
  refine List.Perm.eq_of_pairwise (le := (· ≤ ·)) (fun a b _ _ h1 h2 => by omega) hs (srt_sorted zs) ?_
  exact hp.trans (List.mergeSort_perm zs _).symm
/-- What the shifting loop has done: x is to be laid at A.length. -/
structure Shift (L : List Int) (i : Nat) (x : Int) (A : List Int) (y : Int) (Bm C : List Int) : Prop where
  whole : L = A ++ Bm ++ x :: C
  len : A.length + Bm.length = i
  up : (A ++ Bm).Pairwise (· ≤ ·)
  big : ∀ b ∈ Bm, x < b
theorem Shift.start {L : List Int} {i : Nat} (hi : i < L.length) (hs : (L.take i).Pairwise (· ≤ ·)) : Shift L i (L[i]?.getD 0) (L.take i) (L[i]?.getD 0) [] (L.drop (i + 1)) := by
  refine ⟨?_, by simp; omega, by simpa using hs, fun b hb => by cases hb⟩
  rw [List.getElem?_eq_getElem hi]
  simp
theorem Shift.step {L A' Bm C : List Int} {i : Nat} {x y a : Int} (h : Shift L i x (A' ++ [a]) y Bm C) (ha : x < a) : Shift L i x A' a (a :: Bm) C := by
  refine ⟨?_, ?_, ?_, ?_⟩
  · rw [h.whole]; simp
  · have := h.len; simp at this ⊢; omega
  · have := h.up; simpa using this
  · intro b hb
    rcases List.mem_cons.1 hb with rfl | hb
    · exact ha
    · exact h.big b hb
theorem Shift.done {L A Bm C : List Int} {i : Nat} {x y : Int} (h : Shift L i x A y Bm C) (hA : ∀ a ∈ A.getLast?, a ≤ x) : (A ++ x :: Bm ++ C).Perm L ∧ ((A ++ x :: Bm ++ C).take (i + 1)).Pairwise (· ≤ ·) := by
  constructor
  · rw [h.whole]
    rw [List.append_assoc, List.append_assoc]
    refine List.Perm.append_left A ?_
    rw [List.cons_append]
    exact List.perm_middle.symm
  · have e : (A ++ x :: Bm ++ C).take (i + 1) = A ++ x :: Bm := by
      rw [List.take_append_of_le_length (by have := h.len; simp; omega), List.take_of_length_le (by have := h.len; simp; omega)]
    rw [e]
    have hup := h.up
    rw [List.pairwise_append] at hup ⊢
    refine ⟨hup.1, List.pairwise_cons.2 ⟨fun b hb => by have := h.big b hb; omega, hup.2.1⟩, ?_⟩
    intro a ha b hb
    have hax : a ≤ x := by
      cases hl : A.getLast? with
      | none => rw [List.getLast?_eq_none_iff] at hl; subst hl; cases ha
      | some z =>
        have hz := hA z (by rw [hl]; rfl)
        obtain ⟨A', rfl⟩ := List.getLast?_eq_some_iff.1 hl
        have h1 := hup.1
        rw [List.pairwise_append] at h1
        rcases List.mem_append.1 ha with h2 | h2
        · have := h1.2.2 a h2 z (by simp); omega
        · simp at h2; omega
    rcases List.mem_cons.1 hb with rfl | hb
    · exact hax
    · have := h.big b hb; omega
theorem set_at (A Bm C : List Int) (y x : Int) : (vi (A ++ y :: Bm ++ C)).set A.length (.int .i64 x) = vi (A ++ x :: Bm ++ C) := by
  simp [vi]
theorem vi_cell {w : World} {g : Nat} {L : List Int} (h : w.heap[g]? = some (.cells (vi L).toArray 3 (0, 0))) {j : Nat} (hj : j < L.length) : w.cell? ⟨g, j, .none⟩ = some (.int .i64 (L[j]?.getD 0)) := by
  rw [cell_of_row _ _ _ _ _ (0, 0) h, List.getElem?_toArray, List.getElem?_map, List.getElem?_eq_getElem hj]; rfl
theorem vi_set {w : World} {g : Nat} {A Bm C : List Int} {y x : Int} {k : Nat} (h : w.heap[g]? = some (.cells (vi (A ++ y :: Bm ++ C)).toArray 3 (0, 0))) (hk : A.length = k) : (w.setCell ⟨g, k, .none⟩ (.int .i64 x)).heap[g]? = some (.cells (vi (A ++ x :: Bm ++ C)).toArray 3 (0, 0)) := by
  subst hk
  rw [heap_setCell_same _ _ _ _ _ _ h, ← set_at A Bm C y x]
  congr 2
  apply Array.ext'
  simp
/-- While copying: the first k are laid. -/
def half (zs : List Int) (k : Nat) : List Int := zs.take k ++ List.replicate (zs.length - k) 0
theorem half_zero (zs : List Int) : half zs 0 = List.replicate zs.length 0 := by simp [half]
theorem half_full (zs : List Int) : half zs zs.length = zs := by simp [half]
theorem half_length (zs : List Int) (k : Nat) (hk : k ≤ zs.length) : (half zs k).length = zs.length := by simp [half]; omega
theorem half_set {w : World} {g : Nat} {zs : List Int} {k : Nat} (hk : k < zs.length) (h : w.heap[g]? = some (.cells (vi (half zs k)).toArray 3 (0, 0))) : (w.setCell ⟨g, k, .none⟩ (.int .i64 (zs[k]?.getD 0))).heap[g]? = some (.cells (vi (half zs (k + 1))).toArray 3 (0, 0)) := by
  have e1 : half zs k = zs.take k ++ 0 :: [] ++ List.replicate (zs.length - (k + 1)) 0 := by
    unfold half
    rw [show zs.length - k = (zs.length - (k + 1)) + 1 by omega, List.replicate_succ]
    simp
  have e2 : half zs (k + 1) = zs.take k ++ (zs[k]?.getD 0) :: [] ++ List.replicate (zs.length - (k + 1)) 0 := by
    unfold half
    rw [List.take_succ_eq_append_getElem hk, List.getElem?_eq_getElem hk]
    simp
  rw [e1] at h
  rw [e2]
  exact vi_set h (by simp; omega)
theorem vi_made {w : World} {base n : Nat} {zs : List Int} (hn : zs.length = n) (h : w.ownsRow base 3 1 (.slice (some ⟨base, 0, .none⟩) n n) n (madeCells (Value.int .i64 0).cells (n * 1)).toList) : w.heap[base]? = some (.cells (vi (half zs 0)).toArray 3 (0, 0)) := by
  rw [made_full h, half_zero, hn]
  simp [vi]
theorem Shift.mem {L C : List Int} {m : Nat} {x : Int} {w : World} {g : Nat} (h : Shift L m x (L.take m) x [] C) (hg : w.heap[g]? = some (.cells (vi L).toArray 3 (0, 0))) : w.heap[g]? = some (.cells (vi (L.take m ++ x :: [] ++ C)).toArray 3 (0, 0)) := by
  have e : L.take m ++ x :: [] ++ C = L := by
    have := h.whole
    simp at this ⊢
    exact this.symm
  rw [e]; exact hg
theorem Shift.lt {L A Bm C : List Int} {i k : Nat} {x y : Int} (h : Shift L i x A y Bm C) (hk : L.length = k) : A.length < k := by
  have := congrArg List.length h.whole
  simp at this
  omega
theorem vi_some {w : World} {g : Nat} {L : List Int} (h : w.heap[g]? = some (.cells (vi L).toArray 3 (0, 0))) (j : Nat) (hj : j < L.length) : ∃ z : Int, w.cell? ⟨g, j, .none⟩ = some (.int .i64 z) := ⟨_, vi_cell h hj⟩
theorem nil_or_snoc (A : List Int) : A = [] ∨ ∃ A' a, A = A' ++ [a] := by
  rcases List.eq_nil_or_concat A with h | ⟨L, b, h⟩
  · exact .inl h
  · exact .inr ⟨L, b, by rw [h, List.concat_eq_append]⟩
theorem neg_of {jz : Int} (h : jz + 1 = (([] : List Int).length : Int)) : jz = -1 := by simp at h; omega
theorem pos_of {jz : Int} {A' : List Int} {a : Int} {p : Nat} (h : jz + 1 = ((A' ++ [a]).length : Int)) (hp : A'.length = p) : jz = (p : Int) := by simp at h; omega
theorem vi_at {w : World} {g p : Nat} {A' : List Int} {a : Int} {R : List Int} {y : Int} {Bm : List Int} (h : w.heap[g]? = some (.cells (vi (A' ++ [a] ++ y :: Bm ++ R)).toArray 3 (0, 0))) (hp : A'.length = p) : w.cell? ⟨g, p, .none⟩ = some (.int .i64 a) := by
  rw [vi_cell h (by simp; omega)]
  subst hp
  simp
theorem vi_shape {w : World} {g : Nat} {A' : List Int} {a : Int} {R : List Int} {Bm : List Int} (h : w.heap[g]? = some (.cells (vi (A' ++ [a] ++ a :: Bm ++ R)).toArray 3 (0, 0))) : w.heap[g]? = some (.cells (vi (A' ++ a :: (a :: Bm) ++ R)).toArray 3 (0, 0)) := by
  rw [h]; simp
theorem take_one_sorted (zs : List Int) : (zs.take 1).Pairwise (· ≤ ·) := by
  cases zs with
  | nil => simp
  | cons x r => simp
theorem toNat_pred {k : Nat} (h : 0 < k) : ((k : Int) - 1).toNat = k - 1 := by omega

set_option maxHeartbeats 1000000 in
set_option maxRecDepth 100000 in
/-- sortedCopyB1(xs). -/
theorem sortedCopy_any (B n cap : Nat) (a : Option Addr) (zs : List Int) (w : World) (hB : B ≤ w.heap.size) (hr : Rd B w a (vi zs)) (hn : zs.length = n) (hn1 : n ≤ 65536) :
    Calls Tryf.prog 7 #[.slice a n cap] w fun e w' => e = .returned (.slice (some ⟨w.heap.size, 0, .none⟩) n n) ∧ w'.heap[w.heap.size]? = some (.cells (vi (srt zs)).toArray 3 (0, 0)) ∧ Below w.heap.size w w' := by
  obtain ⟨i0, hi, hz0, hz1, hz2⟩ := info_parts info3
  have hby : i0.bytes * n ≤ 281474976710656 := by rw [hz2]; omega
  have hml : n ≤ maxLen := by unfold maxLen; omega
  have HN := hide hn
  clear hn
  go_enter Tryf.func7, Tryf.ntmps7
  go_wp2_with (first
    | (at_make; go_must (refine wpList_make_full _ rfl _ _ 22 rfl w.heap.size 3 i0 (.int .i64 0) 1 Tryf.underlying22 hi hz0 hz1 .i64 .i64 _ _ n rfl rfl rfl rfl hby hml (Nat.le_refl _) ?_); intro w2 hrow2 hg2; have hfull := vi_made HN.out hrow2; have hb2 : Below w.heap.size w w2 := (Below.refl _ w).grown hg2 (Nat.le_refl _) (fun j hj => by cases hj))
    | fail)
  have HR := hide hr
  clear hrow2 hg2 hr hby hml
  go_loopw [4] (fun i wr => ∃ k : Nat, k ≤ n ∧ i = .int .i64 k ∧ wr.heap[w.heap.size]? = some (.cells (vi (half zs k)).toArray 3 (0, 0)) ∧ Below w.heap.size w wr) (fun i _ => n - (intOf i).toNat)
  case atStart => exact ⟨0, Nat.zero_le _, rfl, hfull, hb2⟩
  case round =>
    obtain ⟨k, hk, rfl, hgk, hbk⟩ := hrel
    by_cases hlt : k < n
    · have hkz : k < zs.length := by rw [HN.out]; exact hlt
      rcases HR.out.below (hbk.mono hB) with h0 | ⟨b, off, rfl, hb, hc⟩
      · exfalso
        have e : zs = [] := by simpa using h0
        subst e
        simp at hkz
      · have hck := hc k (.int .i64 (zs[k]?.getD 0)) (by rw [List.getElem?_map, List.getElem?_eq_getElem hkz]; rfl)
        have hgc := vi_cell hgk (j := k) (by rw [half_length _ _ (Nat.le_of_lt hkz)]; exact hkz)
        have hgf := frozen_of_row wr w.heap.size k _ 3 hgk
        have hset := half_set hkz hgk
        have hlti : (k : Int) < n := Int.ofNat_lt.2 hlt
        have HSET := hide hset
        generalize (half zs k)[k]?.getD 0 = old at hgc
        clear hc hset
        generalize zs[k]?.getD 0 = x at hck HSET
        go_wp2_with fail
        go_roundw
        case rel => exact ⟨k + 1, hlt, by go_num, HSET.out, hbk.setCell (p := ⟨w.heap.size, k, .none⟩) (Nat.le_refl _) _⟩
        case measure => simp [intOf]; omega
    · obtain rfl : k = n := Nat.le_antisymm hk (Nat.le_of_not_lt hlt)
      have hgk' : wr.heap[w.heap.size]? = some (.cells (vi zs).toArray 3 (0, 0)) := by
        have := hgk
        rw [← HN.out, half_full] at this
        exact this
      clear hgk hfull hb2
      go_wp2_with fail
      go_loopw [5] (fun i ws => ∃ (m : Nat) (L : List Int), 1 ≤ m ∧ i = .int .i64 m ∧ ws.heap[w.heap.size]? = some (.cells (vi L).toArray 3 (0, 0)) ∧ L.Perm zs ∧ (L.take m).Pairwise (· ≤ ·) ∧ Below w.heap.size w ws) (fun i _ => k - (intOf i).toNat)
      case atStart => exact ⟨1, zs, Nat.le_refl _, rfl, hgk', List.Perm.refl _, take_one_sorted zs, hbk⟩
      case round =>
        obtain ⟨m, L, hm1, rfl, hgL, hperm, hup, hbL⟩ := hrel
        have HPM := hide hperm
        have HUP := hide hup
        have hLn : L.length = k := by rw [HPM.out.length_eq]; exact HN.out
        have HLN := hide hLn
        clear hperm hup hgk' hLn hbk
        by_cases hlt2 : m < k
        · have hmi : (m : Int) < k := Int.ofNat_lt.2 hlt2
          have hmL : m < L.length := by rw [HLN.out]; exact hlt2
          have hcm := vi_cell hgL hmL
          have hSt := Shift.start hmL HUP.out
          obtain ⟨x, hx⟩ : ∃ x, L[m]?.getD 0 = x := ⟨_, rfl⟩
          rw [hx] at hcm hSt
          have hgS := hSt.mem hgL
          have HST := hide hSt
          have hj0 : ((m : Int) - 1) + 1 = ((L.take m).length : Int) := by rw [List.length_take, Nat.min_eq_left (Nat.le_of_lt hmL)]; omega
          have HJ0 := hide hj0
          clear hx hSt hgL hj0
          go_wp2_with fail
          go_loopw [7] (fun j wq => ∃ (A : List Int) (y : Int) (Bm : List Int) (jz : Int), Shift L m x A y Bm (L.drop (m + 1)) ∧ j = .int .i64 jz ∧ jz + 1 = (A.length : Int) ∧ wq.heap[w.heap.size]? = some (.cells (vi (A ++ y :: Bm ++ L.drop (m + 1))).toArray 3 (0, 0)) ∧ Below w.heap.size w wq) (fun j _ => (intOf j + 1).toNat)
          case atStart => exact ⟨L.take m, x, [], _, HST.out, rfl, HJ0.out, hgS, hbL⟩
          case round =>
            obtain ⟨A, y, Bm, jz, hSh, rfl, hjz, hgj, hbj⟩ := hrel
            have HSH := hide hSh
            have HGJ := hide hgj
            have hAk := hSh.lt HLN.out
            clear hSh hgS hbL
            rcases nil_or_snoc A with rfl | ⟨A', a', rfl⟩
            · obtain rfl : jz = -1 := neg_of hjz
              obtain ⟨old, hold⟩ := vi_some hgj 0 (by simp)
              have hfr := frozen_of_row wr w.heap.size 0 _ 3 hgj
              have hset := vi_set (x := x) (k := 0) hgj rfl
              have HSET := hide hset
              clear hgj hset hjz hcm
              have hk0 : 0 < k := Nat.lt_of_le_of_lt (Nat.zero_le _) hlt2
              obtain ⟨hd1, hd2⟩ := HSH.out.done (by simp)
              have HD1 := hide hd1
              have HD2 := hide hd2
              clear hd1 hd2
              go_wp2_with fail
              go_roundw
              case rel => exact ⟨m + 1, _, Nat.succ_pos _, by go_num, HSET.out, HD1.out.trans HPM.out, HD2.out, hbj.setCell (p := ⟨w.heap.size, 0, .none⟩) (Nat.le_refl _) _⟩
              case measure => simp [intOf]; omega
            · obtain ⟨p, hp⟩ : ∃ p, A'.length = p := ⟨_, rfl⟩
              obtain rfl : jz = (p : Int) := pos_of hjz hp
              have hpk : p + 1 < k := by simpa [hp] using hAk
              have hcp := vi_at hgj hp
              obtain ⟨old, hold⟩ := vi_some hgj (p + 1) (by simp; omega)
              have hfr := frozen_of_row wr w.heap.size (p + 1) _ 3 hgj
              have hpi : (p : Int) < k := by omega
              have hpi1 : (p : Int) + 1 < k := by omega
              have HP := hide hp
              clear hgj hcm hjz hp hAk
              by_cases hax : x < a'
              · have hset := vi_set (x := a') (k := p + 1) HGJ.out (by simp [HP.out])
                have HSET := hide (vi_shape hset)
                have HSS := hide (HSH.out.step hax)
                clear hset
                go_wp2_with fail
                go_roundw
                case rel => exact ⟨A', a', a' :: Bm, (p : Int) - 1, HSS.out, by go_num, by rw [HP.out]; omega, HSET.out, hbj.setCell (p := ⟨w.heap.size, p + 1, .none⟩) (Nat.le_refl _) _⟩
                case measure => simp [intOf]
              · have hset := vi_set (x := x) (k := p + 1) HGJ.out (by simp [HP.out])
                have HSET := hide hset
                obtain ⟨hd1, hd2⟩ := HSH.out.done (by simp; omega)
                have HD1 := hide hd1
                have HD2 := hide hd2
                clear hset hd1 hd2
                go_wp2_with fail
                go_roundw
                case rel => exact ⟨m + 1, _, Nat.succ_pos _, by go_num, HSET.out, HD1.out.trans HPM.out, HD2.out, hbj.setCell (p := ⟨w.heap.size, p + 1, .none⟩) (Nat.le_refl _) _⟩
                case measure => simp [intOf]; omega
        · go_wp2_with fail
          go_ret
          have e : L.take m = L := List.take_of_length_le (by rw [HLN.out]; exact Nat.le_of_not_lt hlt2)
          have hL := srt_unique HPM.out (by have := HUP.out; rwa [e] at this)
          exact ⟨rfl, by rw [← hL]; exact hgL, hbL⟩
end Go.Proofs.Qxb6613881aFmt
