/-
  numalign: FnHintSetsResourceForgets: the law's own walk.
-/
import Derived.Test.Qxb6613881aFmtPlain
namespace Go.Proofs.Qxb6613881aFmt
open Go.RowKit
set_option linter.unusedVariables false

/-- What comes in. -/
structure Inp (w : World) (a : Option Addr) (n : Nat) (zs : List Int) (ha : Option Addr) (NA : Nat) (hA : List (List Int)) (pa : Option Addr) (PA : Nat) (psA : List Bool) (hb : Option Addr) (NB : Nat) (hB : List (List Int)) (pb : Option Addr) (PB : Nat) (psB : List Bool) : Prop where
  rd : Rd w.heap.size w a (vi zs)
  len : zs.length = n
  none : a = none → n = 0
  rA : Rows0 w.heap.size w ha NA hA
  rB : Rows0 w.heap.size w hb NB hB
  pA : Rd w.heap.size w pa (psA.map Value.bool)
  lA : psA.length = PA
  pB : Rd w.heap.size w pb (psB.map Value.bool)
  lB : psB.length = PB
  m1 : n ≤ 9223372036854775807
  m2 : NA ≤ 9223372036854775807
  m3 : PA ≤ 9223372036854775807
  m4 : NB ≤ 9223372036854775807
  m5 : PB ≤ 9223372036854775807
theorem below_drewN' {B : Nat} {w w' : World} (h : Below B w w') (m : Nat) : Below B w (w'.drewN m) := ⟨h.os, h.tape, h.output, h.size, h.block⟩
theorem splice_whole (n : Nat) (zs : List Int) (hn : zs.length = n) : splice (List.replicate n (Value.int .i64 0)) 0 (vi zs) = vi zs := splice_all _ _ (by simp [hn])
theorem vi_own {w : World} {g n : Nat} {L : List Int} (h : w.heap[g]? = some (.cells (vi L).toArray 3 (0, 0))) (hn : L.length = n) : ∀ j, j < n → w.cell? ⟨g, j, .none⟩ = some (.int .i64 (L[j]?.getD 0)) := fun j hj => vi_cell h (by omega)
theorem rd_of {w : World} {g B n : Nat} {L : List Int} (h : w.heap[g]? = some (.cells (vi L).toArray 3 (0, 0))) (hB : g < B) : Rd B w (some ⟨g, 0, .none⟩) (vi L) := .inr ⟨g, 0, rfl, hB, fun j v hj => by
  rw [cell_of_row _ _ _ _ _ (0, 0) h, Nat.zero_add, List.getElem?_toArray]; exact hj⟩
theorem nodes_of {zs ns : List Int} {n : Nat} (hns : srt zs = ns) (hn : zs.length = n) (h4 : n ≤ 4096) (hg : Good ns) : Nodes ns n := by
  have hl : ns.length = n := by rw [← hns, srt_length]; exact hn
  refine ⟨hl, ?_, by omega, hg.2.1, hg.2.2⟩
  rcases Nat.eq_zero_or_pos n with h | h
  · exact absurd (List.eq_nil_of_length_eq_zero (by omega)) hg.1
  · exact h
theorem cells_zero {w : World} {g : Nat} {zs : List Int} (h : Blk w g (vi zs).toArray 3) : ∀ j, j < zs.length → w.cell? ⟨g, 0 + j, .none⟩ = some (.int .i64 (zs[j]?.getD 0)) := fun j hj => by rw [Nat.zero_add]; exact vi_cell h hj
theorem end_facts {ns : List Int} {sl N : Nat} {hl : List (List Int)} {ps : List Bool} {er : Value} (h : ErrIs (runR ns sl ([], false) (withPref hl ps)).2 er) (hN : hl.length = N) :
    (okAll ns hl = true ∧ er = .nilIface ∧ (ByteArray.mk (runR ns sl ([], false) (withPref hl ps)).1.toArray).size = N * (sl + 1)) ∨ (okAll ns hl = false ∧ ∃ t p, er = .iface t p) := by
  rw [runR_ok, okL_with] at h
  cases hok : okAll ns hl with
  | true =>
    rw [hok] at h
    refine .inl ⟨rfl, h, ?_⟩
    have := runR_len ns sl (withPref hl ps) [] (by rw [okL_with]; exact hok)
    simp only [ByteArray.size, List.size_toArray]
    rw [this, withPref_length, hN]
    simp
  | false =>
    rw [hok] at h
    exact .inr ⟨rfl, h⟩
theorem three_cases {okA okB : Bool} {e1 e2 e3 : Value} {P Q : Prop} (h1 : (okA = true ∧ e1 = .nilIface ∧ P) ∨ (okA = false ∧ ∃ t p, e1 = .iface t p)) (h2 : (okB = true ∧ e2 = .nilIface ∧ Q) ∨ (okB = false ∧ ∃ t p, e2 = .iface t p)) (h3 : (okB = true ∧ e3 = .nilIface ∧ Q) ∨ (okB = false ∧ ∃ t p, e3 = .iface t p)) :
    (okA = true ∧ okB = true ∧ e1 = .nilIface ∧ e2 = .nilIface ∧ e3 = .nilIface ∧ P ∧ Q) ∨ (okA = true ∧ okB = false ∧ e1 = .nilIface ∧ P ∧ (∃ t p, e2 = .iface t p) ∧ (∃ t p, e3 = .iface t p)) ∨
    (okA = false ∧ okB = true ∧ (∃ t p, e1 = .iface t p) ∧ e2 = .nilIface ∧ e3 = .nilIface ∧ Q) ∨ (okA = false ∧ okB = false ∧ (∃ t p, e1 = .iface t p) ∧ (∃ t p, e2 = .iface t p) ∧ (∃ t p, e3 = .iface t p)) := by
  rcases h1 with ⟨a1, a2, a3⟩ | ⟨a1, a2⟩ <;> rcases h2 with ⟨b1, b2, b3⟩ | ⟨b1, b2⟩ <;> rcases h3 with ⟨c1, c2, c3⟩ | ⟨c1, c2⟩
  · exact .inl ⟨a1, b1, a2, b2, c2, a3, b3⟩
  · rw [b1] at c1; cases c1
  · rw [b1] at c1; cases c1
  · exact .inr (.inl ⟨a1, b1, a2, a3, b2, c2⟩)
  · exact .inr (.inr (.inl ⟨a1, b1, a2, b2, c2, b3⟩))
  · rw [b1] at c1; cases c1
  · rw [b1] at c1; cases c1
  · exact .inr (.inr (.inr ⟨a1, b1, a2, b2, c2⟩))
theorem bne_same (z : Int) : (z != z) = false := by simp
theorem prod_cast (N n : Nat) : (N : Int) * (((n : Int) + 7) / 8 + 1) = ((N * ((n + 7) / 8 + 1) : Nat) : Int) := by push_cast; rfl
theorem prod_wrap {N n : Nat} (h1 : N ≤ 131072) (h3 : n ≤ 4096) : wrap64 ((N : Int) * (((n : Int) + 7) / 8 + 1)) = ((N * ((n + 7) / 8 + 1) : Nat) : Int) := by
  have h : N * ((n + 7) / 8 + 1) ≤ 131072 * 513 := Nat.mul_le_mul h1 (by omega)
  rw [prod_cast]
  generalize N * ((n + 7) / 8 + 1) = q at h ⊢
  unfold wrap64
  omega
/-- A Resource of no name that offers the sets at M. -/
abbrev rObj (M : Nat) : Obj := .cells #[.string ⟨#[]⟩, .bool false, .slice none 0 0, .pointer (some ⟨M, 0, .none⟩)] 38
/-- All that the checks at the end read. -/
structure Fin (w wk : World) (r1 r2 r3 M1 M2 M3 So g1 g2 g3 n c1 c2 c3 : Nat) (ns : List Int) (s1 s2 s3 : ByteArray) (a1 a2 a3 : Int) (e1 e2 e3 : Value) : Prop where
  low : Below w.heap.size w wk
  so : Blk wk So (vi ns).toArray 3
  b1 : Blk wk r1 #[.string ⟨#[]⟩, .bool false, .slice none 0 0, .pointer (some ⟨M1, 0, .none⟩)] 38
  b2 : Blk wk r2 #[.string ⟨#[]⟩, .bool false, .slice none 0 0, .pointer (some ⟨M2, 0, .none⟩)] 38
  b3 : Blk wk r3 #[.string ⟨#[]⟩, .bool false, .slice none 0 0, .pointer (some ⟨M3, 0, .none⟩)] 38
  m1 : Blk wk M1 #[.slice (some ⟨g1, 0, .none⟩) n c1, .string s1, .int .i64 a1, e1] 59
  m2 : Blk wk M2 #[.slice (some ⟨g2, 0, .none⟩) n c2, .string s2, .int .i64 a2, e2] 59
  m3 : Blk wk M3 #[.slice (some ⟨g3, 0, .none⟩) n c3, .string s3, .int .i64 a3, e3] 59
  i1 : ∃ rest : List Value, Blk wk g1 (vi ns ++ rest).toArray 3
  i2 : ∃ rest : List Value, Blk wk g2 (vi ns ++ rest).toArray 3
  i3 : ∃ rest : List Value, Blk wk g3 (vi ns ++ rest).toArray 3
theorem Fin.below {w wk wl : World} {r1 r2 r3 M1 M2 M3 So g1 g2 g3 n c1 c2 c3 : Nat} {ns : List Int} {s1 s2 s3 : ByteArray} {a1 a2 a3 : Int} {e1 e2 e3 : Value} (h : Fin w wk r1 r2 r3 M1 M2 M3 So g1 g2 g3 n c1 c2 c3 ns s1 s2 s3 a1 a2 a3 e1 e2 e3) (hb : Below wk.heap.size wk wl) : Fin w wl r1 r2 r3 M1 M2 M3 So g1 g2 g3 n c1 c2 c3 ns s1 s2 s3 a1 a2 a3 e1 e2 e3 := by
  have q := Nat.le_refl wk.heap.size
  obtain ⟨x1, y1⟩ := h.i1
  obtain ⟨x2, y2⟩ := h.i2
  obtain ⟨x3, y3⟩ := h.i3
  exact ⟨h.low.trans (hb.mono h.low.size), h.so.below hb q, h.b1.below hb q, h.b2.below hb q, h.b3.below hb q, h.m1.below hb q, h.m2.below hb q, h.m3.below hb q, ⟨x1, y1.below hb q⟩, ⟨x2, y2.below hb q⟩, ⟨x3, y3.below hb q⟩⟩
theorem fin_start {w wk : World} {r1 r2 M1 M2 M3 So g1 g2 g3 n c1 c2 c3 : Nat} {ns : List Int} {s1 s2 s3 : ByteArray} {a1 a2 a3 : Int} {e1 e2 e3 : Value} (low : Below w.heap.size w wk) (so : Blk wk So (vi ns).toArray 3)
    (b1 : Blk wk r1 #[.string ⟨#[]⟩, .bool false, .slice none 0 0, .pointer (some ⟨M1, 0, .none⟩)] 38) (b2 : Blk wk r2 #[.string ⟨#[]⟩, .bool false, .slice none 0 0, .pointer (some ⟨M2, 0, .none⟩)] 38)
    (m1 : Blk wk M1 #[.slice (some ⟨g1, 0, .none⟩) n c1, .string s1, .int .i64 a1, e1] 59) (m2 : Blk wk M2 #[.slice (some ⟨g2, 0, .none⟩) n c2, .string s2, .int .i64 a2, e2] 59) (m3 : Blk wk M3 #[.slice (some ⟨g3, 0, .none⟩) n c3, .string s3, .int .i64 a3, e3] 59)
    (i1 : ∃ rest : List Value, Blk wk g1 (vi ns ++ rest).toArray 3) (i2 : ∃ rest : List Value, Blk wk g2 (vi ns ++ rest).toArray 3) (i3 : ∃ rest : List Value, Blk wk g3 (vi ns ++ rest).toArray 3) :
    Fin w (wk.alloc (rObj M3)) r1 r2 wk.heap.size M1 M2 M3 So g1 g2 g3 n c1 c2 c3 ns s1 s2 s3 a1 a2 a3 e1 e2 e3 := by
  obtain ⟨x1, y1⟩ := i1
  obtain ⟨x2, y2⟩ := i2
  obtain ⟨x3, y3⟩ := i3
  exact ⟨low.alloc low.size _, so.alloc _, b1.alloc _, b2.alloc _, heap_alloc_new wk _, m1.alloc _, m2.alloc _, m3.alloc _, ⟨x1, y1.alloc _⟩, ⟨x2, y2.alloc _⟩, ⟨x3, y3.alloc _⟩⟩
theorem r_alloc (w : World) (M : Nat) : Blk (w.alloc (.cells #[.string ⟨#[]⟩, .bool false, .slice none 0 0, .pointer (some ⟨M, 0, .none⟩)] 38)) w.heap.size #[.string ⟨#[]⟩, .bool false, .slice none 0 0, .pointer (some ⟨M, 0, .none⟩)] 38 := heap_alloc_new w _
theorem bytes_n {n : Nat} {i0 : TypeInfo} (h : i0.bytes = 8) (hn : n ≤ 4096) : i0.bytes * n ≤ 281474976710656 := by rw [h]; omega
theorem max_n {n : Nat} (hn : n ≤ 4096) : n ≤ maxLen := by unfold maxLen; omega
theorem sl_n {n : Nat} : (n + 7) / 8 = (n + 7) / 8 := rfl
theorem n_small {n : Nat} (h : n ≤ 4096) : n ≤ 65536 := by omega
theorem N_small {n : Nat} (h : n ≤ 131072) : n ≤ 1048576 := by omega
theorem N_add {n : Nat} (h : n ≤ 131072) : 0 + n ≤ 1048576 := by omega
theorem N_rec {NA NB s : Nat} (h : (NA + NB) * (s + 1) ≤ 4194304) : ([] : List UInt8).length + NA * (s + 1) ≤ 100000000 ∧ ([] : List UInt8).length + NB * (s + 1) ≤ 100000000 := by
  rw [Nat.add_mul] at h
  simp only [List.length_nil]
  omega

set_option maxHeartbeats 4000000 in
set_option maxRecDepth 100000 in
theorem walk3 (x : Addr) (n c NA ca PA pca NB cb PB pcb : Nat) (ha pa hb pb : Option Addr) (zs : List Int) (hA hB : List (List Int)) (psA psB : List Bool) (w : World)
    (hin : Inp w (some x) n zs ha NA hA pa PA psA hb NB hB pb PB psB) :
    Calls Tryf.prog 3 #[.slice (some x) n c, .slice ha NA ca, .slice pa PA pca, .slice hb NB cb, .slice pb PB pcb] w fun e w' => e = .returned (.bool true) ∧ Below w.heap.size w w' := by
  obtain ⟨i0, hi, hz0, hz1, hz2⟩ := info_parts info3
  have HIN := hide hin
  clear hin
  go_enter Tryf.func3, Tryf.ntmps3
  go_wp2_with fail
  refine (zz5_any w.heap.size n c NA ca PA pca NB cb PB pcb _ ha pa hb pb hA hB w HIN.out.rA HIN.out.rB HIN.out.m1 HIN.out.m2 HIN.out.m3 HIN.out.m4 HIN.out.m5).mono ?_
  rintro e w' ⟨rfl | rfl, rfl⟩
  rotate_left
  · go_wp2_with fail
    go_ret
    exact ⟨rfl, Below.refl _ _⟩
  go_wp2_with fail
  refine (over_any w.heap.size n c NA ca PA pca NB cb PB pcb _ ha pa hb pb hA hB w HIN.out.rA HIN.out.rB HIN.out.m1 HIN.out.m2 HIN.out.m3 HIN.out.m4 HIN.out.m5).mono ?_
  rintro e w' ⟨rfl, rfl | ⟨rfl, hn4, hA1, hB1, hAl, hBl, hprod⟩⟩
  · go_wp2_with fail
    go_ret
    exact ⟨rfl, Below.refl _ _⟩
  have HRA := hide (HIN.out.rA.small hAl)
  have HRB := hide (HIN.out.rB.small hBl)
  have HPROD := hide hprod
  have hby := bytes_n hz2 hn4
  have hml := max_n hn4
  have hmin : (vi zs).length = Nat.min n n := by rw [List.length_map, HIN.out.len]; exact (Nat.min_self n).symm
  have hfit : 0 + (vi zs).length ≤ (List.replicate n (Value.int .i64 0)).length := by rw [List.length_map, HIN.out.len, List.length_replicate, Nat.zero_add]; exact Nat.le_refl _
  have hone : ∀ v ∈ vi zs, v.oneCell' = true := ints_oneCell .i64 zs
  clear hAl hBl hprod
  go_wp2_with (first
    | (at_make; go_must (refine wpList_make_full _ rfl _ _ 22 rfl w.heap.size 3 i0 (.int .i64 0) 1 Tryf.underlying22 hi hz0 hz1 .i64 .i64 _ _ n rfl rfl rfl rfl hby hml (Nat.le_refl _) ?_); intro w2 hrow2 hg2; have hfull := made_full hrow2; have hb2 : Below w.heap.size w w2 := (Below.refl _ w).grown hg2 (Nat.le_refl _) (fun j hj => by cases hj))
    | (show wpList _ _ _ ({ dst := _, op := .call { callee := .builtin .copy, args := _, argTypes := _ }, type := _, pos := _, after := _, guard := _ } :: _) _ _; go_must (refine wpList_copy_splice rfl _ _ 22 22 rfl 3 Tryf.underlying22 size3 _ _ _ _ _ _ rfl rfl w.heap.size 0 (List.replicate n (Value.int .i64 0)) 3 hfull (vi zs) hmin (HIN.out.rd.src hb2) hfit hone w.heap.size w hb2 (Nat.le_refl _) ?_); intro w3 HG3 hb3)
    | fail)
  have hz3 : w3.heap[w.heap.size]? = some (.cells (vi zs).toArray 3 (0, 0)) := by rw [← splice_whole n zs HIN.out.len]; exact HG3.out
  have HB3 := hide hb3
  have HZ3 := hide hz3
  have hlt3 : w.heap.size < w3.heap.size := heap_lt hz3
  clear hby hml hmin hfit hone hrow2 hg2 hfull hb2 HG3 hz3 hb3
  refine (sortedCopy_any w3.heap.size n n _ zs w3 (Nat.le_refl _) (rd_of (n := n) HZ3.out hlt3) HIN.out.len (n_small hn4)).mono ?_
  rintro e w4 ⟨rfl, hs4, hb4⟩
  have HS4 := hide hs4
  have HB4 := hide hb4
  clear hs4 hb4
  obtain ⟨ns, hns⟩ : ∃ ns, srt zs = ns := ⟨_, rfl⟩
  rw [hns] at HS4
  have HNS := hide hns
  have hnl : ns.length = n := by rw [← hns, srt_length]; exact HIN.out.len
  have HNL := hide hnl
  have hsrt : ns.Pairwise (· ≤ ·) := by rw [← hns]; exact srt_sorted zs
  have HSRT := hide hsrt
  clear hns hnl hsrt
  go_wp2_with fail
  refine (valid_any w3.heap.size n n ns w4 (vi_own HS4.out HNL.out) HNL.out HSRT.out (n_small hn4)).mono ?_
  rintro e w' ⟨⟨md, rfl⟩, ⟨rfl, hgood⟩ | rfl⟩
  rotate_left
  · go_wp2_with fail
    go_ret
    exact ⟨rfl, below_drewN' (HB3.out.trans (HB4.out.mono (Nat.le_of_lt hlt3))) _⟩
  have HN := hide (nodes_of HNS.out HIN.out.len hn4 hgood)
  have HB5 : Hid (Below w.heap.size w (w4.drewN md)) := below_drewN' (HB3.out.trans (HB4.out.mono (Nat.le_of_lt hlt3))) _
  have HZ5 : Hid (Blk (w4.drewN md) w.heap.size (vi zs).toArray 3) := (HB4.out.block _ hlt3).trans HZ3.out
  have HS5 : Hid (Blk (w4.drewN md) w3.heap.size (vi ns).toArray 3) := HS4.out
  generalize w4.drewN md = w5 at HB5 HZ5 HS5 ⊢
  clear HB3 HZ3 HS4 HB4 hgood
  go_wp2_with fail
  refine (hintsKnown_any w.heap.size NA ca w3.heap.size n n ha hA ns w5 HN.out (vi_own HS5.out HNL.out) (HRA.out.below HB5.out) (N_small hA1)).mono ?_
  rintro e w' ⟨rfl, rfl⟩
  go_wp2_with fail
  refine (hintsKnown_any w.heap.size NB cb w3.heap.size n n hb hB ns w5 HN.out (vi_own HS5.out HNL.out) (HRB.out.below HB5.out) (N_small hB1)).mono ?_
  rintro e w' ⟨rfl, rfl⟩
  go_wp2_with fail
  refine (newHintSets_any w.heap.size 0 n n zs ns w5 HNS.out HIN.out.len HN.out (heap_lt HZ5.out) (cells_zero HZ5.out)).mono ?_
  rintro e w6 ⟨H, g, c2, T, S, rfl, hS, hs6, hH6, hg6, hT6, hb6⟩
  have HB6 := hide (HB5.out.trans (hb6.mono HB5.out.size))
  have HZ6 := hide (HZ5.out.below hb6 (Nat.le_refl _))
  have HS6 := hide (HS5.out.below hb6 (Nat.le_refl _))
  have hBH : w.heap.size ≤ H := Nat.le_trans HB5.out.size hH6
  have HHS6 := hide hs6
  clear HB5 HZ5 HS5 hs6 hb6 hH6 hg6 hT6
  go_wp2_with fail
  refine (addAll_any w.heap.size H g T n S c2 ((n + 7) / 8) NA ca PA pca ns ha pa hA psA (.slice none 0 0) [] false .nilIface 0 w6 HN.out hS rfl HHS6.out rfl (N_add hA1) (N_rec HPROD.out).1 hBH (fun k hk => by cases hk) HB6.out.size (HRA.out.below HB6.out) HIN.out.lA (HIN.out.pA.below HB6.out)).mono ?_
  rintro e w7 ⟨rfl, rv7, er7, hs7, he7, ht7⟩
  have HB7 := hide (HB6.out.trans (ht7.below hBH (fun k hk => by cases hk) HB6.out.size))
  have HZ7 := hide (HZ6.out.turn ht7 HHS6.out (by decide) (by decide))
  have HS7 := hide (HS6.out.turn ht7 HHS6.out (by decide) (by decide))
  have HR7 := hide (ht7.rest (fun k hk => by cases hk) HB6.out.size)
  have HHS7 := hide hs7
  have HE7 := hide he7
  clear HB6 HZ6 HS6 HHS6 hs7 he7 ht7
  go_wp2_with fail
  refine (resource_any H g T n S c2 ns rv7 _ er7 _ w7 HHS7.out _ HE7.out).mono ?_
  rintro e w8 ⟨M1, rv8, rfl, hM1, hm8, hs8, ht8⟩
  have HB8 := hide (HB7.out.trans (ht8.below hBH HR7.out HB7.out.size))
  have HZ8 := hide (HZ7.out.turn ht8 HHS7.out (by decide) (by decide))
  have HS8 := hide (HS7.out.turn ht8 HHS7.out (by decide) (by decide))
  have HR8 := hide (ht8.rest HR7.out HB7.out.size)
  have HM8 : Hid (Blk w8 M1 _ 59) := hm8
  have HHS8 := hide hs8
  clear HB7 HZ7 HS7 HHS7 HR7 hs8 ht8 hm8 hM1
  have HRR9 := hide (r_alloc w8 M1)
  have HB9 := hide (HB8.out.alloc HB8.out.size (rObj M1))
  have HZ9 := hide (HZ8.out.alloc (rObj M1))
  have HS9 := hide (HS8.out.alloc (rObj M1))
  have HM9 := hide (HM8.out.alloc (rObj M1))
  have HHS9 := hide (HHS8.out.alloc (rObj M1))
  clear HB8 HZ8 HS8 HM8 HHS8
  go_wp2_with fail
  refine (addAll_any w.heap.size H g T n S c2 ((n + 7) / 8) NB cb PB pcb ns hb pb hB psB rv8 [] false .nilIface 0 (w8.alloc (rObj M1)) HN.out hS rfl HHS9.out rfl (N_add hB1) (N_rec HPROD.out).2 hBH HR8.out HB9.out.size (HRB.out.below HB9.out) HIN.out.lB (HIN.out.pB.below HB9.out)).mono ?_
  rintro e w10 ⟨rfl, rv10, er10, hs10, he10, ht10⟩
  have HB10 := hide (HB9.out.trans (ht10.below hBH HR8.out HB9.out.size))
  have HZ10 := hide (HZ9.out.turn ht10 HHS9.out (by decide) (by decide))
  have HS10 := hide (HS9.out.turn ht10 HHS9.out (by decide) (by decide))
  have HRR10 := hide (HRR9.out.turn ht10 HHS9.out (by decide) (by decide))
  have HM10 := hide (HM9.out.turn ht10 HHS9.out (by decide) (by decide))
  have HR10 := hide (ht10.rest HR8.out HB9.out.size)
  have HHS10 := hide hs10
  have HE10 := hide he10
  clear HB9 HZ9 HS9 HM9 HRR9 HHS9 HR8 hs10 he10 ht10
  go_wp2_with fail
  refine (resource_any H g T n S c2 ns rv10 _ er10 _ w10 HHS10.out _ HE10.out).mono ?_
  rintro e w11 ⟨M2, rv11, rfl, hM2, hm11, hs11, ht11⟩
  obtain ⟨rest1, hg11⟩ := Blk.own hs11.ids
  have HB12 := hide ((HB10.out.trans (ht11.below hBH HR10.out HB10.out.size)).alloc (Nat.le_trans HB10.out.size ht11.size) (rObj M2))
  have HZ12 := hide ((HZ10.out.turn ht11 HHS10.out (by decide) (by decide)).alloc (rObj M2))
  have HS12 := hide ((HS10.out.turn ht11 HHS10.out (by decide) (by decide)).alloc (rObj M2))
  have HRR12 := hide ((HRR10.out.turn ht11 HHS10.out (by decide) (by decide)).alloc (rObj M2))
  have HM12 := hide ((HM10.out.turn ht11 HHS10.out (by decide) (by decide)).alloc (rObj M2))
  have HN12 := hide (Blk.alloc (k := M2) (t := 59) hm11 (rObj M2))
  have HG12 := hide (hg11.alloc (rObj M2))
  have HRS12 := hide (r_alloc w11 M2)
  clear HB10 HZ10 HS10 HRR10 HM10 HR10 HHS10 hm11 hs11 ht11 hM2 hg11
  go_wp2_with fail
  refine (newHintSets_any w.heap.size 0 n n zs ns (w11.alloc (rObj M2)) HNS.out HIN.out.len HN.out (heap_lt HZ12.out) (cells_zero HZ12.out)).mono ?_
  rintro e w13 ⟨H', g', c3, T', S', rfl, hS', hs13, hH13, _, _, hb13⟩
  have HB13 := hide (HB12.out.trans (hb13.mono HB12.out.size))
  have HZ13 := hide (HZ12.out.below hb13 (Nat.le_refl _))
  have HS13 := hide (HS12.out.below hb13 (Nat.le_refl _))
  have HRR13 := hide (HRR12.out.below hb13 (Nat.le_refl _))
  have HM13 := hide (HM12.out.below hb13 (Nat.le_refl _))
  have HN13 := hide (HN12.out.below hb13 (Nat.le_refl _))
  have HG13 := hide (HG12.out.below hb13 (Nat.le_refl _))
  have HRS13 := hide (HRS12.out.below hb13 (Nat.le_refl _))
  have hBH' : w.heap.size ≤ H' := Nat.le_trans HB12.out.size hH13
  have HHS13 := hide hs13
  clear HB12 HZ12 HS12 HRR12 HM12 HN12 HG12 HRS12 hs13 hb13 hH13
  go_wp2_with fail
  refine (addAll_any w.heap.size H' g' T' n S' c3 ((n + 7) / 8) NB cb PB pcb ns hb pb hB psB (.slice none 0 0) [] false .nilIface 0 w13 HN.out hS' rfl HHS13.out rfl (N_add hB1) (N_rec HPROD.out).2 hBH' (fun k hk => by cases hk) HB13.out.size (HRB.out.below HB13.out) HIN.out.lB (HIN.out.pB.below HB13.out)).mono ?_
  rintro e w14 ⟨rfl, rv14, er14, hs14, he14, ht14⟩
  have HB14 := hide (HB13.out.trans (ht14.below hBH' (fun k hk => by cases hk) HB13.out.size))
  have HS14 := hide (HS13.out.turn ht14 HHS13.out (by decide) (by decide))
  have HRR14 := hide (HRR13.out.turn ht14 HHS13.out (by decide) (by decide))
  have HM14 := hide (HM13.out.turn ht14 HHS13.out (by decide) (by decide))
  have HN14 := hide (HN13.out.turn ht14 HHS13.out (by decide) (by decide))
  have HG14 := hide (HG13.out.turn ht14 HHS13.out (by decide) (by decide))
  have HRS14 := hide (HRS13.out.turn ht14 HHS13.out (by decide) (by decide))
  have HR14 := hide (ht14.rest (fun k hk => by cases hk) HB13.out.size)
  have HHS14 := hide hs14
  have HE14 := hide he14
  clear HB13 HZ13 HS13 HRR13 HM13 HN13 HG13 HRS13 HHS13 hs14 he14 ht14
  go_wp2_with fail
  refine (resource_any H' g' T' n S' c3 ns rv14 _ er14 _ w14 HHS14.out _ HE14.out).mono ?_
  rintro e w15 ⟨M3, rv15, rfl, hM3, hm15, hs15, ht15⟩
  obtain ⟨rest3, hg15⟩ := Blk.own hs15.ids
  have HF := fin_start (w := w) (wk := w15) (r1 := w8.heap.size) (r2 := w11.heap.size) (M3 := M3) (HB14.out.trans (ht15.below hBH' HR14.out HB14.out.size)) (HS14.out.turn ht15 HHS14.out (by decide) (by decide)) (HRR14.out.turn ht15 HHS14.out (by decide) (by decide)) (HRS14.out.turn ht15 HHS14.out (by decide) (by decide)) (HM14.out.turn ht15 HHS14.out (by decide) (by decide)) (HN14.out.turn ht15 HHS14.out (by decide) (by decide)) hm15 ⟨_, HG14.out.turn ht15 HHS14.out (by decide) (by decide)⟩ ⟨_, HG14.out.turn ht15 HHS14.out (by decide) (by decide)⟩ ⟨_, hg15⟩
  have HFF := hide HF
  clear HF HB14 HS14 HRR14 HM14 HN14 HG14 HRS14 HR14 HHS14 hs15 ht15 hm15 hM3 hg15
  have HEA := hide (end_facts HE7.out HRA.out.1)
  have HEB := hide (end_facts HE10.out HRB.out.1)
  have HEC := hide (end_facts HE14.out HRB.out.1)
  clear HE7 HE10 HE14
  go_upto_region 27 with fail
  generalize w15.alloc (rObj M3) = w16 at HFF ⊢
  generalize (ByteArray.mk (runR ns ((n + 7) / 8) ([], false) (withPref hA psA)).1.toArray) = s1 at HFF HEA
  generalize (ByteArray.mk (runR ns ((n + 7) / 8) ([], false) (withPref hB psB)).1.toArray) = s2 at HFF HEB HEC
  generalize okAll ns hA = okA at HEA ⊢
  generalize okAll ns hB = okB at HEB HEC ⊢
  rw [Nat.zero_add, Nat.zero_add] at HFF
  have hqA : ((NA : Int) != (NA : Int)) = false := by simp
  have hqB : ((NB : Int) != (NB : Int)) = false := by simp
  rcases three_cases HEA.out HEB.out HEC.out with ⟨rfl, rfl, rfl, rfl, rfl, l1, l2⟩ | ⟨rfl, rfl, rfl, l1, ⟨t2, p2, rfl⟩, ⟨t3, p3, rfl⟩⟩ | ⟨rfl, rfl, ⟨t1, p1, rfl⟩, rfl, rfl, l2⟩ | ⟨rfl, rfl, ⟨t1, p1, rfl⟩, ⟨t2, p2, rfl⟩, ⟨t3, p3, rfl⟩⟩
  all_goals (
    have pA := prod_wrap (N := NA) hA1 hn4
    have pB := prod_wrap (N := NB) hB1 hn4
    have rA := prod_cast NA n
    have rB := prod_cast NB n
    try rw [← l1] at pA rA
    try rw [← l2] at pB rB
    try clear l1
    try clear l2
    rw [rA] at pA
    rw [rB] at pB
    have z1 : ((s1.size : Int) != (s1.size : Int)) = false := bne_same _
    have z2 : ((s2.size : Int) != (s2.size : Int)) = false := bne_same _
    have F16 := HFF.out
    obtain ⟨q0, q1, q2, q3⟩ := F16.b1.four
    go_wp2_with fail
    refine (plain_any M1 w16).mono ?_
    rintro e w17 ⟨rfl, hb17⟩
    have F17 := F16.below hb17
    clear q0 q1 q2 q3 F16 hb17
    obtain ⟨q0, q1, q2, q3⟩ := F17.b2.four
    go_wp2_with fail
    refine (plain_any M2 w17).mono ?_
    rintro e w18 ⟨rfl, hb18⟩
    have F18 := F17.below hb18
    clear q0 q1 q2 q3 F17 hb18
    obtain ⟨q0, q1, q2, q3⟩ := F18.b3.four
    go_wp2_with fail
    refine (plain_any M3 w18).mono ?_
    rintro e w19 ⟨rfl, hb19⟩
    have F19 := F18.below hb19
    clear q0 q1 q2 q3 F18 hb19
    obtain ⟨q0, q1, q2, q3⟩ := F19.b1.four
    go_wp2_with fail
    refine (sets_any M1 w19).mono ?_
    rintro e w20 ⟨rfl, hb20⟩
    have F20 := F19.below hb20
    clear q0 q1 q2 q3 F19 hb20
    obtain ⟨q0, q1, q2, q3⟩ := F20.b2.four
    go_wp2_with fail
    refine (sets_any M2 w20).mono ?_
    rintro e w21 ⟨rfl, hb21⟩
    have F21 := F20.below hb21
    clear q0 q1 q2 q3 F20 hb21
    obtain ⟨q0, q1, q2, q3⟩ := F21.b3.four
    go_wp2_with fail
    refine (sets_any M3 w21).mono ?_
    rintro e w22 ⟨rfl, hb22⟩
    have F22 := F21.below hb22
    clear q0 q1 q2 q3 F21 hb22
    go_wp2_with fail
    refine (nodes_any M1 _ _ _ _ w22 F22.m1).mono ?_
    rintro e w' ⟨rfl, rfl⟩
    obtain ⟨x1, y1⟩ := F22.i1
    go_wp2_with fail
    refine (sameInts_any g w3.heap.size n c2 n ns w22 (y1.ints HNL.out) (vi_own F22.so HNL.out) (n_small hn4)).mono ?_
    rintro e w' ⟨rfl, m1, rfl⟩
    have F23 := F22.below (below_drewN' (Below.refl _ _) m1)
    clear F22 x1 y1
    generalize w22.drewN m1 = w23 at F23 ⊢
    go_wp2_with fail
    refine (nodes_any M2 _ _ _ _ _ F23.m2).mono ?_
    rintro e w' ⟨rfl, rfl⟩
    obtain ⟨x1, y1⟩ := F23.i2
    go_wp2_with fail
    refine (sameInts_any g w3.heap.size n c2 n ns _ (y1.ints HNL.out) (vi_own F23.so HNL.out) (n_small hn4)).mono ?_
    rintro e w' ⟨rfl, m2, rfl⟩
    have F24 := F23.below (below_drewN' (Below.refl _ _) m2)
    clear F23 x1 y1
    generalize w23.drewN m2 = w24 at F24 ⊢
    go_wp2_with fail
    refine (nodes_any M3 _ _ _ _ _ F24.m3).mono ?_
    rintro e w' ⟨rfl, rfl⟩
    obtain ⟨x1, y1⟩ := F24.i3
    go_wp2_with fail
    refine (sameInts_any g' w3.heap.size n c3 n ns _ (y1.ints HNL.out) (vi_own F24.so HNL.out) (n_small hn4)).mono ?_
    rintro e w' ⟨rfl, m3, rfl⟩
    have F25 := F24.below (below_drewN' (Below.refl _ _) m3)
    clear F24 x1 y1
    generalize w24.drewN m3 = w25 at F25 ⊢
    go_wp2_with fail
    refine (added_any M1 _ _ _ _ w25 F25.m1).mono ?_
    rintro e w' ⟨rfl, rfl⟩
    go_wp2_with fail
    refine (added_any M2 _ _ _ _ w25 F25.m2).mono ?_
    rintro e w' ⟨rfl, rfl⟩
    go_wp2_with fail
    refine (added_any M3 _ _ _ _ w25 F25.m3).mono ?_
    rintro e w' ⟨rfl, rfl⟩
    go_wp2_with fail
    refine (err_any M1 _ _ _ _ w25 F25.m1).mono ?_
    rintro e w' ⟨rfl, rfl⟩
    go_wp2_with fail
    refine (err_any M2 _ _ _ _ w25 F25.m2).mono ?_
    rintro e w' ⟨rfl, rfl⟩
    go_wp2_with fail
    refine (err_any M3 _ _ _ _ w25 F25.m3).mono ?_
    rintro e w' ⟨rfl, rfl⟩
    go_wp2_with fail
    refine (records_any M1 _ _ _ _ w25 F25.m1).mono ?_
    rintro e w' ⟨rfl, rfl⟩
    go_wp2_with fail
    refine (records_any M2 _ _ _ _ w25 F25.m2).mono ?_
    rintro e w' ⟨rfl, rfl⟩
    go_wp2_with fail
    refine (records_any M3 _ _ _ _ w25 F25.m3).mono ?_
    rintro e w' ⟨rfl, rfl⟩
    have hlow := hide F25.low
    clear F25
    go_wp2_with fail
    go_ret
    exact ⟨rfl, hlow.out⟩)
end Go.Proofs.Qxb6613881aFmt
