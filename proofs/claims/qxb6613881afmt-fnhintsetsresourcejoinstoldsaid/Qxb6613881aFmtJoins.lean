/-
  numalign: FnHintSetsResourceJoins: the law's own walk.
-/
import Derived.Test.Qxb6613881aFmtMatchWalk
import Derived.Test.Qxb6613881aFmtTri
namespace Go.Proofs.Qxb6613881aFmt
open Go.RowKit
set_option linter.unusedVariables false

theorem bytes_append (a b : List UInt8) : (ByteArray.mk a.toArray) ++ (ByteArray.mk b.toArray) = ByteArray.mk (a ++ b).toArray := by
  apply ByteArray.ext
  simp
theorem cast_both (a b : Nat) : ((0 + a + b : Nat) : Int) = (a : Int) + (b : Int) := by omega
theorem cast_one (a : Nat) : ((0 + a : Nat) : Int) = (a : Int) := by omega
theorem wrap_both {a b : Nat} (h : a ≤ 131072) (h2 : b ≤ 131072) : wrap64 ((a : Int) + (b : Int)) = (a : Int) + (b : Int) := by unfold wrap64; omega
theorem cat_small {ns : List Int} {sl NA NB : Nat} {hA hB : List (List Int)} {psA psB : List Bool} (h : (NA + NB) * (sl + 1) ≤ 4194304) (hlA : hA.length = NA) (hlB : hB.length = NB) :
    (ByteArray.mk (runR ns sl ([], false) (withPref hA psA)).1.toArray).size + (ByteArray.mk (runR ns sl ([], false) (withPref hB psB)).1.toArray).size ≤ 9223372036854775807 := by
  have h1 := runR_le ns sl (withPref hA psA) []
  have h2 := runR_le ns sl (withPref hB psB) []
  rw [withPref_length, hlA] at h1
  rw [withPref_length, hlB] at h2
  rw [Nat.add_mul] at h
  simp only [ByteArray.size, List.size_toArray, List.length_nil] at h1 h2 ⊢
  omega
theorem prod_one {NA NB s : Nat} (h : (NA + NB) * (s + 1) ≤ 4194304) : NA * (s + 1) ≤ 4194304 ∧ NB * (s + 1) ≤ 4194304 := by
  rw [Nat.add_mul] at h
  omega

set_option maxHeartbeats 4000000 in
set_option maxRecDepth 100000 in
theorem walk4 (x : Addr) (n c NA ca PA pca NB cb PB pcb : Nat) (ha pa hb pb : Option Addr) (zs : List Int) (hA hB : List (List Int)) (psA psB : List Bool) (w : World)
    (hin : Inp w (some x) n zs ha NA hA pa PA psA hb NB hB pb PB psB) :
    Calls Tryf.prog 4 #[.slice (some x) n c, .slice ha NA ca, .slice pa PA pca, .slice hb NB cb, .slice pb PB pcb] w fun e w' => e = .returned (.bool true) ∧ Below w.heap.size w w' := by
  obtain ⟨i0, hi, hz0, hz1, hz2⟩ := info_parts info3
  have HIN := hide hin
  clear hin
  go_enter Tryf.func4, Tryf.ntmps4
  go_wp2_with fail
  refine (zz20_any w.heap.size n c NA ca PA pca NB cb PB pcb _ ha pa hb pb hA hB w HIN.out.rA HIN.out.rB HIN.out.m1 HIN.out.m2 HIN.out.m3 HIN.out.m4 HIN.out.m5).mono ?_
  rintro e w' ⟨rfl | rfl, rfl⟩
  rotate_left
  · go_wp2_with fail
    go_ret
    exact ⟨rfl, Below.refl _ _⟩
  go_wp2_with fail
  refine (over_any w.heap.size n c NA ca PA pca NB cb PB pcb _ ha pa hb pb hA hB w HIN.out.rA HIN.out.rB HIN.out.m1 HIN.out.m2 HIN.out.m3 HIN.out.m4 HIN.out.m5).mono ?_
  rintro e w' ⟨rfl, rfl | ⟨rfl, hn4, hA1, hB1, hAl, hBl, hprod⟩⟩
  · go_wp2_with fail
    go_ret
    exact ⟨rfl, Below.refl _ _⟩
  have HRA := hide (HIN.out.rA.small hAl)
  have HRB := hide (HIN.out.rB.small hBl)
  have HPROD := hide hprod
  have hby := bytes_n hz2 hn4
  have hml := max_n hn4
  have hmin : (vi zs).length = Nat.min n n := by rw [List.length_map, HIN.out.len]; exact (Nat.min_self n).symm
  have hfit : 0 + (vi zs).length ≤ (List.replicate n (Value.int .i64 0)).length := by rw [List.length_map, HIN.out.len, List.length_replicate, Nat.zero_add]; exact Nat.le_refl _
  have hone : ∀ v ∈ vi zs, v.oneCell' = true := ints_oneCell .i64 zs
  clear hAl hBl hprod
  go_wp2_with (first
    | (at_make; go_must (refine wpList_make_full _ rfl _ _ 22 rfl w.heap.size 3 i0 (.int .i64 0) 1 Tryf.underlying22 hi hz0 hz1 .i64 .i64 _ _ n rfl rfl rfl rfl hby hml (Nat.le_refl _) ?_); intro w2 hrow2 hg2; have hfull := made_full hrow2; have hb2 : Below w.heap.size w w2 := (Below.refl _ w).grown hg2 (Nat.le_refl _) (fun j hj => by cases hj))
    | (show wpList _ _ _ ({ dst := _, op := .call { callee := .builtin .copy, args := _, argTypes := _ }, type := _, pos := _, after := _, guard := _ } :: _) _ _; go_must (refine wpList_copy_splice rfl _ _ 22 22 rfl 3 Tryf.underlying22 size3 _ _ _ _ _ _ rfl rfl w.heap.size 0 (List.replicate n (Value.int .i64 0)) 3 hfull (vi zs) hmin (HIN.out.rd.src hb2) hfit hone w.heap.size w hb2 (Nat.le_refl _) ?_); intro w3 HG3 hb3)
    | fail)
  have hz3 : w3.heap[w.heap.size]? = some (.cells (vi zs).toArray 3 (0, 0)) := by rw [← splice_whole n zs HIN.out.len]; exact HG3.out
  have HB3 := hide hb3
  have HZ3 := hide hz3
  have hlt3 : w.heap.size < w3.heap.size := heap_lt hz3
  clear hby hml hmin hfit hone hrow2 hg2 hfull hb2 HG3 hz3 hb3
  refine (sortedCopy_any w3.heap.size n n _ zs w3 (Nat.le_refl _) (rd_of (n := n) HZ3.out hlt3) HIN.out.len (n_small hn4)).mono ?_
  rintro e w4 ⟨rfl, hs4, hb4⟩
  have HS4 := hide hs4
  have HB4 := hide hb4
  clear hs4 hb4
  obtain ⟨ns, hns⟩ : ∃ ns, srt zs = ns := ⟨_, rfl⟩
  rw [hns] at HS4
  have HNS := hide hns
  have hnl : ns.length = n := by rw [← hns, srt_length]; exact HIN.out.len
  have HNL := hide hnl
  have hsrt : ns.Pairwise (· ≤ ·) := by rw [← hns]; exact srt_sorted zs
  have HSRT := hide hsrt
  clear hns hnl hsrt
  go_wp2_with fail
  refine (valid_any w3.heap.size n n ns w4 (vi_own HS4.out HNL.out) HNL.out HSRT.out (n_small hn4)).mono ?_
  rintro e w' ⟨⟨md, rfl⟩, ⟨rfl, hgood⟩ | rfl⟩
  rotate_left
  · go_wp2_with fail
    go_ret
    exact ⟨rfl, below_drewN' (HB3.out.trans (HB4.out.mono (Nat.le_of_lt hlt3))) _⟩
  have HN := hide (nodes_of HNS.out HIN.out.len hn4 hgood)
  have HB5 : Hid (Below w.heap.size w (w4.drewN md)) := below_drewN' (HB3.out.trans (HB4.out.mono (Nat.le_of_lt hlt3))) _
  have HZ5 : Hid (Blk (w4.drewN md) w.heap.size (vi zs).toArray 3) := (HB4.out.block _ hlt3).trans HZ3.out
  have HS5 : Hid (Blk (w4.drewN md) w3.heap.size (vi ns).toArray 3) := HS4.out
  generalize w4.drewN md = w5 at HB5 HZ5 HS5 ⊢
  clear HB3 HZ3 HS4 HB4 hgood
  go_wp2_with fail
  refine (hintsKnown_any w.heap.size NA ca w3.heap.size n n ha hA ns w5 HN.out (vi_own HS5.out HNL.out) (HRA.out.below HB5.out) (N_small hA1)).mono ?_
  rintro e w' ⟨rfl, rfl⟩
  go_wp2_with fail
  refine (hintsKnown_any w.heap.size NB cb w3.heap.size n n hb hB ns w5 HN.out (vi_own HS5.out HNL.out) (HRB.out.below HB5.out) (N_small hB1)).mono ?_
  rintro e w' ⟨rfl, rfl⟩
  go_wp2_with fail
  refine (newHintSets_any w.heap.size 0 n n zs ns w5 HNS.out HIN.out.len HN.out (heap_lt HZ5.out) (cells_zero HZ5.out)).mono ?_
  rintro e w6 ⟨H1, g1, c1, T1, S1, rfl, hS1, hs6, hH6, _, _, hb6⟩
  have HB6 := hide (HB5.out.trans (hb6.mono HB5.out.size))
  have HZ6 := hide (HZ5.out.below hb6 (Nat.le_refl _))
  have HS6 := hide (HS5.out.below hb6 (Nat.le_refl _))
  have hl1 : w.heap.size ≤ H1 := Nat.le_trans HB5.out.size hH6
  have HH6 := hide hs6
  clear HB5 HZ5 HS5 hs6 hb6 hH6
  go_wp2_with fail
  refine (newHintSets_any w.heap.size 0 n n zs ns w6 HNS.out HIN.out.len HN.out (heap_lt HZ6.out) (cells_zero HZ6.out)).mono ?_
  rintro e w7 ⟨H2, g2, c2, T2, S2, rfl, hS2, hs7, hH7, _, _, hb7⟩
  have HB7 := hide (HB6.out.trans (hb7.mono HB6.out.size))
  have HZ7 := hide (HZ6.out.below hb7 (Nat.le_refl _))
  have HS7 := hide (HS6.out.below hb7 (Nat.le_refl _))
  have hl12 : H1 < H2 := Nat.lt_of_lt_of_le (heap_lt HH6.out.blk) hH7
  have HH7 := hide (HH6.out.below hb7)
  have HI7 := hide hs7
  clear HB6 HZ6 HS6 HH6 hs7 hb7 hH7
  go_wp2_with fail
  refine (newHintSets_any w.heap.size 0 n n zs ns w7 HNS.out HIN.out.len HN.out (heap_lt HZ7.out) (cells_zero HZ7.out)).mono ?_
  rintro e w8 ⟨H3, g3, c3, T3, S3, rfl, hS3, hs8, hH8, _, _, hb8⟩
  have HT8 := hide (tri_start (HB7.out.trans (hb8.mono HB7.out.size)) (HS7.out.below hb8 (Nat.le_refl _)) (HH7.out.below hb8) (HI7.out.below hb8) hs8 hl12 (Nat.lt_of_lt_of_le (heap_lt HI7.out.blk) hH8) hl1)
  clear HB7 HZ7 HS7 HH7 HI7 hs8 hb8 hH8 hl1 hl12
  go_wp2_with fail
  refine (addAll_any w.heap.size H1 g1 T1 n S1 c1 ((n + 7) / 8) NA ca PA pca ns ha pa hA psA (.slice none 0 0) [] false .nilIface 0 w8 HN.out hS1 rfl HT8.out.h1 rfl (N_add hA1) (N_rec HPROD.out).1 HT8.out.l1 HT8.out.r1 HT8.out.low.size (HRA.out.below HT8.out.low) HIN.out.lA (HIN.out.pA.below HT8.out.low)).mono ?_
  rintro e w9 ⟨rfl, rv9, er9, hs9, he9, ht9⟩
  have HT9 := hide (HT8.out.turn1 ht9 hs9)
  have HE9 := hide he9
  clear HT8 hs9 he9 ht9
  go_wp2_with fail
  refine (addAll_any w.heap.size H1 g1 T1 n S1 c1 ((n + 7) / 8) NB cb PB pcb ns hb pb hB psB rv9 (runR ns ((n + 7) / 8) ([], false) (withPref hA psA)).1 (runR ns ((n + 7) / 8) ([], false) (withPref hA psA)).2 er9 (0 + NA) w9 HN.out hS1 rfl HT9.out.h1 HE9.out (N_add2 hA1 hB1) (N_both HPROD.out HRA.out.1) HT9.out.l1 HT9.out.r1 HT9.out.low.size (HRB.out.below HT9.out.low) HIN.out.lB (HIN.out.pB.below HT9.out.low)).mono ?_
  rintro e w10 ⟨rfl, rv10, er10, hs10, he10, ht10⟩
  have HT10 := hide (HT9.out.turn1 ht10 hs10)
  have HE10 := hide he10
  clear HT9 hs10 he10 ht10
  clear HE9
  go_wp2_with fail
  refine (addAll_any w.heap.size H2 g2 T2 n S2 c2 ((n + 7) / 8) NA ca PA pca ns ha pa hA psA (.slice none 0 0) [] false .nilIface 0 w10 HN.out hS2 rfl HT10.out.h2 rfl (N_add hA1) (N_rec HPROD.out).1 HT10.out.l2 HT10.out.r2 HT10.out.low.size (HRA.out.below HT10.out.low) HIN.out.lA (HIN.out.pA.below HT10.out.low)).mono ?_
  rintro e w11 ⟨rfl, rv11, er11, hs11, he11, ht11⟩
  have HT11 := hide (HT10.out.turn2 ht11 hs11)
  have HE11 := hide he11
  clear HT10 hs11 he11 ht11
  go_wp2_with fail
  refine (addAll_any w.heap.size H3 g3 T3 n S3 c3 ((n + 7) / 8) NB cb PB pcb ns hb pb hB psB (.slice none 0 0) [] false .nilIface 0 w11 HN.out hS3 rfl HT11.out.h3 rfl (N_add hB1) (N_rec HPROD.out).2 HT11.out.l3 HT11.out.r3 HT11.out.low.size (HRB.out.below HT11.out.low) HIN.out.lB (HIN.out.pB.below HT11.out.low)).mono ?_
  rintro e w12 ⟨rfl, rv12, er12, hs12, he12, ht12⟩
  have HT12 := hide (HT11.out.turn3 ht12 hs12)
  have HE12 := hide he12
  clear HT11 hs12 he12 ht12
  go_wp2_with fail
  refine (resource_any H1 g1 T1 n S1 c1 ns rv10 _ er10 _ w12 HT12.out.h1 _ HE10.out).mono ?_
  rintro e w13 ⟨M1, rv13, rfl, _, hm13, hs13, ht13⟩
  have HT13 := hide ((HT12.out.turn1 ht13 hs13).alloc (rObj M1))
  have HM113 := hide (Blk.alloc (k := M1) (t := 59) hm13 (rObj M1))
  have HR113 := hide (r_alloc w13 M1)
  clear HT12 hm13 hs13 ht13
  go_wp2_with fail
  refine (resource_any H2 g2 T2 n S2 c2 ns rv11 _ er11 _ (w13.alloc (rObj M1)) HT13.out.h2 _ HE11.out).mono ?_
  rintro e w14 ⟨M2, rv14, rfl, _, hm14, hs14, ht14⟩
  have HT14 := hide ((HT13.out.turn2 ht14 hs14).alloc (rObj M2))
  have HM214 := hide (Blk.alloc (k := M2) (t := 59) hm14 (rObj M2))
  have HR214 := hide (r_alloc w14 M2)
  have HM114 := hide ((HM113.out.turn ht14 HT13.out.h2 (by decide) (by decide)).alloc (rObj M2))
  have HR114 := hide ((HR113.out.turn ht14 HT13.out.h2 (by decide) (by decide)).alloc (rObj M2))
  clear HT13 hm14 hs14 ht14 HM113 HR113
  go_wp2_with fail
  refine (resource_any H3 g3 T3 n S3 c3 ns rv12 _ er12 _ (w14.alloc (rObj M2)) HT14.out.h3 _ HE12.out).mono ?_
  rintro e w15 ⟨M3, rv15, rfl, _, hm15, hs15, ht15⟩
  have HT15 := hide ((HT14.out.turn3 ht15 hs15).alloc (rObj M3))
  have HM315 := hide (Blk.alloc (k := M3) (t := 59) hm15 (rObj M3))
  have HR315 := hide (r_alloc w15 M3)
  have HM115 := hide ((HM114.out.turn ht15 HT14.out.h3 (by decide) (by decide)).alloc (rObj M3))
  have HR115 := hide ((HR114.out.turn ht15 HT14.out.h3 (by decide) (by decide)).alloc (rObj M3))
  have HM215 := hide ((HM214.out.turn ht15 HT14.out.h3 (by decide) (by decide)).alloc (rObj M3))
  have HR215 := hide ((HR214.out.turn ht15 HT14.out.h3 (by decide) (by decide)).alloc (rObj M3))
  clear HT14 hm15 hs15 ht15 HM114 HR114 HM214 HR214
  have HFF := hide (End.mk (w := w) HT15.out.low HT15.out.so HR115.out HR215.out HR315.out HM115.out HM215.out HM315.out)
  clear HT15 HR115 HR215 HR315 HM115 HM215 HM315
  have HJ := hide (join_facts HE10.out HE11.out HE12.out)
  have HMA : Hid (okAll ns hA = true → _) := fun h => match_facts (sl := (n + 7) / 8) (ps := psA) HRA.out.1 h
  have HMB : Hid (okAll ns hB = true → _) := fun h => match_facts (sl := (n + 7) / 8) (ps := psB) HRB.out.1 h
  have HCAT := hide (cat_small (ns := ns) (psA := psA) (psB := psB) HPROD.out HRA.out.1 HRB.out.1)
  clear HE10 HE11 HE12
  go_upto_region 30 with fail
  generalize w15.alloc (rObj M3) = w16 at HFF ⊢
  generalize (runR ns ((n + 7) / 8) ((runR ns ((n + 7) / 8) ([], false) (withPref hA psA)).1, (runR ns ((n + 7) / 8) ([], false) (withPref hA psA)).2) (withPref hB psB)).1 = L1 at HFF HJ
  generalize (runR ns ((n + 7) / 8) ([], false) (withPref hA psA)).1 = L2 at HFF HJ HMA HCAT
  generalize (runR ns ((n + 7) / 8) ([], false) (withPref hB psB)).1 = L3 at HFF HJ HMB HCAT
  rw [cast_both, cast_one, cast_one] at HFF
  generalize hoA : okAll ns hA = okA at HJ HMA ⊢
  generalize hoB : okAll ns hB = okB at HJ HMB ⊢
  have HOA := hide hoA
  have HOB := hide hoB
  clear hoA hoB
  have hqA := bne_same (NA : Int)
  have hqB := bne_same (NB : Int)
  have hqAB := bne_same ((NA : Int) + (NB : Int))
  have HL := HJ
  clear HJ
  rcases HL.out with ⟨rfl, rfl, rfl, rfl, rfl, hL⟩ | ⟨rfl, rfl, ⟨t1, p1, rfl⟩, rfl, ⟨t3, p3, rfl⟩, hL⟩ | ⟨rfl, rfl, ⟨t1, p1, rfl⟩, ⟨t2, p2, rfl⟩, rfl, hL⟩ | ⟨rfl, rfl, ⟨t1, p1, rfl⟩, ⟨t2, p2, rfl⟩, ⟨t3, p3, rfl⟩, hL⟩
  all_goals (
    clear HL
    replace hL := hL.symm
    subst hL
    have F16 := HFF.out
    clear HFF
    try rw [← bytes_append] at F16
    generalize hs2 : ByteArray.mk L2.toArray = s2 at F16 HCAT
    generalize hs3 : ByteArray.mk L3.toArray = s3 at F16 HCAT
    have HS2 := hide hs2
    have HS3 := hide hs3
    clear hs2 hs3
    obtain ⟨q0, q1, q2, q3⟩ := F16.b1.four
    go_wp2_with fail
    refine (plain_any M1 w16).mono ?_
    rintro e w17 ⟨rfl, hb17⟩
    have F17 := F16.below hb17
    clear q0 q1 q2 q3 F16 hb17
    obtain ⟨q0, q1, q2, q3⟩ := F17.b2.four
    go_wp2_with fail
    refine (plain_any M2 w17).mono ?_
    rintro e w18 ⟨rfl, hb18⟩
    have F18 := F17.below hb18
    clear q0 q1 q2 q3 F17 hb18
    obtain ⟨q0, q1, q2, q3⟩ := F18.b3.four
    go_wp2_with fail
    refine (plain_any M3 w18).mono ?_
    rintro e w19 ⟨rfl, hb19⟩
    have F19 := F18.below hb19
    clear q0 q1 q2 q3 F18 hb19
    obtain ⟨q0, q1, q2, q3⟩ := F19.b1.four
    go_wp2_with fail
    refine (sets_any M1 w19).mono ?_
    rintro e w20 ⟨rfl, hb20⟩
    have F20 := F19.below hb20
    clear q0 q1 q2 q3 F19 hb20
    obtain ⟨q0, q1, q2, q3⟩ := F20.b2.four
    go_wp2_with fail
    refine (sets_any M2 w20).mono ?_
    rintro e w21 ⟨rfl, hb21⟩
    have F21 := F20.below hb21
    clear q0 q1 q2 q3 F20 hb21
    obtain ⟨q0, q1, q2, q3⟩ := F21.b3.four
    go_wp2_with fail
    refine (sets_any M3 w21).mono ?_
    rintro e w22 ⟨rfl, hb22⟩
    have F22 := F21.below hb22
    clear q0 q1 q2 q3 F21 hb22
    go_wp2_with fail
    refine (added_any M1 _ _ _ _ w22 F22.m1).mono ?_
    rintro e w' ⟨rfl, rfl⟩
    go_wp2_with fail
    refine (added_any M2 _ _ _ _ w22 F22.m2).mono ?_
    rintro e w' ⟨rfl, rfl⟩
    go_wp2_with fail
    refine (added_any M3 _ _ _ _ w22 F22.m3).mono ?_
    rintro e w' ⟨rfl, rfl⟩
    go_wp2_with fail
    refine (err_any M2 _ _ _ _ w22 F22.m2).mono ?_
    rintro e w' ⟨rfl, rfl⟩
    go_wp2_with fail
    refine (err_any M3 _ _ _ _ w22 F22.m3).mono ?_
    rintro e w' ⟨rfl, rfl⟩
    go_wp2_with fail
    refine (err_any M1 _ _ _ _ w22 F22.m1).mono ?_
    rintro e w' ⟨rfl, rfl⟩
    go_wp2_with fail
    refine (records_any M1 _ _ _ _ w22 F22.m1).mono ?_
    rintro e w' ⟨rfl, rfl⟩
    go_wp2_with fail
    refine (records_any M2 _ _ _ _ w22 F22.m2).mono ?_
    rintro e w' ⟨rfl, rfl⟩
    go_wp2_with fail
    refine (records_any M3 _ _ _ _ w22 F22.m3).mono ?_
    rintro e w' ⟨rfl, rfl⟩
    have FL := hide F22
    clear F22)
  · have hcat := fun w => run_string_add_sum (P := Tryf.prog) w s2 s3 HCAT.out
    go_wp2_with fail
    clear hcat
    refine (match_any w.heap.size NA ca PA pca w3.heap.size n n ((n + 7) / 8) ha pa hA psA ns L2 s2 w22 HN.out rfl hA1 (prod_one HPROD.out).1 HS2.out.symm (HMA.out (by trivial)).1 HOA.out FL.out.low.size (HRA.out.below FL.out.low) HIN.out.lA (HIN.out.pA.below FL.out.low) (heap_lt FL.out.so) (vi_own FL.out.so HNL.out) (by rw [← HS2.out]; exact (HMA.out (by trivial)).2)).mono ?_
    rintro e wA ⟨rfl, hbA⟩
    have FA := hide (FL.out.below hbA)
    clear hbA
    go_wp2_with fail
    refine (match_any w.heap.size NB cb PB pcb w3.heap.size n n ((n + 7) / 8) hb pb hB psB ns L3 s3 wA HN.out rfl hB1 (prod_one HPROD.out).2 HS3.out.symm (HMB.out (by trivial)).1 HOB.out FA.out.low.size (HRB.out.below FA.out.low) HIN.out.lB (HIN.out.pB.below FA.out.low) (heap_lt FA.out.so) (vi_own FA.out.so HNL.out) (by rw [← HS3.out]; exact (HMB.out (by trivial)).2)).mono ?_
    rintro e wB ⟨rfl, hbB⟩
    have FB := hide (FA.out.below hbB)
    clear hbB
    go_wp2_with fail
    go_ret
    exact ⟨rfl, FB.out.low⟩
  · have hcat := fun w => run_string_add_sum (P := Tryf.prog) w s2 s3 HCAT.out
    go_wp2_with fail
    clear hcat
    refine (match_any w.heap.size NA ca PA pca w3.heap.size n n ((n + 7) / 8) ha pa hA psA ns L2 s2 w22 HN.out rfl hA1 (prod_one HPROD.out).1 HS2.out.symm (HMA.out (by trivial)).1 HOA.out FL.out.low.size (HRA.out.below FL.out.low) HIN.out.lA (HIN.out.pA.below FL.out.low) (heap_lt FL.out.so) (vi_own FL.out.so HNL.out) (by rw [← HS2.out]; exact (HMA.out (by trivial)).2)).mono ?_
    rintro e wA ⟨rfl, hbA⟩
    have FA := hide (FL.out.below hbA)
    clear hbA
    go_wp2_with fail
    go_ret
    exact ⟨rfl, FA.out.low⟩
  · go_wp2_with fail
    refine (match_any w.heap.size NB cb PB pcb w3.heap.size n n ((n + 7) / 8) hb pb hB psB ns L3 s3 w22 HN.out rfl hB1 (prod_one HPROD.out).2 HS3.out.symm (HMB.out (by trivial)).1 HOB.out FL.out.low.size (HRB.out.below FL.out.low) HIN.out.lB (HIN.out.pB.below FL.out.low) (heap_lt FL.out.so) (vi_own FL.out.so HNL.out) (by rw [← HS3.out]; exact (HMB.out (by trivial)).2)).mono ?_
    rintro e wB ⟨rfl, hbB⟩
    have FB := hide (FL.out.below hbB)
    clear hbB
    go_wp2_with fail
    go_ret
    exact ⟨rfl, FB.out.low⟩
  · go_wp2_with fail
    go_ret
    exact ⟨rfl, FL.out.low⟩
end Go.Proofs.Qxb6613881aFmt
