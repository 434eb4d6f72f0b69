/-
  FnAppendNodeHashAnyCut: the law's own walk.
-/
import Derived.Test.Qxb6613964aFmtHelp
import Derived.Deep.RegionHeld3
namespace Go.Proofs.Qxb6613964aFmt
open Go.RowKit
set_option linter.unusedVariables false

theorem undrew {B : Nat} {w w' : World} (h : Below B w.drew w') : Below B w w' := ⟨h.os, h.tape, h.output, h.size, h.block⟩
theorem range_below {B H o : Nat} {w w' : World} {cs : List Value} (h : w.rangeAt H o cs) (hb : Below B w w') (hH : H < B) : w'.rangeAt H o cs := fun j v hv => by
  rw [hb.cell (p := ⟨H, o + j, .none⟩) hH]; exact h j v hv
theorem range_box (w : World) (cs : List Value) (t : TypeId) : (w.alloc (.cells cs.toArray t)).rangeAt w.heap.size 0 cs := fun j v hv => by
  rw [Nat.zero_add, cell_of_row _ _ j cs.toArray t (0, 0) (heap_alloc_new w _)]; simpa using hv

theorem Rd.drewN {B : Nat} {w : World} {a : Option Addr} {vs : List Value} (h : Rd B w a vs) (m : Nat) : Rd B (w.drewN m) a vs := h
theorem below_drewN' {B : Nat} {w w' : World} (h : Below B w w') (m : Nat) : Below B w (w'.drewN m) := ⟨h.os, h.tape, h.output, h.size, h.block⟩
theorem own_cap {w : World} {base n cap : Nat} {e : TypeId} {a : Addr} {xs : List Value} (h : w.ownsRow base e 1 (.slice (some a) n cap) n xs) : n ≤ cap := by
  rcases h.2 with ⟨h1, _⟩ | ⟨g, cap', cur, h1, _, _, h4, _⟩
  · cases h1
  · simp only [Value.slice.injEq] at h1
    omega
theorem size23_of {hv : List Value} (h : hv.length = 32) : (Tryf.prog.info? 23).map (·.size) = some hv.length := by rw [h]; exact size23

set_option maxHeartbeats 1000000 in
set_option maxRecDepth 100000 in
theorem walk3_over (a : Option Addr) (n c : Nat) (hv : List Value) (k : Int) (w : World) (hlen : ¬ n ≤ 1048576) (hvl : Hid (hv.length = 32)) :
    Calls Tryf.prog 3 #[.slice a n c, .agg hv.toArray, .int .i64 k] w fun e w' => e = .returned (.bool true) ∧ Below w.heap.size w w' := by
  go_enter Tryf.func3, Tryf.ntmps3
  go_wp2_with (first
    | (refine wpList_load_mid rfl 23 _ rfl w.heap.size 0 rfl hv _ (range_box w hv 23) Tryf.underlying23 rfl (size23_of hvl.out) ?_)
    | (go_at_call 7; refine (bytes7_no a n c hv.toArray k _ hlen).mono ?_; rintro e w' ⟨rfl, rfl⟩)
    | fail)
  go_ret
  exact ⟨rfl, ((Below.refl _ w).alloc (Nat.le_refl _) _).alloc (by simp) _⟩

set_option maxHeartbeats 1000000 in
set_option maxRecDepth 100000 in
theorem walk3_cut (a : Option Addr) (n c : Nat) (hv : List Value) (k : Int) (w : World) (hlen : n ≤ 1048576) (hk : ¬ (0 ≤ k ∧ k ≤ n)) (hvl : Hid (hv.length = 32)) :
    Calls Tryf.prog 3 #[.slice a n c, .agg hv.toArray, .int .i64 k] w fun e w' => e = .returned (.bool true) ∧ Below w.heap.size w w' := by
  by_cases h0 : k < 0
  · clear hk
    go_enter Tryf.func3, Tryf.ntmps3
    go_wp2_with (first
      | (refine wpList_load_mid rfl 23 _ rfl w.heap.size 0 rfl hv _ (range_box w hv 23) Tryf.underlying23 rfl (size23_of hvl.out) ?_)
      | (go_at_call 7; refine (bytes7_yes a n c hv.toArray k _ hlen).mono ?_; rintro e w' ⟨rfl, rfl⟩)
      | fail)
    go_ret
    exact ⟨rfl, ((Below.refl _ w).alloc (Nat.le_refl _) _).alloc (by simp) _⟩
  · have h1 : (n : Int) < k := by omega
    clear hk
    go_enter Tryf.func3, Tryf.ntmps3
    go_wp2_with (first
      | (refine wpList_load_mid rfl 23 _ rfl w.heap.size 0 rfl hv _ (range_box w hv 23) Tryf.underlying23 rfl (size23_of hvl.out) ?_)
      | (go_at_call 7; refine (bytes7_yes a n c hv.toArray k _ hlen).mono ?_; rintro e w' ⟨rfl, rfl⟩)
      | fail)
    go_ret
    exact ⟨rfl, ((Below.refl _ w).alloc (Nat.le_refl _) _).alloc (by simp) _⟩
theorem cut_from_run (a : Option Addr) (len cap l : Nat) (h1 : l ≤ len) (w : World) :
    (Instr.slice 22 (.slice a len cap) (some (.int .i64 (l : Int))) .none .none).run Tryf.prog w = .ok (.slice (if cap = l then a else a.map (·.add l)) (len - l) (cap - l)) w := by
  simp [Instr.slice, run_underlying Tryf.underlying22, Instr.sliceBounds, run_sliceBound, h1]
theorem cut_lo (g len cap l : Nat) (h1 : l ≤ len) (h2 : l < cap) (w : World) :
    (Instr.slice 22 (.slice (some ⟨g, 0, .none⟩) len cap) (some (.int .i64 (l : Int))) .none .none).run Tryf.prog w = .ok (.slice (some ⟨g, l, .none⟩) (len - l) (cap - l)) w := by
  rw [cut_from_run _ _ _ _ h1, if_neg (by omega), Option.map_some, Go.WideShapes.add_plain, Nat.zero_add]
theorem cut_hi (g len cap l : Nat) (h1 : l ≤ len) (h2 : len ≤ cap) (w : World) :
    (Instr.slice 22 (.slice (some ⟨g, 0, .none⟩) len cap) .none (some (.int .i64 (l : Int))) .none).run Tryf.prog w = .ok (.slice (some ⟨g, 0, .none⟩) l cap) w := by
  have h3 : l ≤ cap := by omega
  simp [Instr.slice, run_underlying Tryf.underlying22, Instr.sliceBounds, run_sliceBound, h3, Addr.add]
/-- 's[k:]' of a slice without spare room. -/
theorem cut_from (a0 : Option Addr) (n kn : Nat) (h : kn ≤ n) (B : Nat) (vs : List Value) (hn : vs.length = n) (w : World) (hr : Rd B w a0 vs) :
    ∃ a7, (∀ w', (Instr.slice 22 (.slice a0 n n) (some (.int .i64 (kn : Int))) .none .none).run Tryf.prog w' = .ok (.slice a7 (n - kn) (n - kn)) w') ∧ Rd B w a7 (vs.drop kn) ∧ (a7 = .none → n - kn = 0) := by
  refine ⟨_, fun w' => cut_from_run a0 n n kn h w', ?_, ?_⟩
  · by_cases e : n = kn
    · rw [List.drop_of_length_le (by omega)]; exact .inl rfl
    · rw [if_neg e]
      rcases hr with hr | ⟨b, off, rfl, h2, h3⟩
      · subst hr; simp at hn; omega
      · refine .inr ⟨b, off + kn, by rw [Option.map_some, Go.WideShapes.add_plain], h2, fun j v hj => ?_⟩
        rw [List.getElem?_drop] at hj
        rw [Nat.add_assoc]
        exact h3 _ v hj
  · by_cases e : n = kn
    · intro _; omega
    · rw [if_neg e]
      rcases hr with hr | ⟨b, off, rfl, h2, h3⟩
      · subst hr; simp at hn; omega
      · intro h; cases h

set_option maxHeartbeats 1000000 in
set_option maxRecDepth 100000 in
theorem walk3 (a : Option Addr) (n c : Nat) (bs hz : List Int) (hv : List Value) (kn : Nat) (w : World) (hr : Rd w.heap.size w a (bs.map (Value.int .u8))) (hn : bs.length = n) (h0 : a = .none → n = 0) (hvl : Hid (hv.length = 32)) (hvz : Hid (hv = hz.map (Value.int .u8))) (hv1 : Hid (∀ v ∈ hv, v.oneCell' = true))
    (hlen : n ≤ 1048576) (hk1 : kn ≤ n) :
    Calls Tryf.prog 3 #[.slice a n c,   .agg hv.toArray, .int .i64 (kn : Int)] w fun e w' => e = .returned (.bool true) ∧ Below w.heap.size w w' := by
  have HN := hide hn
  have H0 := hide h0
  clear hn h0
  go_enter Tryf.func3, Tryf.ntmps3
  go_wp2_with (first
    | (refine wpList_load_mid rfl 23 _ rfl w.heap.size 0 rfl hv _ (range_box w hv 23) Tryf.underlying23 rfl (size23_of hvl.out) ?_)
    | (go_at_call 7; refine (bytes7_yes a n c hv.toArray kn _ hlen).mono ?_; rintro e w' ⟨rfl, rfl⟩)
    | fail)
  have hb0 : Below w.heap.size w ((w.alloc (.cells hv.toArray 23)).alloc (.cells hv.toArray 23)) := ((Below.refl _ w).alloc (Nat.le_refl _) _).alloc (by simp) _
  have hvs1 : ∀ v ∈ bs.map (Value.int .u8), v.oneCell' = true := ints_oneCell .u8 bs
  obtain ⟨vs, hvs⟩ : ∃ vs, vs = bs.map (Value.int .u8) := ⟨_, rfl⟩
  rw [← hvs] at hr hvs1
  have hvn : vs.length = n := by rw [hvs, List.length_map]; exact HN.out
  have HVS := hide hvs
  have HVN := hide hvn
  have HV1 := hide hvs1
  clear hvs hvn hvs1
  refine (clone_any a n c w.heap.size vs _ (by simp; omega) (hr.below hb0) HVN.out hlen HV1.out H0.out).mono ?_
  rintro e w3 ⟨a0, rfl, hrow3, hb3⟩
  have hH3 : w3.rangeAt w.heap.size 0 hv := range_below (World.rangeAt_alloc (range_box w hv 23) _) hb3 (by simp; omega)
  have hr3 := (Rd.own hrow3).1
  have hbw3 : Below w.heap.size w w3 := hb0.trans (hb3.mono (by simp; omega))
  have hs3 : w.heap.size < w3.heap.size := by have := hb3.size; simp at this; omega
  have h03 : a0 = .none → n = 0 := by
    rintro rfl
    rcases hrow3.2 with ⟨_, h⟩ | ⟨g, cap, cur, h, _⟩
    · exact h
    · cases h
  have H03 := hide h03
  clear hr hb0 hb3 hrow3 h03
  go_wp2_with (first
    | (refine wpList_load_mid rfl 23 _ rfl w.heap.size 0 rfl hv _ hH3 Tryf.underlying23 rfl (size23_of hvl.out) ?_)
    | (go_at_call 9; go_must (refine (node9_any (.slice .none 0 0) w3.heap.size 0 [] hv.toArray w3 (World.ownsRow_nil _ _ _ _) (Nat.le_refl _) (by omega) (by simpa using hvl.out) (by simpa using hv1.out)).mono ?_); rintro e w4 ⟨g4, c4, rfl, hrow4, hb4⟩)
    | fail)
  have hr4 : Rd w3.heap.size w4 a0 vs := hr3.below hb4
  have hH4 : w4.rangeAt w.heap.size 0 hv := range_below hH3 hb4 hs3
  have hal4 := (Rd.own hrow4).1
  have hbw4 : Below w.heap.size w w4 := hbw3.trans (hb4.mono (by omega))
  have hs4 : w3.heap.size ≤ w4.heap.size := hb4.size
  clear hr3 hH3 hbw3 hb4 hrow4
  have u23 := Tryf.underlying23
  have s23 := size23_of hvl.out
  go_region_held3 (fun w' => w'.rangeAt w.heap.size 0 hv)
    (first | exact hH6 | exact hH5 | exact hH4)
    (first
      | (go_at_call 8; refine (clone_any a0 n n w3.heap.size vs w4.drew hs4 hr4 HVN.out hlen HV1.out H03.out).mono ?_; rintro e w5 ⟨a5, rfl, hrow5, hb5⟩; have hH5 : w5.rangeAt w.heap.size 0 hv := range_below (w := w4.drew) hH4 hb5 (Nat.lt_of_lt_of_le hs3 hs4))
      | (go_at_call 9; refine (node9_any (.slice a5 n n) w4.heap.size n vs hv.toArray w5 hrow5 hb5.size hlen (by simpa using hvl.out) (by simpa using hv1.out)).mono ?_; rintro e w6 ⟨g6, c6, rfl, hrow6, hb6⟩; have hH6 : w6.rangeAt w.heap.size 0 hv := range_below hH5 hb6 (Nat.lt_of_lt_of_le hs3 hs4)))
  have hb5' : Below w4.heap.size w4 w5 := undrew hb5
  have hr6 : Rd w3.heap.size w6 a0 vs := hr4.below ((hb5'.mono hs4).trans (hb6.mono hs4))
  have hal6 : Rd w4.heap.size w6 (some ⟨g4, 0, .none⟩) (.int .u8 32 :: hv) := hal4.below (hb5'.trans hb6)
  have hwh6 := (Rd.own hrow6).1
  have hc6 := own_cap hrow6
  have hbw6 : Below w.heap.size w w6 := (hbw4.trans (hb5'.mono (by omega))).trans (hb6.mono (by omega))
  have hs6 : w4.heap.size ≤ w6.heap.size := Nat.le_trans hb5'.size hb6.size
  obtain ⟨a7, hsl, hr7, h07⟩ := cut_from a0 n kn hk1 w3.heap.size vs HVN.out w6 hr6
  have H07 := hide h07
  clear hH5 hH4 hr4 hal4 hbw4 hrow5 hb5 hb5' hb6 hrow6 h07
  go_wp2_with fail
  go_region_held3 (fun w' => w'.rangeAt w.heap.size 0 hv)
    (first | exact hH8 | exact hH7 | exact hH6)
    (first
      | (go_at_call 8; refine (clone_any a7 (n - kn) (n - kn) w3.heap.size (vs.drop kn) w6.drew (Nat.le_trans hs4 hs6) hr7 (by simp [HVN.out]) (by omega) (fun v hv => HV1.out v (List.mem_of_mem_drop hv)) H07.out).mono ?_; rintro e w7 ⟨a7', rfl, hrow7, hb7⟩; have hH7 : w7.rangeAt w.heap.size 0 hv := range_below (w := w6.drew) hH6 hb7 (Nat.lt_of_lt_of_le hs3 (Nat.le_trans hs4 hs6)))
      | (go_at_call 9; refine (node9_any (.slice a7' (n - kn) (n - kn)) w6.heap.size (n - kn) (vs.drop kn) hv.toArray w7 hrow7 hb7.size (by omega) (by simpa using hvl.out) (by simpa using hv1.out)).mono ?_; rintro e w8 ⟨g8, c8, rfl, hrow8, hb8⟩; have hH8 : w8.rangeAt w.heap.size 0 hv := range_below hH7 hb8 (Nat.lt_of_lt_of_le hs3 (Nat.le_trans hs4 hs6))))
  have hb7' : Below w6.heap.size w6 w7 := undrew hb7
  have hb68 : Below w6.heap.size w6 w8 := hb7'.trans hb8
  have hr8 : Rd w8.heap.size w8 a0 vs := (hr6.below (hb68.mono (by omega))).mono (by have := hb68.size; omega)
  have hal8 : Rd w8.heap.size w8 (some ⟨g4, 0, .none⟩) (.int .u8 32 :: hv) := (hal6.below (hb68.mono hs6)).mono (by have := hb68.size; omega)
  have hwh8 : Rd w8.heap.size w8 (some ⟨g6, 0, .none⟩) (vs ++ .int .u8 32 :: hv) := (hwh6.below hb68).mono hb68.size
  have htl8 := (Rd.own hrow8).1
  have hbw8 : Below w.heap.size w w8 := hbw6.trans (hb68.mono (by omega))
  have ha0 : w8.cell? ⟨g4, 0, .none⟩ = some (.int .u8 32) := hal8.at 0 _ rfl
  have hsl1 := cut_hi g6 (n + 33) c6 n (by omega) (by omega)
  have hsl2 := cut_lo g6 (n + 33) c6 n (by omega) (by omega)
  have hsl3 := cut_lo g6 (n + 33) c6 kn (by omega) (by omega)
  clear u23 s23 hH6 hH7 hr6 hal6 hwh6 hbw6 hs6 hsl hr7 hrow7 hb7 hb8 hrow8 hb7' hb68 hs3 hs4
  go_wp2_with fail
  go_loopw [10] (fun i wr => ∃ k m : Nat, k ≤ 32 ∧ i = .int .i64 k ∧ wr = w8.drewN m) (fun i _ => 32 - (intOf i).toNat)
  case atStart => exact ⟨0, 0, Nat.zero_le _, rfl, rfl⟩
  case round =>
    obtain ⟨k, m, hk, rfl, rfl⟩ := hrel
    by_cases hlt : k < 32
    · obtain ⟨x, hx⟩ : ∃ x, hv[k]? = some (.int .u8 x) := by
        have hl := hvl.out
        have hvk := List.getElem?_eq_getElem (l := hv) (i := k) (by omega)
        have hz0 := hvz.out
        have : k < hz.length := by rw [hz0, List.length_map] at hl; omega
        refine ⟨hz[k], ?_⟩
        rw [hz0]; simp [this]
      have c1 : w8.cell? ⟨g4, 1 + k, .none⟩ = some (.int .u8 x) := hal8.at (1 + k) _ (by rw [Nat.add_comm]; simpa using hx)
      have c2 : w8.cell? ⟨w.heap.size, k, .none⟩ = some (.int .u8 x) := by have := hH8 k _ hx; rwa [Nat.zero_add] at this
      have q : (x != x) = false := by simp
      have hki : (k : Int) < 32 := by omega
      have hki1 : (1 : Int) + (k : Int) < 33 := by omega
      have htn : ((1 : Int) + (k : Int)).toNat = 1 + k := by omega
      clear hx hr8 hal8 hwh8 htl8 hbw8 ha0 hsl1 hsl2 hsl3 hH8
      go_wp2_with fail
      go_quiet (fail)
      go_wp2
      go_roundw
      case rel => exact ⟨k + 1, _, by omega, by go_num, rfl⟩
      case measure => simp [intOf]; omega
    · clear ha0 hH8
      have q1 : ((n : Int) + 33 != (n : Int) + 33) = false := by simp
      obtain ⟨e1, e2, e3⟩ : vs = bs.map (Value.int .u8) ∧ hv = hz.map (Value.int .u8) ∧ hz.length = 32 := ⟨HVS.out, hvz.out, by have h1 := hvl.out; have h2 := hvz.out; rw [h2, List.length_map] at h1; exact h1⟩
      have f1 : Rd w8.heap.size w8 (some ⟨g6, 0, .none⟩) (bs.map (Value.int .u8)) := by
        rw [← e1]; exact Rd.part (us := []) (vs := vs) (ts := .int .u8 32 :: hv) hwh8
      have f2 : Rd w8.heap.size w8 a0 (bs.map (Value.int .u8)) := by rw [← e1]; exact hr8
      have f3 : Rd w8.heap.size w8 (some ⟨g6, n, .none⟩) ((32 :: hz).map (Value.int .u8)) := by
        have := Rd.part (us := vs) (vs := .int .u8 32 :: hv) (ts := []) (by simpa using hwh8)
        rw [HVN.out] at this
        rw [List.map_cons, ← e2]; exact this
      have f4 : Rd w8.heap.size w8 (some ⟨g4, 0, .none⟩) ((32 :: hz).map (Value.int .u8)) := by rw [List.map_cons, ← e2]; exact hal8
      have f5 : Rd w8.heap.size w8 (some ⟨g6, kn, .none⟩) ((bs.drop kn ++ 32 :: hz).map (Value.int .u8)) := by
        have := Rd.part (us := vs.take kn) (vs := vs.drop kn ++ .int .u8 32 :: hv) (ts := []) (by rw [List.append_nil, ← List.append_assoc, List.take_append_drop]; exact hwh8)
        rw [List.length_take, HVN.out, Nat.min_eq_left hk1] at this
        rw [List.map_append, List.map_cons, ← e2, List.map_drop, ← e1]; exact this
      have f6 : Rd w8.heap.size w8 (some ⟨g8, 0, .none⟩) ((bs.drop kn ++ 32 :: hz).map (Value.int .u8)) := by
        rw [List.map_append, List.map_cons, ← e2, List.map_drop, ← e1]; simpa using htl8
      have HL := hide e3
      clear e1 e2 e3 hr8 hal8 hwh8 htl8
      have hnn : n + 33 - n = 33 := by omega
      rw [hnn] at hsl2
      go_wp2_with fail
      refine (same_two _ _ n n _ _ w8.heap.size bs _ (f1.drewN m) (f2.drewN m) HN.out HN.out (by omega)).mono ?_
      rintro e w9 ⟨rfl, m9, rfl⟩
      go_wp2_with fail
      refine (same_two _ _ 33 33 _ _ w8.heap.size (32 :: hz) _ (f3.drewN _) (f4.drewN _) (by simp [HL.out]) (by simp [HL.out]) (by omega)).mono ?_
      rintro e w10 ⟨rfl, m10, rfl⟩
      go_wp2_with fail
      refine (same_two _ _ (n + 33 - kn) (n - kn + 33) _ _ w8.heap.size (bs.drop kn ++ 32 :: hz) _ (f5.drewN _) (f6.drewN _) (by simp [HL.out, HN.out]; omega) (by simp [HL.out, HN.out]) (by omega)).mono ?_
      rintro e w11 ⟨rfl, m11, rfl⟩
      go_wp2
      go_ret
      exact ⟨rfl, below_drewN' hbw8 _⟩
end Go.Proofs.Qxb6613964aFmt
