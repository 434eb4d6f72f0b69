/-
  FnGivenTwiceAfterOneMoreName: the plain law, and the law's own walk.
-/
import Derived.Test.Qxb6613108aHelp
namespace Go.Proofs.Qxb6613108a
open Go.RowKit
set_option linter.unusedVariables false

/-! ### the plain law -/
theorem eqS_symm (x y : ByteArray) : eqS x y = (y.toList == x.toList) := by
  unfold eqS; rw [Bool.eq_iff_iff, beq_iff_eq, beq_iff_eq]; exact ⟨Eq.symm, Eq.symm⟩
theorem idx_snoc (x y : ByteArray) : ∀ (ss : List ByteArray) (k : Nat), idx x (ss ++ [y]) k = if idx x ss k = -1 then (if eqS x y then ((k + ss.length : Nat) : Int) else -1) else idx x ss k
  | [], k => by simp [idx]
  | s :: r, k => by
    rw [List.cons_append, idx_cons, idx_cons]
    by_cases h : eqS x s
    · rw [if_pos h, if_pos h, if_neg (by omega)]
    · rw [if_neg h, if_neg h, idx_snoc x y r (k + 1), List.length_cons]
      have : k + 1 + r.length = k + (r.length + 1) := by omega
      rw [this]
def inK (x : ByteArray) (ss : List ByteArray) : Bool := ss.any fun s => s.toList == x.toList
theorem inK_idx (x : ByteArray) : ∀ (ss : List ByteArray) (k : Nat), inK x ss = !decide (idx x ss k = -1)
  | [], k => by simp [inK, idx]
  | s :: r, k => by
    rw [idx_cons]
    have ih := inK_idx x r (k + 1)
    unfold inK at ih ⊢
    rw [List.any_cons, ih, ← eqS_symm]
    by_cases h : eqS x s
    · rw [if_pos h, h]; simp
    · rw [if_neg h]; simp [Bool.eq_false_iff.2 h]
theorem given_known {ss : List ByteArray} {ts : List Bool} {x : ByteArray} {t : Bool} (hl : ss.length = ts.length) (h : inK x ss = true) : given (ss ++ [x]) (ts ++ [t]) x = given ss ts x := by
  rw [inK_idx x ss 0] at h
  have hne : idx x ss 0 ≠ -1 := by simpa using h
  unfold given
  rw [idx_snoc, if_neg hne]
  rcases idx_bd x ss 0 with e | ⟨e1, e2⟩
  · exact absurd e hne
  · rw [if_pos (by omega), if_pos (by omega), List.getD_eq_getElem?_getD, List.getD_eq_getElem?_getD, List.getElem?_append_left (by omega)]
theorem given_new {ss : List ByteArray} {ts : List Bool} {x : ByteArray} {t : Bool} (hl : ss.length = ts.length) (h : inK x ss = false) : given (ss ++ [x]) (ts ++ [t]) x = t := by
  rw [inK_idx x ss 0] at h
  have he : idx x ss 0 = -1 := by simpa using h
  unfold given
  have e : idx x (ss ++ [x]) 0 = ((ss.length : Nat) : Int) := by rw [idx_snoc, if_pos he, if_pos (by simp [eqS])]; simp
  rw [e, if_pos (Int.natCast_nonneg _), List.getD_eq_getElem?_getD, Int.toNat_natCast, List.getElem?_append_right (by omega)]
  simp [hl]
theorem given_other {ss : List ByteArray} {ts : List Bool} {x y : ByteArray} {t : Bool} (hl : ss.length = ts.length) (h : (y.toList == x.toList) = false) : given (ss ++ [x]) (ts ++ [t]) y = given ss ts y := by
  have hy : eqS y x = false := h
  unfold given
  rcases idx_bd y ss 0 with e | ⟨e1, e2⟩
  · rw [idx_snoc, hy, e]; simp
  · have e : idx y (ss ++ [x]) 0 = idx y ss 0 := by rw [idx_snoc, if_neg (by omega)]
    rw [e, if_pos (by omega), if_pos (by omega), List.getD_eq_getElem?_getD, List.getD_eq_getElem?_getD, List.getElem?_append_left (by omega)]

/-! ### slices that are carried on -/
theorem Rd.step {w w' : World} {a : Option Addr} {vs : List Value} (h : Rd w.heap.size w a vs) (hb : Below w.heap.size w w') : Rd w'.heap.size w' a vs := (h.below hb).mono hb.size
structure SlS (w : World) (a : Option Addr) (n : Nat) (ss : List ByteArray) : Prop where
  rd : Rd w.heap.size w a (ss.map Value.string)
  len : ss.length = n
  nil : a = .none → n = 0
structure SlB (w : World) (a : Option Addr) (n : Nat) (ts : List Bool) : Prop where
  rd : Rd w.heap.size w a (ts.map Value.bool)
  len : ts.length = n
  nil : a = .none → n = 0
theorem SlS.step {w w' : World} {a : Option Addr} {n : Nat} {ss : List ByteArray} (h : SlS w a n ss) (hb : Below w.heap.size w w') : SlS w' a n ss := ⟨h.rd.step hb, h.len, h.nil⟩
theorem SlB.step {w w' : World} {a : Option Addr} {n : Nat} {ts : List Bool} (h : SlB w a n ts) (hb : Below w.heap.size w w') : SlB w' a n ts := ⟨h.rd.step hb, h.len, h.nil⟩
theorem own_nil {w : World} {base n cap : Nat} {e : TypeId} {a : Option Addr} {xs : List Value} (h : w.ownsRow base e 1 (.slice a n cap) n xs) : a = .none → n = 0 := by
  rintro rfl
  rcases h.2 with ⟨_, h⟩ | ⟨g, cap, cur, h, _⟩
  · exact h
  · cases h
theorem SlS.own {w : World} {base n cap : Nat} {e : TypeId} {a : Option Addr} {ss : List ByteArray} (h : w.ownsRow base e 1 (.slice a n cap) n (ss.map Value.string)) : SlS w a n ss := ⟨(Rd.own h).1, by simpa using (Rd.own h).2.2, own_nil h⟩
theorem SlB.own {w : World} {base n cap : Nat} {e : TypeId} {a : Option Addr} {ts : List Bool} (h : w.ownsRow base e 1 (.slice a n cap) n (ts.map Value.bool)) : SlB w a n ts := ⟨(Rd.own h).1, by simpa using (Rd.own h).2.2, own_nil h⟩
theorem Obj.step {w w' : World} {p g : Nat} {a : Option Addr} {n c m : Nat} {ts : List Bool} (h : Obj w p g a n c m ts) (hb : Below w.heap.size w w') : Obj w' p g a n c m ts := by
  refine ⟨?_, ?_, h.len, fun i b hi => ?_⟩
  · rw [hb.cell (p := ⟨p, 0, .none⟩) (cell_lt h.c0)]; exact h.c0
  · rw [hb.cell (p := ⟨p, 1, .none⟩) (cell_lt h.c1)]; exact h.c1
  · rw [hb.cell (p := ⟨g, i * 3 + 1, .none⟩) (cell_lt (h.flag i b hi))]; exact h.flag i b hi
theorem cloneS (a : Option Addr) (n c : Nat) (ss : List ByteArray) (w : World) (h : SlS w a n ss) (hlen : n ≤ 1048576) :
    Calls Try.prog 9 #[.slice a n c] w fun e w' => ∃ a', e = .returned (.slice a' n n) ∧ w'.ownsRow w.heap.size 9 1 (.slice a' n n) n (ss.map Value.string) ∧ Below w.heap.size w w' :=
  cloneS_any a n c w.heap.size ss w (Nat.le_refl _) h.rd h.len hlen h.nil
theorem cloneB (a : Option Addr) (n c : Nat) (ts : List Bool) (w : World) (h : SlB w a n ts) (hlen : n ≤ 1048576) :
    Calls Try.prog 10 #[.slice a n c] w fun e w' => ∃ a', e = .returned (.slice a' n n) ∧ w'.ownsRow w.heap.size 4 1 (.slice a' n n) n (ts.map Value.bool) ∧ Below w.heap.size w w' :=
  cloneB_any a n c w.heap.size ts w (Nat.le_refl _) h.rd h.len hlen h.nil
theorem own_shape {w : World} {base n : Nat} {e : TypeId} {v : Value} {xs : List Value} (h : w.ownsRow base e 1 v (n + 1) xs) : ∃ g cap, v = .slice (some ⟨g, 0, .none⟩) (n + 1) cap := by
  rcases h.2 with ⟨_, h2⟩ | ⟨g, cap, cur, h1, _⟩
  · omega
  · exact ⟨g, cap, h1⟩

set_option maxHeartbeats 4000000 in
set_option maxRecDepth 100000 in
theorem walk5_in (a b : Option Addr) (n c c' : Nat) (ss : List ByteArray) (ts : List Bool) (x y : ByteArray) (t : Bool) (w : World) (s0 : SlS w a n ss) (b0 : SlB w b n ts) (hn : n ≤ 65536)
    (hx : x.size ≤ 1048576) (hy : y.size ≤ 1048576) (hs : Hid (∀ s ∈ ss, s.size ≤ maxLen)) :
    Calls Try.prog 5 #[.slice a n c, .slice b n c', .string x, .bool t, .string y] w fun e w' => e = .returned (.bool true) ∧ Below w.heap.size w w' := by
  obtain ⟨i9, hi9, hz09, hz19, hz29⟩ := info_parts info9
  obtain ⟨i4, hi4, hz04, hz14, hz24⟩ := info_parts info4
  go_enter Try.func5, Try.ntmps5
  go_wp2_with fail
  refine (bytes7_any a b n c n c' w.heap.size ss x y t w s0.rd s0.len (by unfold maxLen; omega) (by unfold maxLen; omega) hs.out (by unfold maxLen; omega) (by unfold maxLen; omega)).mono ?_
  rintro e w' (⟨rfl, rfl⟩ | ⟨rfl, rfl, HSM⟩)
  · go_wp2
    go_ret
    exact ⟨rfl, Below.refl _ _⟩
  go_wp2_with fail
  refine (big_any a n c w.heap.size ss _ w s0.rd s0.len (by unfold maxLen; omega) HSM.out (by omega) (by omega)).mono ?_
  rintro e w' (⟨rfl, rfl⟩ | ⟨rfl, rfl, _⟩)
  · go_wp2
    go_ret
    exact ⟨rfl, Below.refl _ _⟩
  clear hs HSM
  go_wp2_with fail
  refine (cloneS a n c ss _ s0 (by omega)).mono ?_
  rintro e w1 ⟨km, rfl, rkm, hb⟩
  have skm1 := SlS.own rkm; have s1 := s0.step hb; have b1 := b0.step hb
  have B1 : Below w.heap.size w w1 := hb
  clear rkm s0 b0 hb
  go_wp2_with fail
  refine (cloneS a n c ss _ s1 (by omega)).mono ?_
  rintro e w2 ⟨kn, rfl, rkn, hb⟩
  have skn2 := SlS.own rkn; have skm2 := skm1.step hb; have b2 := b1.step hb
  have B2 : Below w.heap.size w w2 := B1.trans (hb.mono B1.size)
  clear rkn s1 skm1 b1 hb B1
  go_wp2_with fail
  refine (cloneB b n c' ts _ b2 (by omega)).mono ?_
  rintro e w3 ⟨tn, rfl, rtn, hb⟩
  have btn3 := SlB.own rtn; have skm3 := skm2.step hb; have skn3 := skn2.step hb
  have B3 : Below w.heap.size w w3 := B2.trans (hb.mono B2.size)
  clear rtn b2 skm2 skn2 hb B2
  go_wp2_with fail
  refine (cloneS kn n n ss _ skn3 (by omega)).mono ?_
  rintro e w4 ⟨k1, rfl, rk1, hb⟩
  have sk14 := SlS.own rk1; have skm4 := skm3.step hb; have skn4 := skn3.step hb; have btn4 := btn3.step hb
  have B4 : Below w.heap.size w w4 := B3.trans (hb.mono B3.size)
  clear rk1 skm3 skn3 btn3 hb B3
  go_wp2_with fail
  refine (cloneB tn n n ts _ btn4 (by omega)).mono ?_
  rintro e w5 ⟨t1, rfl, rt1, hb⟩
  have bt15 := SlB.own rt1; have skm5 := skm4.step hb; have skn5 := skn4.step hb; have btn5 := btn4.step hb; have sk15 := sk14.step hb
  have B5 : Below w.heap.size w w5 := B4.trans (hb.mono B4.size)
  clear rt1 skm4 skn4 btn4 sk14 hb B4
  go_wp2_with fail
  refine (cloneS kn n n ss _ skn5 (by omega)).mono ?_
  rintro e w6 ⟨k2, rfl, rk2, hb⟩
  have hbs : w5.heap.size ≤ (w6.alloc (.cells #[.string x] 9)).heap.size := by have := hb.size; simp; omega
  go_wp2_with (first
    | (at_builtin; go_must (refine wpList_append_own _ rfl (.tmp 68) (.tmp 70) 29 rfl w5.heap.size 9 i9 (.string ByteArray.empty) 1 16 Try.underlying29 hi9 hz09 hz19 hz29 rfl (by decide) _ n _ rfl (rk2.alloc _) ⟨w6.heap.size, 0, .none⟩ 1 1 [.string x] rfl rfl (cell_one_new _ _ _) (fun u hu => by simp at hu; subst hu; rfl) (by unfold maxLen; omega) (by omega) hbs ?_); intro v7 w7 hrow7 hg7 _)
    | fail)
  obtain ⟨g2, c2, hv2⟩ := own_shape hrow7
  subst hv2
  have hb67 : Below w5.heap.size w5 w7 := (hb.alloc hb.size _).grown hg7 hbs (fun k hk => (rk2.lt k hk).1)
  have sk27 : SlS w7 (some ⟨g2, 0, .none⟩) (n + 1) (ss ++ [x]) := SlS.own (by simpa using hrow7)
  have bt17 := bt15.step hb67; have skm7 := skm5.step hb67; have btn7 := btn5.step hb67; have sk17 := sk15.step hb67
  have B7 : Below w.heap.size w w7 := B5.trans (hb67.mono B5.size)
  clear hrow7 hg7 rk2 hb hbs hb67 bt15 skm5 skn5 btn5 sk15 B5
  refine (cloneB tn n n ts _ btn7 (by omega)).mono ?_
  rintro e w8 ⟨t2, rfl, rt2, hb⟩
  have hbs : w7.heap.size ≤ (w8.alloc (.cells #[.bool t] 4)).heap.size := by have := hb.size; simp; omega
  go_wp2_with (first
    | (at_builtin; go_must (refine wpList_append_own _ rfl (.tmp 73) (.tmp 75) 30 rfl w7.heap.size 4 i4 (.bool false) 1 1 Try.underlying30 hi4 hz04 hz14 hz24 rfl (by decide) _ n _ rfl (rt2.alloc _) ⟨w8.heap.size, 0, .none⟩ 1 1 [.bool t] rfl rfl (cell_one_new _ _ _) (fun u hu => by simp at hu; subst hu; rfl) (by unfold maxLen; omega) (by omega) hbs ?_); intro v9 w9 hrow9 hg9 _)
    | fail)
  obtain ⟨g3, c3, hv3⟩ := own_shape hrow9
  subst hv3
  have hb89 : Below w7.heap.size w7 w9 := (hb.alloc hb.size _).grown hg9 hbs (fun k hk => (rt2.lt k hk).1)
  have bt29 : SlB w9 (some ⟨g3, 0, .none⟩) (n + 1) (ts ++ [t]) := SlB.own (by simpa using hrow9)
  have bt19 := bt17.step hb89; have skm9 := skm7.step hb89; have sk19 := sk17.step hb89; have sk29 := sk27.step hb89
  have B9 : Below w.heap.size w w9 := B7.trans (hb89.mono B7.size)
  clear hrow9 hg9 rt2 hb hbs hb89 bt17 skm7 sk17 sk27 btn7 B7
  refine (new_any k1 t1 n n n n w9.heap.size ts _ (Nat.le_refl _) bt19.rd bt19.len (by omega)).mono ?_
  rintro e w10 ⟨p1, q1, rfl, O110, hb⟩
  have bt210 := bt29.step hb; have skm10 := skm9.step hb; have sk110 := sk19.step hb; have sk210 := sk29.step hb
  have B10 : Below w.heap.size w w10 := B9.trans (hb.mono B9.size)
  clear bt19 bt29 skm9 sk19 sk29 hb B9
  go_wp2_with fail
  refine (new_any (some ⟨g2, 0, .none⟩) (some ⟨g3, 0, .none⟩) (n + 1) c2 (n + 1) c3 w10.heap.size (ts ++ [t]) _ (Nat.le_refl _) bt210.rd bt210.len (by omega)).mono ?_
  rintro e w11 ⟨p2, q2, rfl, O2, hb⟩
  have skm := skm10.step hb; have sk1 := sk110.step hb; have sk2 := sk210.step hb; have O1 := O110.step hb
  have BB : Below w.heap.size w w11 := B10.trans (hb.mono B10.size)
  clear bt210 skm10 sk110 sk210 O110 hb B10
  go_wp2_with fail
  have hts : ss.length = ts.length := by rw [sk1.len]; exact O1.len.symm
  have HTS := hide hts
  clear hts
  go_loop [18, 19] (fun f i => ∃ k : Nat, k ≤ n ∧ i = .int .i64 k ∧ f = .bool (inK x (ss.take k))) (fun _ i => n - (intOf i).toNat)
  case atStart => exact ⟨0, Nat.zero_le _, rfl, by simp [inK]⟩
  case round =>
    obtain ⟨k, hk, rfl, rfl⟩ := hrel
    by_cases hlt : k < n
    · have hkl := skm.len
      rcases skm.rd with h | ⟨b, off, rfl, _, hc⟩
      · simp at h; subst h; simp at hkl; omega
      · obtain ⟨s, hs'⟩ : ∃ s, ss[k]? = some s := ⟨_, List.getElem?_eq_getElem (by omega)⟩
        have c1 : w11.cell? ⟨b, off + k, .none⟩ = some (.string s) := hc k _ (by simp [hs'])
        have hst : inK x (ss.take (k + 1)) = (inK x (ss.take k) || (s.toList == x.toList)) := by
          have hlt' : k < ss.length := by omega
          rw [List.getElem?_eq_getElem hlt'] at hs'
          cases hs'
          unfold inK
          rw [List.take_succ_eq_append_getElem hlt', List.any_append]
          simp
        have HST := hide hst
        clear hs' hc hst hkl skm sk1 sk2 O1 O2
        obtain ⟨ik, hik⟩ : ∃ ik, ik = inK x (ss.take k) := ⟨_, rfl⟩
        rw [← hik]
        have HIK := hide hik
        clear hik
        cases he : (s.toList == x.toList)
        · go_wp2
          go_round
          case rel => exact ⟨k + 1, by omega, by go_num, by rw [HST.out, he, HIK.out, Bool.or_false]⟩
          case measure => simp [intOf]; omega
        · go_wp2
          go_round
          case rel => exact ⟨k + 1, by omega, by go_num, by rw [HST.out, he, Bool.or_true]⟩
          case measure => simp [intOf]; omega
    · have hall : ss.take k = ss := List.take_of_length_le (by have := skm.len; omega)
      rw [hall]
      have G1 := hide (zzGiven_any p1 q1 k1 n n w11.heap.size ss ts x w11 O1 sk1.rd sk1.len (by omega))
      have G2 := hide (zzGiven_any p2 q2 (some ⟨g2, 0, .none⟩) (n + 1) c2 w11.heap.size (ss ++ [x]) (ts ++ [t]) x w11 O2 sk2.rd sk2.len (by omega))
      have G3 := hide (zzGiven_any p2 q2 (some ⟨g2, 0, .none⟩) (n + 1) c2 w11.heap.size (ss ++ [x]) (ts ++ [t]) y w11 O2 sk2.rd sk2.len (by omega))
      have G4 := hide (zzGiven_any p1 q1 k1 n n w11.heap.size ss ts y w11 O1 sk1.rd sk1.len (by omega))
      clear hall skm sk1 sk2 O1 O2
      obtain ⟨r1, hr1⟩ : ∃ r, r = given ss ts x := ⟨_, rfl⟩
      obtain ⟨r4, hr4⟩ : ∃ r, r = given ss ts y := ⟨_, rfl⟩
      rw [← hr1] at G1
      rw [← hr4] at G4
      have N1 : (r1 != r1) = false := by simp
      have N4 : (r4 != r4) = false := by simp
      have NT : (t != t) = false := by simp
      cases hI : inK x ss
      · rw [given_new HTS.out hI] at G2
        cases he : (y.toList == x.toList)
        · rw [given_other HTS.out he, ← hr4] at G3
          clear hr1 hr4 hI
          go_wp2_with fail
          refine G1.out.mono ?_
          rintro e w' ⟨rfl, rfl⟩
          go_wp2_with fail
          refine G2.out.mono ?_
          rintro e w' ⟨rfl, rfl⟩
          go_wp2_with fail
          refine G3.out.mono ?_
          rintro e w' ⟨rfl, rfl⟩
          go_wp2_with fail
          refine G4.out.mono ?_
          rintro e w' ⟨rfl, rfl⟩
          go_wp2
          go_ret
          exact ⟨rfl, BB⟩
        · clear hr1 hr4 hI G3 G4
          go_wp2_with fail
          refine G1.out.mono ?_
          rintro e w' ⟨rfl, rfl⟩
          go_wp2_with fail
          refine G2.out.mono ?_
          rintro e w' ⟨rfl, rfl⟩
          go_wp2
          go_ret
          exact ⟨rfl, BB⟩
      · rw [given_known HTS.out hI, ← hr1] at G2
        cases he : (y.toList == x.toList)
        · rw [given_other HTS.out he, ← hr4] at G3
          clear hr1 hr4 hI
          go_wp2_with fail
          refine G1.out.mono ?_
          rintro e w' ⟨rfl, rfl⟩
          go_wp2_with fail
          refine G2.out.mono ?_
          rintro e w' ⟨rfl, rfl⟩
          go_wp2_with fail
          refine G3.out.mono ?_
          rintro e w' ⟨rfl, rfl⟩
          go_wp2_with fail
          refine G4.out.mono ?_
          rintro e w' ⟨rfl, rfl⟩
          go_wp2
          go_ret
          exact ⟨rfl, BB⟩
        · clear hr1 hr4 hI G3 G4
          go_wp2_with fail
          refine G1.out.mono ?_
          rintro e w' ⟨rfl, rfl⟩
          go_wp2_with fail
          refine G2.out.mono ?_
          rintro e w' ⟨rfl, rfl⟩
          go_wp2
          go_ret
          exact ⟨rfl, BB⟩

set_option maxHeartbeats 4000000 in
set_option maxRecDepth 100000 in
/-- Outside the law's own bounds it says true at once. -/
theorem walk5_out (a b : Option Addr) (n c m c' : Nat) (ss : List ByteArray) (x y : ByteArray) (t : Bool) (w : World) (s0 : SlS w a n ss) (hm : n ≤ maxLen) (hm' : m ≤ maxLen) (hs : Hid (∀ s ∈ ss, s.size ≤ maxLen)) (hx : x.size ≤ maxLen) (hy : y.size ≤ maxLen)
    (h : ¬ (n ≤ 65536 ∧ m = n ∧ x.size ≤ 1048576 ∧ y.size ≤ 1048576)) :
    Calls Try.prog 5 #[.slice a n c, .slice b m c', .string x, .bool t, .string y] w fun e w' => e = .returned (.bool true) ∧ Below w.heap.size w w' := by
  have HB := hide (bytes7_any a b n c m c' w.heap.size ss x y t w s0.rd s0.len hm hm' hs.out hx hy)
  by_cases g1 : 1048576 < (m : Int)
  · clear h
    go_enter Try.func5, Try.ntmps5
    go_wp2_with fail
    refine HB.out.mono ?_
    rintro e w' (⟨rfl, rfl⟩ | ⟨rfl, rfl, HSM⟩)
    all_goals
      go_wp2
      go_ret
      exact ⟨rfl, Below.refl _ _⟩
  by_cases g2 : 1048576 < (x.size : Int)
  · clear h
    go_enter Try.func5, Try.ntmps5
    go_wp2_with fail
    refine HB.out.mono ?_
    rintro e w' (⟨rfl, rfl⟩ | ⟨rfl, rfl, HSM⟩)
    all_goals
      go_wp2
      go_ret
      exact ⟨rfl, Below.refl _ _⟩
  by_cases g3 : 1048576 < (y.size : Int)
  · clear h
    go_enter Try.func5, Try.ntmps5
    go_wp2_with fail
    refine HB.out.mono ?_
    rintro e w' (⟨rfl, rfl⟩ | ⟨rfl, rfl, HSM⟩)
    all_goals
      go_wp2
      go_ret
      exact ⟨rfl, Below.refl _ _⟩
  go_enter Try.func5, Try.ntmps5
  go_wp2_with fail
  refine HB.out.mono ?_
  rintro e w' (⟨rfl, rfl⟩ | ⟨rfl, rfl, HSM⟩)
  · go_wp2
    go_ret
    exact ⟨rfl, Below.refl _ _⟩
  go_wp2_with fail
  refine (big_any a n c w.heap.size ss _ w s0.rd s0.len hm HSM.out (by omega) (by omega)).mono ?_
  rintro e w' (⟨rfl, rfl⟩ | ⟨rfl, rfl, hn⟩)
  · go_wp2
    go_ret
    exact ⟨rfl, Below.refl _ _⟩
  · have hne : ((n : Int) != (m : Int)) = true := by rw [bne_iff_ne]; omega
    clear h
    go_wp2
    go_ret
    exact ⟨rfl, Below.refl _ _⟩
end Go.Proofs.Qxb6613108a
