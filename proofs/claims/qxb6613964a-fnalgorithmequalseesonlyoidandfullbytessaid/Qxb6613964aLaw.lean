/-
  FnAlgorithmEqualSeesOnlyOIDAndFullBytes: the law's own walk.
-/
import Derived.Test.Qxb6613964aHelp
namespace Go.Proofs.Qxb6613964a
open Go.RowKit
set_option linter.unusedVariables false

theorem cell_lt {w : World} {b o : Nat} {v : Value} (h : w.cell? ⟨b, o, .none⟩ = some v) : b < w.heap.size := by
  by_cases hb : b < w.heap.size
  · exact hb
  · exfalso
    simp [World.cell?, Array.getElem?_eq_none (Nat.le_of_not_lt hb)] at h
theorem Rd.step {w w' : World} {a : Option Addr} {vs : List Value} (h : Rd w.heap.size w a vs) (hb : Below w.heap.size w w') : Rd w'.heap.size w' a vs := (h.below hb).mono hb.size
theorem Alg.step {w w' : World} {p : Nat} {o f : Value} (h : Alg w p o f) (hb : Below w.heap.size w w') : Alg w' p o f :=
  ⟨by rw [hb.cell (p := ⟨p, 0, .none⟩) (cell_lt h.1)]; exact h.1, by rw [hb.cell (p := ⟨p, 5, .none⟩) (cell_lt h.1)]; exact h.2⟩
theorem Rd.drewN {B : Nat} {w : World} {a : Option Addr} {vs : List Value} (h : Rd B w a vs) (m : Nat) : Rd B (w.drewN m) a vs := h
theorem Alg.drewN {w : World} {p : Nat} {o f : Value} (h : Alg w p o f) (m : Nat) : Alg (w.drewN m) p o f := h
theorem below_drewN' {B : Nat} {w w' : World} (h : Below B w w') (m : Nat) : Below B w (w'.drewN m) := ⟨h.os, h.tape, h.output, h.size, h.block⟩

/-- A slice of numbers, its own: what it reads as, its length; nil has none. -/
structure Sl (k : IntKind) (w : World) (a : Option Addr) (n : Nat) (xs : List Int) : Prop where
  rd : Rd w.heap.size w a (xs.map (Value.int k))
  len : xs.length = n
  nil : a = .none → n = 0
theorem Sl.step {k : IntKind} {w w' : World} {a : Option Addr} {n : Nat} {xs : List Int} (h : Sl k w a n xs) (hb : Below w.heap.size w w') : Sl k w' a n xs := ⟨h.rd.step hb, h.len, h.nil⟩
theorem Sl.own {k : IntKind} {w : World} {base : Nat} {e : TypeId} {a : Option Addr} {n : Nat} {xs : List Int} (h : w.ownsRow base e 1 (.slice a n n) n (xs.map (Value.int k))) : Sl k w a n xs := by
  refine ⟨(Rd.own h).1, by simpa using (Rd.own h).2.2, ?_⟩
  rintro rfl
  rcases h.2 with ⟨_, h⟩ | ⟨g, cap, cur, h, _⟩
  · exact h
  · cases h
theorem cloneI (a : Option Addr) (n c : Nat) (xs : List Int) (w : World) (h : Sl .i64 w a n xs) (hlen : n ≤ 1048576) :
    Calls Try.prog 5 #[.slice a n c] w fun e w' => ∃ a', e = .returned (.slice a' n n) ∧ Sl .i64 w' a' n xs ∧ Below w.heap.size w w' :=
  (cloneI_any a n c w.heap.size _ w (Nat.le_refl _) h.rd (by simpa using h.len) hlen (ints_oneCell .i64 xs) h.nil).mono fun e w' ⟨a', h1, h2, h3⟩ => ⟨a', h1, Sl.own h2, h3⟩
theorem cloneB (a : Option Addr) (n c : Nat) (xs : List Int) (w : World) (h : Sl .u8 w a n xs) (hlen : n ≤ 1048576) :
    Calls Try.prog 6 #[.slice a n c] w fun e w' => ∃ a', e = .returned (.slice a' n n) ∧ Sl .u8 w' a' n xs ∧ Below w.heap.size w w' :=
  (cloneB_any a n c w.heap.size _ w (Nat.le_refl _) h.rd (by simpa using h.len) hlen (ints_oneCell .u8 xs) h.nil).mono fun e w' ⟨a', h1, h2, h3⟩ => ⟨a', h1, Sl.own h2, h3⟩
theorem insI (a : Option Addr) (n c kn : Nat) (x : Int) (xs : List Int) (w : World) (h : Sl .i64 w a n xs) (hlen : n ≤ 1048576) (hk : kn ≤ n) :
    Calls Try.prog 8 #[.slice a n c, .int .i64 (kn : Int), .int .i64 x] w fun e w' => ∃ g cap, e = .returned (.slice (some ⟨g, 0, .none⟩) (n + 1) cap) ∧ Below w.heap.size w w' :=
  (insertI_any a n c w.heap.size xs kn x w (Nat.le_refl _) h.rd h.len hlen hk).mono fun e w' ⟨g, cap, h1, _, h3⟩ => ⟨g, cap, h1, h3⟩
theorem insB (a : Option Addr) (n c kn : Nat) (x : Int) (xs : List Int) (w : World) (h : Sl .u8 w a n xs) (hlen : n ≤ 1048576) (hk : kn ≤ n) :
    Calls Try.prog 9 #[.slice a n c, .int .i64 (kn : Int), .int .u8 x] w fun e w' => ∃ g cap, e = .returned (.slice (some ⟨g, 0, .none⟩) (n + 1) cap) ∧ (∃ ys : List Int, Sl .u8 w' (some ⟨g, 0, .none⟩) (n + 1) ys) ∧ Below w.heap.size w w' :=
  (insertB_any a n c w.heap.size xs kn x w (Nat.le_refl _) h.rd h.len hlen hk).mono fun e w' ⟨g, cap, h1, ⟨ys, h2, h4⟩, h3⟩ => ⟨g, cap, h1, ⟨ys, (Rd.own h4).1, h2, fun h => by cases h⟩, h3⟩

set_option maxHeartbeats 4000000 in
set_option maxRecDepth 100000 in
theorem walk3_in (a0 a4 a5 a9 : Option Addr) (n0 c0 n4 c4 n5 c5 n9 c9 : Nat) (a1 a2 a6 a7 a11 : Int) (kn : Nat) (a3 a8 : Bool) (x0 x4 x5 x9 : List Int) (w : World)
    (s0 : Sl .i64 w a0 n0 x0) (s4 : Sl .u8 w a4 n4 x4) (s5 : Sl .u8 w a5 n5 x5) (s9 : Sl .u8 w a9 n9 x9) (b0 : n0 ≤ 32768) (b4 : n4 ≤ 131072) (b5 : n5 ≤ 131072) (b9 : n9 ≤ 131072) (hk : kn ≤ n0) :
    Calls Try.prog 3 #[.slice a0 n0 c0, .int .i64 a1, .int .i64 a2, .bool a3, .slice a4 n4 c4, .slice a5 n5 c5, .int .i64 a6, .int .i64 a7, .bool a8, .slice a9 n9 c9, .int .i64 (kn : Int), .int .i64 a11] w fun e w' => e = .returned (.bool true) ∧ Below w.heap.size w w' := by
  go_enter Try.func3, Try.ntmps3
  go_wp2_with fail
  refine (bytes4_any a0 a4 a5 a9 n0 c0 n4 c4 n5 c5 n9 c9 a1 a2 a6 a7 kn a11 a3 a8 w (by unfold maxLen; omega) (by unfold maxLen; omega) (by unfold maxLen; omega) (by unfold maxLen; omega)).mono ?_
  rintro e w' ⟨rfl | rfl, rfl⟩
  · go_wp2
    go_ret
    exact ⟨rfl, Below.refl _ _⟩
  go_wp2_with fail
  refine (cloneI a0 n0 c0 x0 _ s0 (by omega)).mono ?_
  rintro e w1 ⟨o1, rfl, so1, hb1⟩
  have s41 := s4.step hb1; have s51 := s5.step hb1; have s91 := s9.step hb1
  have B1 : Below w.heap.size w w1 := hb1
  clear s0 s4 s5 s9 hb1
  go_wp2_with fail
  refine (cloneB a4 n4 c4 x4 _ s41 (by omega)).mono ?_
  rintro e w2 ⟨r1, rfl, sr2, hb2⟩
  have so2 := so1.step hb2; have s52 := s51.step hb2; have s92 := s91.step hb2
  have B2 : Below w.heap.size w w2 := B1.trans (hb2.mono B1.size)
  clear so1 s41 s51 s91 hb2 B1
  go_wp2_with fail
  refine (cloneB a5 n5 c5 x5 _ s52 (by omega)).mono ?_
  rintro e w3 ⟨f1, rfl, sf3, hb3⟩
  have so3 := so2.step hb3; have sr3 := sr2.step hb3; have s93 := s92.step hb3
  have B3 : Below w.heap.size w w3 := B2.trans (hb3.mono B2.size)
  clear so2 sr2 s52 s92 hb3 B2
  go_wp2_with fail
  refine (cloneB a9 n9 c9 x9 _ s93 (by omega)).mono ?_
  rintro e w4 ⟨q1, rfl, sq4, hb4⟩
  have so4 := so3.step hb4; have sr4 := sr3.step hb4; have sf4 := sf3.step hb4
  have B4 : Below w.heap.size w w4 := B3.trans (hb4.mono B3.size)
  clear so3 sr3 sf3 s93 hb4 B3
  have hkc : (kn ≤ n5) ∨ (n5 < kn) := by omega
  rcases hkc with hc | hc
  all_goals
    go_wp2_with fail
    refine (cloneI o1 n0 n0 x0 _ so4 (by omega)).mono ?_
    rintro e w5 ⟨o2, rfl, to25, hb⟩
    have so5 := so4.step hb; have sr5 := sr4.step hb; have sf5 := sf4.step hb; have sq5 := sq4.step hb
    have B5 : Below w.heap.size w w5 := B4.trans (hb.mono B4.size)
    clear so4 sr4 sf4 sq4 hb B4
    go_wp2_with fail
    refine (cloneB r1 n4 n4 x4 _ sr5 (by omega)).mono ?_
    rintro e w6 ⟨r2, rfl, tr26, hb⟩
    have so6 := so5.step hb; have sr6 := sr5.step hb; have sf6 := sf5.step hb; have sq6 := sq5.step hb; have to26 := to25.step hb
    have B6 : Below w.heap.size w w6 := B5.trans (hb.mono B5.size)
    clear so5 sr5 sf5 sq5 to25 hb B5
    go_wp2_with fail
    refine (cloneB f1 n5 n5 x5 _ sf6 (by omega)).mono ?_
    rintro e w7 ⟨f2, rfl, tf27, hb⟩
    have so7 := so6.step hb; have sr7 := sr6.step hb; have sf7 := sf6.step hb; have sq7 := sq6.step hb; have to27 := to26.step hb; have tr27 := tr26.step hb
    have B7 : Below w.heap.size w w7 := B6.trans (hb.mono B6.size)
    clear so6 sr6 sf6 sq6 to26 tr26 hb B6
    go_wp2_with fail
    refine (new_any o2 r2 f2 n0 n0 n4 n4 n5 n5 a1 a2 a3 _).mono ?_
    rintro e w8 ⟨rfl, A18, hb, hltA1⟩
    have so8 := so7.step hb; have sr8 := sr7.step hb; have sf8 := sf7.step hb; have sq8 := sq7.step hb; have to28 := to27.step hb; have tr28 := tr27.step hb; have tf28 := tf27.step hb
    have B8 : Below w.heap.size w w8 := B7.trans (hb.mono B7.size)
    clear so7 sr7 sf7 sq7 to27 tr27 tf27 hb B7
    go_wp2_with fail
    refine (cloneI o1 n0 n0 x0 _ so8 (by omega)).mono ?_
    rintro e w9 ⟨o3, rfl, to39, hb⟩
    have so9 := so8.step hb; have sr9 := sr8.step hb; have sf9 := sf8.step hb; have sq9 := sq8.step hb; have to29 := to28.step hb; have tr29 := tr28.step hb; have tf29 := tf28.step hb; have A19 := A18.step hb
    have B9 : Below w.heap.size w w9 := B8.trans (hb.mono B8.size)
    clear so8 sr8 sf8 sq8 to28 tr28 tf28 A18 hb B8
    go_wp2_with fail
    refine (cloneB q1 n9 n9 x9 _ sq9 (by omega)).mono ?_
    rintro e w10 ⟨q3, rfl, tq310, hb⟩
    have so10 := so9.step hb; have sr10 := sr9.step hb; have sf10 := sf9.step hb; have sq10 := sq9.step hb; have to210 := to29.step hb; have tr210 := tr29.step hb; have tf210 := tf29.step hb; have to310 := to39.step hb; have A110 := A19.step hb
    have B10 : Below w.heap.size w w10 := B9.trans (hb.mono B9.size)
    clear so9 sr9 sf9 sq9 to29 tr29 tf29 to39 A19 hb B9
    go_wp2_with fail
    refine (cloneB f1 n5 n5 x5 _ sf10 (by omega)).mono ?_
    rintro e w11 ⟨f3, rfl, tf311, hb⟩
    have so11 := so10.step hb; have sr11 := sr10.step hb; have sf11 := sf10.step hb; have sq11 := sq10.step hb; have to211 := to210.step hb; have tr211 := tr210.step hb; have tf211 := tf210.step hb; have to311 := to310.step hb; have tq311 := tq310.step hb; have A111 := A110.step hb
    have B11 : Below w.heap.size w w11 := B10.trans (hb.mono B10.size)
    clear so10 sr10 sf10 sq10 to210 tr210 tf210 to310 tq310 A110 hb B10
    go_wp2_with fail
    refine (new_any o3 q3 f3 n0 n0 n9 n9 n5 n5 a6 a7 a8 _).mono ?_
    rintro e w12 ⟨rfl, A212, hb, hltA2⟩
    have so12 := so11.step hb; have sr12 := sr11.step hb; have sf12 := sf11.step hb; have sq12 := sq11.step hb; have to212 := to211.step hb; have tr212 := tr211.step hb; have tf212 := tf211.step hb; have to312 := to311.step hb; have tq312 := tq311.step hb; have tf312 := tf311.step hb; have A112 := A111.step hb
    have B12 : Below w.heap.size w w12 := B11.trans (hb.mono B11.size)
    clear so11 sr11 sf11 sq11 to211 tr211 tf211 to311 tq311 tf311 A111 hb B11
    go_wp2_with fail
    refine (insI o1 n0 n0 kn a11 x0 _ so12 (by omega) hk).mono ?_
    rintro e w13 ⟨g4, c4', rfl, hb⟩
    have so13 := so12.step hb; have sr13 := sr12.step hb; have sf13 := sf12.step hb; have sq13 := sq12.step hb; have to213 := to212.step hb; have tr213 := tr212.step hb; have tf213 := tf212.step hb; have to313 := to312.step hb; have tq313 := tq312.step hb; have tf313 := tf312.step hb; have A113 := A112.step hb; have A213 := A212.step hb
    have B13 : Below w.heap.size w w13 := B12.trans (hb.mono B12.size)
    clear so12 sr12 sf12 sq12 to212 tr212 tf212 to312 tq312 tf312 A112 A212 hb B12
    go_wp2_with fail
    refine (cloneB r1 n4 n4 x4 _ sr13 (by omega)).mono ?_
    rintro e w14 ⟨r4, rfl, tr414, hb⟩
    have so14 := so13.step hb; have sr14 := sr13.step hb; have sf14 := sf13.step hb; have sq14 := sq13.step hb; have to214 := to213.step hb; have tr214 := tr213.step hb; have tf214 := tf213.step hb; have to314 := to313.step hb; have tq314 := tq313.step hb; have tf314 := tf313.step hb; have A114 := A113.step hb; have A214 := A213.step hb
    have B14 : Below w.heap.size w w14 := B13.trans (hb.mono B13.size)
    clear so13 sr13 sf13 sq13 to213 tr213 tf213 to313 tq313 tf313 A113 A213 hb B13
    go_wp2_with fail
    refine (cloneB f1 n5 n5 x5 _ sf14 (by omega)).mono ?_
    rintro e w15 ⟨f4, rfl, tf415, hb⟩
    have so15 := so14.step hb; have sr15 := sr14.step hb; have sf15 := sf14.step hb; have sq15 := sq14.step hb; have to215 := to214.step hb; have tr215 := tr214.step hb; have tf215 := tf214.step hb; have to315 := to314.step hb; have tq315 := tq314.step hb; have tf315 := tf314.step hb; have tr415 := tr414.step hb; have A115 := A114.step hb; have A215 := A214.step hb
    have B15 : Below w.heap.size w w15 := B14.trans (hb.mono B14.size)
    clear so14 sr14 sf14 sq14 to214 tr214 tf214 to314 tq314 tf314 tr414 A114 A214 hb B14
    go_wp2_with fail
    refine (new_any (some ⟨g4, 0, .none⟩) r4 f4 (n0 + 1) c4' n4 n4 n5 n5 a1 a2 a3 _).mono ?_
    rintro e w16 ⟨rfl, A316, hb, hltA3⟩
    have so16 := so15.step hb; have sr16 := sr15.step hb; have sf16 := sf15.step hb; have sq16 := sq15.step hb; have to216 := to215.step hb; have tr216 := tr215.step hb; have tf216 := tf215.step hb; have to316 := to315.step hb; have tq316 := tq315.step hb; have tf316 := tf315.step hb; have tr416 := tr415.step hb; have tf416 := tf415.step hb; have A116 := A115.step hb; have A216 := A215.step hb
    have B16 : Below w.heap.size w w16 := B15.trans (hb.mono B15.size)
    clear so15 sr15 sf15 sq15 to215 tr215 tf215 to315 tq315 tf315 tr415 tf415 A115 A215 hb B15
    go_wp2_with fail
    refine (cloneI o1 n0 n0 x0 _ so16 (by omega)).mono ?_
    rintro e w17 ⟨o5, rfl, to517, hb⟩
    have so17 := so16.step hb; have sr17 := sr16.step hb; have sf17 := sf16.step hb; have sq17 := sq16.step hb; have to217 := to216.step hb; have tr217 := tr216.step hb; have tf217 := tf216.step hb; have to317 := to316.step hb; have tq317 := tq316.step hb; have tf317 := tf316.step hb; have tr417 := tr416.step hb; have tf417 := tf416.step hb; have A117 := A116.step hb; have A217 := A216.step hb; have A317 := A316.step hb
    have B17 : Below w.heap.size w w17 := B16.trans (hb.mono B16.size)
    clear so16 sr16 sf16 sq16 to216 tr216 tf216 to316 tq316 tf316 tr416 tf416 A116 A216 A316 hb B16
    go_wp2_with fail
    refine (cloneB r1 n4 n4 x4 _ sr17 (by omega)).mono ?_
    rintro e w18 ⟨r5, rfl, tr518, hb⟩
    have so18 := so17.step hb; have sr18 := sr17.step hb; have sf18 := sf17.step hb; have sq18 := sq17.step hb; have to218 := to217.step hb; have tr218 := tr217.step hb; have tf218 := tf217.step hb; have to318 := to317.step hb; have tq318 := tq317.step hb; have tf318 := tf317.step hb; have tr418 := tr417.step hb; have tf418 := tf417.step hb; have to518 := to517.step hb; have A118 := A117.step hb; have A218 := A217.step hb; have A318 := A317.step hb
    have B18 : Below w.heap.size w w18 := B17.trans (hb.mono B17.size)
    clear so17 sr17 sf17 sq17 to217 tr217 tf217 to317 tq317 tf317 tr417 tf417 to517 A117 A217 A317 hb B17
    go_wp2_with fail
    refine (insB f1 n5 n5 _ _ x5 _ sf18 (by omega) (by omega)).mono ?_
    rintro e w19 ⟨g5, c5', rfl, ⟨ys, tf519⟩, hb⟩
    have so19 := so18.step hb; have sr19 := sr18.step hb; have sf19 := sf18.step hb; have sq19 := sq18.step hb; have to219 := to218.step hb; have tr219 := tr218.step hb; have tf219 := tf218.step hb; have to319 := to318.step hb; have tq319 := tq318.step hb; have tf319 := tf318.step hb; have tr419 := tr418.step hb; have tf419 := tf418.step hb; have to519 := to518.step hb; have tr519 := tr518.step hb; have A119 := A118.step hb; have A219 := A218.step hb; have A319 := A318.step hb
    have B19 : Below w.heap.size w w19 := B18.trans (hb.mono B18.size)
    clear so18 sr18 sf18 sq18 to218 tr218 tf218 to318 tq318 tf318 tr418 tf418 to518 tr518 A118 A218 A318 hb B18
    go_wp2_with fail
    refine (new_any o5 r5 (some ⟨g5, 0, .none⟩) n0 n0 n4 n4 (n5 + 1) c5' a1 a2 a3 _).mono ?_
    rintro e w20 ⟨rfl, A420, hb, hltA4⟩
    have so20 := so19.step hb; have sr20 := sr19.step hb; have sf20 := sf19.step hb; have sq20 := sq19.step hb; have to220 := to219.step hb; have tr220 := tr219.step hb; have tf220 := tf219.step hb; have to320 := to319.step hb; have tq320 := tq319.step hb; have tf320 := tf319.step hb; have tr420 := tr419.step hb; have tf420 := tf419.step hb; have to520 := to519.step hb; have tr520 := tr519.step hb; have tf520 := tf519.step hb; have A120 := A119.step hb; have A220 := A219.step hb; have A320 := A319.step hb
    have B20 : Below w.heap.size w w20 := B19.trans (hb.mono B19.size)
    clear so19 sr19 sf19 sq19 to219 tr219 tf219 to319 tq319 tf319 tr419 tf419 to519 tr519 tf519 A119 A219 A319 hb B19
    go_wp2_with fail
    refine (zz_any _ _ true _ (equal_yes w7.heap.size w11.heap.size o2 o3 f2 f3 n0 n0 n0 n5 n5 n5 w20.heap.size x0 x5 w20 A120 A220 to220.rd to320.rd to220.len tf220.rd tf320.rd tf220.len (by omega))).mono ?_
    rintro e w' ⟨rfl, m1, rfl⟩
    go_wp2_with fail
    refine (zz_any _ _ true _ (equal_yes w11.heap.size w7.heap.size o3 o2 f3 f2 n0 n0 n0 n5 n5 n5 w20.heap.size x0 x5 _ (A220.drewN _) (A120.drewN _) (to320.rd.drewN _) (to220.rd.drewN _) to220.len (tf320.rd.drewN _) (tf220.rd.drewN _) tf220.len (by omega))).mono ?_
    rintro e w' ⟨rfl, m2, rfl⟩
    go_wp2_with fail
    refine (zz_any _ _ false _ (equal_oid w7.heap.size w15.heap.size o2 (some ⟨g4, 0, .none⟩) f2 f4 n0 (n0 + 1) n0 c4' n5 n5 n5 n5 _ (A120.drewN _) (A320.drewN _) (by omega))).mono ?_
    rintro e w' ⟨rfl, m3, rfl⟩
    go_wp2_with fail
    refine (zz_any _ _ false _ (equal_full w19.heap.size w7.heap.size o5 o2 (some ⟨g5, 0, .none⟩) f2 n0 n0 n0 (n5 + 1) n5 c5' n5 w20.heap.size x0 ys x5 _ (A420.drewN _) (A120.drewN _) (to520.rd.drewN _) (to220.rd.drewN _) to220.len (tf520.rd.drewN _) (tf220.rd.drewN _) tf520.len tf220.len (by omega) (by omega))).mono ?_
    rintro e w' ⟨rfl, m4, rfl⟩
    go_wp2
    go_ret
    exact ⟨rfl, below_drewN' B20 _⟩

set_option maxHeartbeats 4000000 in
set_option maxRecDepth 100000 in
/-- Outside the law's own bounds it says true at once. -/
theorem walk3_out (a0 a4 a5 a9 : Option Addr) (n0 c0 n4 c4 n5 c5 n9 c9 : Nat) (a1 a2 a6 a7 a10 a11 : Int) (a3 a8 : Bool) (w : World) (h0 : n0 ≤ maxLen) (h4 : n4 ≤ maxLen) (h5 : n5 ≤ maxLen) (h9 : n9 ≤ maxLen)
    (h : ¬ (n0 ≤ 32768 ∧ n4 ≤ 131072 ∧ n5 ≤ 131072 ∧ n9 ≤ 131072 ∧ 0 ≤ a10 ∧ a10 ≤ n0)) :
    Calls Try.prog 3 #[.slice a0 n0 c0, .int .i64 a1, .int .i64 a2, .bool a3, .slice a4 n4 c4, .slice a5 n5 c5, .int .i64 a6, .int .i64 a7, .bool a8, .slice a9 n9 c9, .int .i64 a10, .int .i64 a11] w fun e w' => e = .returned (.bool true) ∧ Below w.heap.size w w' := by
  by_cases b0 : 32768 < (n0 : Int)
  · clear h
    go_enter Try.func3, Try.ntmps3
    go_wp2_with fail
    refine (bytes4_any a0 a4 a5 a9 n0 c0 n4 c4 n5 c5 n9 c9 a1 a2 a6 a7 a10 a11 a3 a8 w h0 h4 h5 h9).mono ?_
    rintro e w' ⟨rfl | rfl, rfl⟩
    all_goals
      go_wp2
      go_ret
      exact ⟨rfl, Below.refl _ _⟩
  by_cases b4 : 131072 < (n4 : Int)
  · clear h
    go_enter Try.func3, Try.ntmps3
    go_wp2_with fail
    refine (bytes4_any a0 a4 a5 a9 n0 c0 n4 c4 n5 c5 n9 c9 a1 a2 a6 a7 a10 a11 a3 a8 w h0 h4 h5 h9).mono ?_
    rintro e w' ⟨rfl | rfl, rfl⟩
    all_goals
      go_wp2
      go_ret
      exact ⟨rfl, Below.refl _ _⟩
  by_cases b5 : 131072 < (n5 : Int)
  · clear h
    go_enter Try.func3, Try.ntmps3
    go_wp2_with fail
    refine (bytes4_any a0 a4 a5 a9 n0 c0 n4 c4 n5 c5 n9 c9 a1 a2 a6 a7 a10 a11 a3 a8 w h0 h4 h5 h9).mono ?_
    rintro e w' ⟨rfl | rfl, rfl⟩
    all_goals
      go_wp2
      go_ret
      exact ⟨rfl, Below.refl _ _⟩
  by_cases b9 : 131072 < (n9 : Int)
  · clear h
    go_enter Try.func3, Try.ntmps3
    go_wp2_with fail
    refine (bytes4_any a0 a4 a5 a9 n0 c0 n4 c4 n5 c5 n9 c9 a1 a2 a6 a7 a10 a11 a3 a8 w h0 h4 h5 h9).mono ?_
    rintro e w' ⟨rfl | rfl, rfl⟩
    all_goals
      go_wp2
      go_ret
      exact ⟨rfl, Below.refl _ _⟩
  by_cases bk : a10 < 0
  · clear h
    go_enter Try.func3, Try.ntmps3
    go_wp2_with fail
    refine (bytes4_any a0 a4 a5 a9 n0 c0 n4 c4 n5 c5 n9 c9 a1 a2 a6 a7 a10 a11 a3 a8 w h0 h4 h5 h9).mono ?_
    rintro e w' ⟨rfl | rfl, rfl⟩
    all_goals
      go_wp2
      go_ret
      exact ⟨rfl, Below.refl _ _⟩
  have bk' : (n0 : Int) < a10 := by omega
  clear h
  go_enter Try.func3, Try.ntmps3
  go_wp2_with fail
  refine (bytes4_any a0 a4 a5 a9 n0 c0 n4 c4 n5 c5 n9 c9 a1 a2 a6 a7 a10 a11 a3 a8 w h0 h4 h5 h9).mono ?_
  rintro e w' ⟨rfl | rfl, rfl⟩
  all_goals
    go_wp2
    go_ret
    exact ⟨rfl, Below.refl _ _⟩
end Go.Proofs.Qxb6613964a
