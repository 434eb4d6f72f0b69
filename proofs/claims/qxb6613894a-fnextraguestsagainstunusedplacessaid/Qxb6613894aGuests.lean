import Derived.Test.Qxb6613894aRows
import Derived.WalkKit
import Derived.WalkSpells
import Derived.WalkLawsBesides
import Derived.ProofKit
import Derived.RowKit3
import Derived.Outline
namespace Go.Proofs.Qxb6613894a
open Go.RowKit

theorem ret_int {k : IntKind} {a b : Int} (h : a = b) : Ending.returned (.int k a) = .returned (.int k b) := by rw [h]
/-- The bytes bound: within it. -/
theorem bytes8_yes (a0 a1 : ByteArray) (a2 a3 a4 a5 a6 a7 : Int) (w : World) (h : a0.size + a1.size ≤ 1048576) :
    Calls Try.prog 8 #[.string a0, .string a1, .int .i32 a2, .int .i32 a3, .int .i32 a4, .int .i64 a5, .int .i64 a6, .int .i64 a7] w fun e w' => e = .returned (.bool true) ∧ w' = w := by
  have h0 : ¬ (1048576 < (a0.size : Int)) := by omega
  have h1 : ¬ (1048576 < (a1.size : Int)) := by omega
  go_enter Try.func8, Try.ntmps8
  go_wp2
  go_ret
  exact ⟨rfl, rfl⟩
theorem bytes11_yes (a0 a1 : ByteArray) (a2 a3 a4 a5 a6 a7 : Int) (w : World) (h : a0.size + a1.size ≤ 1048576) :
    Calls Try.prog 11 #[.string a0, .string a1, .int .i32 a2, .int .i32 a3, .int .i32 a4, .int .i64 a5, .int .i64 a6, .int .i64 a7] w fun e w' => e = .returned (.bool true) ∧ w' = w := by
  have h0 : ¬ (1048576 < (a0.size : Int)) := by omega
  have h1 : ¬ (1048576 < (a1.size : Int)) := by omega
  go_enter Try.func11, Try.ntmps11
  go_wp2
  go_ret
  exact ⟨rfl, rfl⟩
theorem bytes8_no (a0 a1 : ByteArray) (a2 a3 a4 a5 a6 a7 : Int) (w : World) (w0 : a0.size ≤ maxLen) (w1 : a1.size ≤ maxLen) (h : ¬ a0.size + a1.size ≤ 1048576) :
    Calls Try.prog 8 #[.string a0, .string a1, .int .i32 a2, .int .i32 a3, .int .i32 a4, .int .i64 a5, .int .i64 a6, .int .i64 a7] w fun e w' => e = .returned (.bool false) ∧ w' = w := by
  unfold maxLen at w0 w1
  by_cases h0 : 1048576 < (a0.size : Int)
  · go_enter Try.func8, Try.ntmps8
    go_wp2
    go_ret
    exact ⟨rfl, rfl⟩
  · by_cases h1 : 1048576 < (a1.size : Int)
    · go_enter Try.func8, Try.ntmps8
      go_wp2
      go_ret
      exact ⟨rfl, rfl⟩
    · go_enter Try.func8, Try.ntmps8
      go_wp2
      go_ret
      exact ⟨rfl, rfl⟩
theorem bytes11_no (a0 a1 : ByteArray) (a2 a3 a4 a5 a6 a7 : Int) (w : World) (w0 : a0.size ≤ maxLen) (w1 : a1.size ≤ maxLen) (h : ¬ a0.size + a1.size ≤ 1048576) :
    Calls Try.prog 11 #[.string a0, .string a1, .int .i32 a2, .int .i32 a3, .int .i32 a4, .int .i64 a5, .int .i64 a6, .int .i64 a7] w fun e w' => e = .returned (.bool false) ∧ w' = w := by
  unfold maxLen at w0 w1
  by_cases h0 : 1048576 < (a0.size : Int)
  · go_enter Try.func11, Try.ntmps11
    go_wp2
    go_ret
    exact ⟨rfl, rfl⟩
  · by_cases h1 : 1048576 < (a1.size : Int)
    · go_enter Try.func11, Try.ntmps11
      go_wp2
      go_ret
      exact ⟨rfl, rfl⟩
    · go_enter Try.func11, Try.ntmps11
      go_wp2
      go_ret
      exact ⟨rfl, rfl⟩

/-- The request that the law makes. -/
theorem makeRequest_any (a0 a1 : ByteArray) (a2 a3 a4 a5 a6 : Int) (w : World) :
    Calls Try.prog 10 #[.string a0, .string a1, .int .i32 a2, .int .i32 a3, .int .i32 a4, .int .i64 a5, .int .i64 a6] w fun e w' =>
      e = .returned (.agg #[.string a0, .string a1, .int .i32 a2, .int .i32 a3, .int .i32 a4, .int .i64 a5, .int .i64 a6, .string { data := #[] }]) ∧ ∃ c1 : Array Value, w' = w.alloc (.cells c1 44) := by
  go_enter Try.func10, Try.ntmps10
  go_wp2
  simp [bodyPost, results, Try.results10, go_sem]
  exact ⟨_, rfl⟩
theorem guests_any (a0 a1 : ByteArray) (a2 a3 a4 a5 a6 : Int) (c : ByteArray) (w : World) (h1 : -536870912 ≤ a5) (h2 : a5 ≤ 536870912) (h3 : -536870913 ≤ a6) (h4 : a6 ≤ 536870913) :
    Calls Try.prog 14 #[.agg #[.string a0, .string a1, .int .i32 a2, .int .i32 a3, .int .i32 a4, .int .i64 a5, .int .i64 a6, .string c]] w fun e w' =>
      e = .returned (.int .i64 (a5 + a6)) ∧ ∃ c1 : Array Value, w' = w.alloc (.cells c1 44) := by
  go_enter Try.func14, Try.ntmps14
  go_wp2
  go_ret
  exact ⟨rfl, _, rfl⟩
/-- The guests beyond the base. -/
def ext (g b : Int) : Int := max (g - b) 0
theorem ext_nonneg (g b : Int) : 0 ≤ ext g b := by unfold ext; omega
theorem ext_le (g b : Int) (h : -2000000000 ≤ g) (h' : g ≤ 2000000000) (h2 : -2000000000 ≤ b) (h3 : b ≤ 2000000000) : ext g b ≤ 4000000000 := by unfold ext; omega
theorem extra_any (a0 a1 : ByteArray) (a2 a3 a4 a5 a6 : Int) (c : ByteArray) (b : Int) (w : World) (h1 : -536870912 ≤ a5) (h2 : a5 ≤ 536870912) (h3 : -536870913 ≤ a6) (h4 : a6 ≤ 536870913) (h5 : -1073741826 ≤ b) (h6 : b ≤ 1073741826) :
    Calls Try.prog 13 #[.agg #[.string a0, .string a1, .int .i32 a2, .int .i32 a3, .int .i32 a4, .int .i64 a5, .int .i64 a6, .string c], .int .i64 b] w fun e w' =>
      e = .returned (.int .i64 (ext (a5 + a6) b)) ∧ ∃ c1 c2 : Array Value, w' = (w.alloc (.cells c1 44)).alloc (.cells c2 44) := by
  go_enter Try.func13, Try.ntmps13
  go_wp2_with (go_at_call 14; refine (guests_any _ _ _ _ _ _ _ _ _ h1 h2 h3 h4).mono ?_; rintro e w' ⟨rfl, c1, rfl⟩)
  all_goals (go_ret; exact ⟨ret_int (by unfold ext; omega), _, _, rfl⟩)
theorem zzExtra_any (a0 a1 : ByteArray) (a2 a3 a4 a5 a6 : Int) (c : ByteArray) (b : Int) (w : World) (h1 : -536870912 ≤ a5) (h2 : a5 ≤ 536870912) (h3 : -536870913 ≤ a6) (h4 : a6 ≤ 536870913) (h5 : -1073741826 ≤ b) (h6 : b ≤ 1073741826) :
    Calls Try.prog 9 #[.agg #[.string a0, .string a1, .int .i32 a2, .int .i32 a3, .int .i32 a4, .int .i64 a5, .int .i64 a6, .string c], .int .i64 b] w fun e w' =>
      e = .returned (.int .i64 (ext (a5 + a6) b)) ∧ ∃ c1 c2 c3 : Array Value, w' = ((w.alloc (.cells c1 44)).alloc (.cells c2 44)).alloc (.cells c3 44) := by
  go_enter Try.func9, Try.ntmps9
  go_wp2_with (go_at_call 13; refine (extra_any _ _ _ _ _ _ _ _ _ _ h1 h2 h3 h4 h5 h6).mono ?_; rintro e w' ⟨rfl, c1, c2, rfl⟩)
  go_ret
  exact ⟨rfl, _, _, _, rfl⟩

/-! The laws' walks. -/
set_option maxHeartbeats 2000000 in
theorem walk4 (a0 : ByteArray) (a1 : ByteArray) (a2 : Int) (a3 : Int) (a4 : Int) (a5 : Int) (a6 : Int) (a7 : Int) (w0 : a0.size ≤ maxLen) (w1 : a1.size ≤ maxLen) (w : World) :
    Calls Try.prog 4 #[.string a0, .string a1, .int .i32 a2, .int .i32 a3, .int .i32 a4, .int .i64 a5, .int .i64 a6, .int .i64 a7] w fun e w' => e = .returned (.bool true) ∧ Grown w w' := by
  by_cases hs : a0.size + a1.size ≤ 1048576
  · have h0 : ¬ (1048576 < (a0.size : Int)) := by omega
    have h1 : ¬ (1048576 - (a0.size : Int) < (a1.size : Int)) := by omega
    by_cases b5 : -536870912 ≤ a5 ∧ a5 ≤ 536870912
    · obtain ⟨b51, b52⟩ := b5
      by_cases b6 : -536870912 ≤ a6 ∧ a6 ≤ 536870912
      · obtain ⟨b61, b62⟩ := b6
        by_cases b7 : -536870912 ≤ a7 ∧ a7 ≤ 536870912
        · obtain ⟨b71, b72⟩ := b7
          rcases Int.lt_trichotomy (a5 + a6) a7 with ht | ht | ht
          · have x1 : ext (a5 + a6) a7 = 0 := by unfold ext; omega
            have x2 : ext a7 (a5 + a6) = a7 - (a5 + a6) := by unfold ext; omega
            have q1 : (a7 - (a5 + a6) != 0) = true := by rw [bne_iff_ne]; omega
            have q2 : (-(a7 - (a5 + a6)) == a5 + a6 - a7) = true := by rw [beq_iff_eq]; omega
            go_enter Try.func4, Try.ntmps4
            go_wp2_with fail
            refine (bytes8_yes a0 a1 a2 a3 a4 a5 a6 a7 _ hs).mono ?_
            rintro e w' ⟨rfl, rfl⟩
            go_wp2_with fail
            refine (makeRequest_any a0 a1 a2 a3 a4 a5 a6 _).mono ?_
            rintro e w' ⟨rfl, c1, rfl⟩
            go_wp2_with fail
            refine (zzExtra_any a0 a1 a2 a3 a4 a5 a6 _ a7 _ b51 b52 (by omega) (by omega) (by omega) (by omega)).mono ?_
            rintro e w' ⟨rfl, c2, c3, c4, rfl⟩
            go_wp2_with fail
            refine (makeRequest_any a0 a1 a2 a3 a4 a7 0 _).mono ?_
            rintro e w' ⟨rfl, c5, rfl⟩
            go_wp2_with fail
            refine (zzExtra_any a0 a1 a2 a3 a4 a7 0 _ (a5 + a6) _ b71 b72 (by omega) (by omega) (by omega) (by omega)).mono ?_
            rintro e w' ⟨rfl, c6, c7, c8, rfl⟩
            go_wp2
            go_ret
            exact ⟨rfl, by repeat (first | exact Grown.refl _ | apply Grown.drew | apply Grown.alloc)⟩
          · have x1 : ext (a5 + a6) a7 = 0 := by unfold ext; omega
            have x2 : ext a7 (a5 + a6) = 0 := by unfold ext; omega
            have q3 : ((0 : Int) == a5 + a6 - a7) = true := by rw [beq_iff_eq]; omega
            have ht1 : a5 + a6 ≤ a7 := by omega
            have ht2 : a7 ≤ a5 + a6 := by omega
            clear ht
            go_enter Try.func4, Try.ntmps4
            go_wp2_with fail
            refine (bytes8_yes a0 a1 a2 a3 a4 a5 a6 a7 _ hs).mono ?_
            rintro e w' ⟨rfl, rfl⟩
            go_wp2_with fail
            refine (makeRequest_any a0 a1 a2 a3 a4 a5 a6 _).mono ?_
            rintro e w' ⟨rfl, c1, rfl⟩
            go_wp2_with fail
            refine (zzExtra_any a0 a1 a2 a3 a4 a5 a6 _ a7 _ b51 b52 (by omega) (by omega) (by omega) (by omega)).mono ?_
            rintro e w' ⟨rfl, c2, c3, c4, rfl⟩
            go_wp2_with fail
            refine (makeRequest_any a0 a1 a2 a3 a4 a7 0 _).mono ?_
            rintro e w' ⟨rfl, c5, rfl⟩
            go_wp2_with fail
            refine (zzExtra_any a0 a1 a2 a3 a4 a7 0 _ (a5 + a6) _ b71 b72 (by omega) (by omega) (by omega) (by omega)).mono ?_
            rintro e w' ⟨rfl, c6, c7, c8, rfl⟩
            go_wp2
            go_ret
            exact ⟨rfl, by repeat (first | exact Grown.refl _ | apply Grown.drew | apply Grown.alloc)⟩
          · have x1 : ext (a5 + a6) a7 = a5 + a6 - a7 := by unfold ext; omega
            have x2 : ext a7 (a5 + a6) = 0 := by unfold ext; omega
            have q1 : (a5 + a6 - a7 != 0) = true := by rw [bne_iff_ne]; omega
            go_enter Try.func4, Try.ntmps4
            go_wp2_with fail
            refine (bytes8_yes a0 a1 a2 a3 a4 a5 a6 a7 _ hs).mono ?_
            rintro e w' ⟨rfl, rfl⟩
            go_wp2_with fail
            refine (makeRequest_any a0 a1 a2 a3 a4 a5 a6 _).mono ?_
            rintro e w' ⟨rfl, c1, rfl⟩
            go_wp2_with fail
            refine (zzExtra_any a0 a1 a2 a3 a4 a5 a6 _ a7 _ b51 b52 (by omega) (by omega) (by omega) (by omega)).mono ?_
            rintro e w' ⟨rfl, c2, c3, c4, rfl⟩
            go_wp2_with fail
            refine (makeRequest_any a0 a1 a2 a3 a4 a7 0 _).mono ?_
            rintro e w' ⟨rfl, c5, rfl⟩
            go_wp2_with fail
            refine (zzExtra_any a0 a1 a2 a3 a4 a7 0 _ (a5 + a6) _ b71 b72 (by omega) (by omega) (by omega) (by omega)).mono ?_
            rintro e w' ⟨rfl, c6, c7, c8, rfl⟩
            go_wp2
            go_ret
            exact ⟨rfl, by repeat (first | exact Grown.refl _ | apply Grown.drew | apply Grown.alloc)⟩
        · by_cases l7 : a7 < -536870912
          · go_enter Try.func4, Try.ntmps4
            go_wp2_with (go_at_call 8; refine (bytes8_yes a0 a1 a2 a3 a4 a5 a6 a7 _ hs).mono ?_; rintro e w' ⟨rfl, rfl⟩)
            go_ret
            exact ⟨rfl, Grown.refl _⟩
          · have g7 : 536870912 < a7 := by omega
            go_enter Try.func4, Try.ntmps4
            go_wp2_with (go_at_call 8; refine (bytes8_yes a0 a1 a2 a3 a4 a5 a6 a7 _ hs).mono ?_; rintro e w' ⟨rfl, rfl⟩)
            go_ret
            exact ⟨rfl, Grown.refl _⟩
      · by_cases l6 : a6 < -536870912
        · go_enter Try.func4, Try.ntmps4
          go_wp2_with (go_at_call 8; refine (bytes8_yes a0 a1 a2 a3 a4 a5 a6 a7 _ hs).mono ?_; rintro e w' ⟨rfl, rfl⟩)
          go_ret
          exact ⟨rfl, Grown.refl _⟩
        · have g6 : 536870912 < a6 := by omega
          go_enter Try.func4, Try.ntmps4
          go_wp2_with (go_at_call 8; refine (bytes8_yes a0 a1 a2 a3 a4 a5 a6 a7 _ hs).mono ?_; rintro e w' ⟨rfl, rfl⟩)
          go_ret
          exact ⟨rfl, Grown.refl _⟩
    · by_cases l5 : a5 < -536870912
      · go_enter Try.func4, Try.ntmps4
        go_wp2_with (go_at_call 8; refine (bytes8_yes a0 a1 a2 a3 a4 a5 a6 a7 _ hs).mono ?_; rintro e w' ⟨rfl, rfl⟩)
        go_ret
        exact ⟨rfl, Grown.refl _⟩
      · have g5 : 536870912 < a5 := by omega
        go_enter Try.func4, Try.ntmps4
        go_wp2_with (go_at_call 8; refine (bytes8_yes a0 a1 a2 a3 a4 a5 a6 a7 _ hs).mono ?_; rintro e w' ⟨rfl, rfl⟩)
        go_ret
        exact ⟨rfl, Grown.refl _⟩
  · go_enter Try.func4, Try.ntmps4
    go_wp2_with (go_at_call 8; refine (bytes8_no a0 a1 a2 a3 a4 a5 a6 a7 _ w0 w1 hs).mono ?_; rintro e w' ⟨rfl, rfl⟩)
    go_ret
    exact ⟨rfl, Grown.refl _⟩

set_option maxHeartbeats 2000000 in
theorem walk5 (a0 : ByteArray) (a1 : ByteArray) (a2 : Int) (a3 : Int) (a4 : Int) (a5 : Int) (a6 : Int) (a7 : Int) (w0 : a0.size ≤ maxLen) (w1 : a1.size ≤ maxLen) (w : World) :
    Calls Try.prog 5 #[.string a0, .string a1, .int .i32 a2, .int .i32 a3, .int .i32 a4, .int .i64 a5, .int .i64 a6, .int .i64 a7] w fun e w' => e = .returned (.bool true) ∧ Grown w w' := by
  by_cases hs : a0.size + a1.size ≤ 1048576
  · have h0 : ¬ (1048576 < (a0.size : Int)) := by omega
    have h1 : ¬ (1048576 - (a0.size : Int) < (a1.size : Int)) := by omega
    by_cases b5 : -536870912 ≤ a5 ∧ a5 ≤ 536870912
    · obtain ⟨b51, b52⟩ := b5
      by_cases b6 : -536870912 ≤ a6 ∧ a6 ≤ 536870912
      · obtain ⟨b61, b62⟩ := b6
        by_cases b7 : -536870912 ≤ a7 ∧ a7 ≤ 536870912
        · obtain ⟨b71, b72⟩ := b7
          by_cases ht : a7 ≤ a5 + a6
          · have x1 : ext (a5 + a6) a7 = a5 + a6 - a7 := by unfold ext; omega
            have x2 : ext (a5 + (a6 + 1)) a7 = a5 + a6 - a7 + 1 := by unfold ext; omega
            have x3 : ext (a5 + (a6 + 1)) (a7 + 1) = a5 + a6 - a7 := by unfold ext; omega
            go_enter Try.func5, Try.ntmps5
            go_wp2_with fail
            refine (bytes11_yes a0 a1 a2 a3 a4 a5 a6 a7 _ hs).mono ?_
            rintro e w' ⟨rfl, rfl⟩
            go_wp2_with fail
            refine (makeRequest_any a0 a1 a2 a3 a4 a5 a6 _).mono ?_
            rintro e w' ⟨rfl, c1, rfl⟩
            go_wp2_with fail
            refine (zzExtra_any a0 a1 a2 a3 a4 a5 a6 _ a7 _ b51 b52 (by omega) (by omega) (by omega) (by omega)).mono ?_
            rintro e w' ⟨rfl, c2, c3, c4, rfl⟩
            go_wp2_with fail
            refine (makeRequest_any a0 a1 a2 a3 a4 a5 (a6 + 1) _).mono ?_
            rintro e w' ⟨rfl, c5, rfl⟩
            go_wp2_with fail
            refine (zzExtra_any a0 a1 a2 a3 a4 a5 (a6 + 1) _ a7 _ b51 b52 (by omega) (by omega) (by omega) (by omega)).mono ?_
            rintro e w' ⟨rfl, c6, c7, c8, rfl⟩
            go_wp2_with fail
            refine (zzExtra_any a0 a1 a2 a3 a4 a5 (a6 + 1) _ (a7 + 1) _ b51 b52 (by omega) (by omega) (by omega) (by omega)).mono ?_
            rintro e w' ⟨rfl, c9, c10, c11, rfl⟩
            go_wp2
            go_ret
            exact ⟨rfl, by repeat (first | exact Grown.refl _ | apply Grown.drew | apply Grown.alloc)⟩
          · have x1 : ext (a5 + a6) a7 = 0 := by unfold ext; omega
            have x2 : ext (a5 + (a6 + 1)) a7 = 0 := by unfold ext; omega
            have x3 : ext (a5 + (a6 + 1)) (a7 + 1) = 0 := by unfold ext; omega
            go_enter Try.func5, Try.ntmps5
            go_wp2_with fail
            refine (bytes11_yes a0 a1 a2 a3 a4 a5 a6 a7 _ hs).mono ?_
            rintro e w' ⟨rfl, rfl⟩
            go_wp2_with fail
            refine (makeRequest_any a0 a1 a2 a3 a4 a5 a6 _).mono ?_
            rintro e w' ⟨rfl, c1, rfl⟩
            go_wp2_with fail
            refine (zzExtra_any a0 a1 a2 a3 a4 a5 a6 _ a7 _ b51 b52 (by omega) (by omega) (by omega) (by omega)).mono ?_
            rintro e w' ⟨rfl, c2, c3, c4, rfl⟩
            go_wp2_with fail
            refine (makeRequest_any a0 a1 a2 a3 a4 a5 (a6 + 1) _).mono ?_
            rintro e w' ⟨rfl, c5, rfl⟩
            go_wp2_with fail
            refine (zzExtra_any a0 a1 a2 a3 a4 a5 (a6 + 1) _ a7 _ b51 b52 (by omega) (by omega) (by omega) (by omega)).mono ?_
            rintro e w' ⟨rfl, c6, c7, c8, rfl⟩
            go_wp2_with fail
            refine (zzExtra_any a0 a1 a2 a3 a4 a5 (a6 + 1) _ (a7 + 1) _ b51 b52 (by omega) (by omega) (by omega) (by omega)).mono ?_
            rintro e w' ⟨rfl, c9, c10, c11, rfl⟩
            go_wp2
            go_ret
            exact ⟨rfl, by repeat (first | exact Grown.refl _ | apply Grown.drew | apply Grown.alloc)⟩
        · by_cases l7 : a7 < -536870912
          · go_enter Try.func5, Try.ntmps5
            go_wp2_with (go_at_call 11; refine (bytes11_yes a0 a1 a2 a3 a4 a5 a6 a7 _ hs).mono ?_; rintro e w' ⟨rfl, rfl⟩)
            go_ret
            exact ⟨rfl, Grown.refl _⟩
          · have g7 : 536870912 < a7 := by omega
            go_enter Try.func5, Try.ntmps5
            go_wp2_with (go_at_call 11; refine (bytes11_yes a0 a1 a2 a3 a4 a5 a6 a7 _ hs).mono ?_; rintro e w' ⟨rfl, rfl⟩)
            go_ret
            exact ⟨rfl, Grown.refl _⟩
      · by_cases l6 : a6 < -536870912
        · go_enter Try.func5, Try.ntmps5
          go_wp2_with (go_at_call 11; refine (bytes11_yes a0 a1 a2 a3 a4 a5 a6 a7 _ hs).mono ?_; rintro e w' ⟨rfl, rfl⟩)
          go_ret
          exact ⟨rfl, Grown.refl _⟩
        · have g6 : 536870912 < a6 := by omega
          go_enter Try.func5, Try.ntmps5
          go_wp2_with (go_at_call 11; refine (bytes11_yes a0 a1 a2 a3 a4 a5 a6 a7 _ hs).mono ?_; rintro e w' ⟨rfl, rfl⟩)
          go_ret
          exact ⟨rfl, Grown.refl _⟩
    · by_cases l5 : a5 < -536870912
      · go_enter Try.func5, Try.ntmps5
        go_wp2_with (go_at_call 11; refine (bytes11_yes a0 a1 a2 a3 a4 a5 a6 a7 _ hs).mono ?_; rintro e w' ⟨rfl, rfl⟩)
        go_ret
        exact ⟨rfl, Grown.refl _⟩
      · have g5 : 536870912 < a5 := by omega
        go_enter Try.func5, Try.ntmps5
        go_wp2_with (go_at_call 11; refine (bytes11_yes a0 a1 a2 a3 a4 a5 a6 a7 _ hs).mono ?_; rintro e w' ⟨rfl, rfl⟩)
        go_ret
        exact ⟨rfl, Grown.refl _⟩
  · go_enter Try.func5, Try.ntmps5
    go_wp2_with (go_at_call 11; refine (bytes11_no a0 a1 a2 a3 a4 a5 a6 a7 _ w0 w1 hs).mono ?_; rintro e w' ⟨rfl, rfl⟩)
    go_ret
    exact ⟨rfl, Grown.refl _⟩
end Go.Proofs.Qxb6613894a
