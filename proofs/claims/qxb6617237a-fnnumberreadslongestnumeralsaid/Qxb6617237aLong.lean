/-
  SEAT b6617237a: THE LAW's OWN AUTOMATON WALKED: zzStep, zzAccepting, zzLongestNumeral.
-/
import Derived.Test.Qxb6617237aSmall
import Derived.Test.Qxb6617237aAuto
namespace Go.Proofs.Qxb6617237a
open Go.RowKit Go.Deep
set_option linter.unusedVariables false

theorem d15 (c : Int) (w : World) : Calls Try.prog 15 #[.int .u8 c] w fun e w' => e = .returned (.bool (isD c)) ∧ w' = w := by
  by_cases h1 : 48 ≤ c
  · go_enter Try.func15, Try.ntmps15
    go_wp2
    go_ret
    exact ⟨ret_bool (by simp [isD, h1]), rfl⟩
  · go_enter Try.func15, Try.ntmps15
    go_wp2
    go_ret
    exact ⟨ret_bool (by rw [isD, decide_eq_false (by omega)]; rfl), rfl⟩

theorem x22 (c : Int) (w : World) : Calls Try.prog 22 #[.int .u8 c] w fun e w' => e = .returned (.bool (isX c)) ∧ w' = w := by
  cases hd : isD c
  · by_cases h1 : 97 ≤ c ∧ c ≤ 102
    · obtain ⟨h1, h2⟩ := h1
      go_enter Try.func22, Try.ntmps22
      go_wp2_with (go_at_call 15; refine (d15 _ _).mono ?_; rintro e w' ⟨rfl, rfl⟩; rw [hd])
      go_ret
      exact ⟨ret_bool (by simp [isX, hd, h1, h2]), rfl⟩
    · by_cases h3 : 65 ≤ c ∧ c ≤ 70
      · obtain ⟨h3, h4⟩ := h3
        have h5 : ¬ 97 ≤ c := by omega
        go_enter Try.func22, Try.ntmps22
        go_wp2_with (go_at_call 15; refine (d15 _ _).mono ?_; rintro e w' ⟨rfl, rfl⟩; rw [hd])
        go_ret
        exact ⟨ret_bool (by simp [isX, hd, h3, h4]), rfl⟩
      · have hx : Hid (isX c = false) := by
          show isX c = false
          have e1 : (decide (97 ≤ c) && decide (c ≤ 102)) = false := by simp; omega
          have e2 : (decide (65 ≤ c) && decide (c ≤ 70)) = false := by simp; omega
          rw [isX, hd, e1, e2]; rfl
        go_enter Try.func22, Try.ntmps22
        go_wp2_with (go_at_call 15; refine (d15 _ _).mono ?_; rintro e w' ⟨rfl, rfl⟩; rw [hd])
        all_goals
          go_ret
          exact ⟨ret_bool (by rw [hx.out, Bool.eq_false_iff]; simp; try omega), rfl⟩
  · go_enter Try.func22, Try.ntmps22
    go_wp2_with (go_at_call 15; refine (d15 _ _).mono ?_; rintro e w' ⟨rfl, rfl⟩; rw [hd])
    go_ret
    exact ⟨ret_bool (by simp [isX, hd]), rfl⟩

theorem a21 (c : Int) (w : World) : Calls Try.prog 21 #[.int .u8 c] w fun e w' => e = .returned (.int .i64 (aft c)) ∧ w' = w := by
  cases hd : isD c
  case true =>
    go_enter Try.func21, Try.ntmps21
    go_wp2_with (go_at_call 15; refine (d15 _ _).mono ?_; rintro e w' ⟨rfl, rfl⟩; rw [hd])
    go_ret
    exact ⟨ret_int (by simp [aft, hd]), rfl⟩
  by_cases h46 : c = 46
  · subst h46
    go_enter Try.func21, Try.ntmps21
    go_wp2
    go_ret
    exact ⟨rfl, rfl⟩
  by_cases h101 : c = 101
  · subst h101
    go_enter Try.func21, Try.ntmps21
    go_wp2
    go_ret
    exact ⟨rfl, rfl⟩
  by_cases h69 : c = 69
  · subst h69
    go_enter Try.func21, Try.ntmps21
    go_wp2
    go_ret
    exact ⟨rfl, rfl⟩
  have b1 : (c == 46) = false := by simp [h46]
  have b2 : (c == 101) = false := by simp [h101]
  have b3 : (c == 69) = false := by simp [h69]
  have HS : Hid (aft c = 11) := by show aft c = 11; simp [aft, hd, eB, h46, h101, h69]
  clear h46 h101 h69
  go_enter Try.func21, Try.ntmps21
  go_wp2_with (go_at_call 15; refine (d15 _ _).mono ?_; rintro e w' ⟨rfl, rfl⟩; rw [hd])
  go_ret
  exact ⟨ret_int HS.out.symm, rfl⟩

theorem m20 (c : Int) (w : World) : Calls Try.prog 20 #[.int .u8 c] w fun e w' => e = .returned (.int .i64 (mant c)) ∧ w' = w := by
  by_cases h48 : c = 48
  · subst h48
    go_enter Try.func20, Try.ntmps20
    go_wp2
    go_ret
    exact ⟨rfl, rfl⟩
  have b0 : (c == 48) = false := by simp [h48]
  cases hd : isD c
  case true =>
    have HS : Hid (mant c = 3) := mant_d c hd h48
    clear h48
    go_enter Try.func20, Try.ntmps20
    go_wp2_with (go_at_call 15; refine (d15 _ _).mono ?_; rintro e w' ⟨rfl, rfl⟩; rw [hd])
    go_ret
    exact ⟨ret_int HS.out.symm, rfl⟩
  by_cases h46 : c = 46
  · subst h46
    go_enter Try.func20, Try.ntmps20
    go_wp2
    go_ret
    exact ⟨rfl, rfl⟩
  by_cases h101 : c = 101
  · subst h101
    go_enter Try.func20, Try.ntmps20
    go_wp2
    go_ret
    exact ⟨rfl, rfl⟩
  by_cases h69 : c = 69
  · subst h69
    go_enter Try.func20, Try.ntmps20
    go_wp2
    go_ret
    exact ⟨rfl, rfl⟩
  have b1 : (c == 46) = false := by simp [h46]
  have b2 : (c == 101) = false := by simp [h101]
  have b3 : (c == 69) = false := by simp [h69]
  have HS : Hid (mant c = 11) := by show mant c = 11; simp [mant, hd, eB, h46, h101, h69, h48]
  clear h46 h101 h69 h48
  go_enter Try.func20, Try.ntmps20
  go_wp2_with (go_at_call 15; refine (d15 _ _).mono ?_; rintro e w' ⟨rfl, rfl⟩; rw [hd])
  go_ret
  exact ⟨ret_int HS.out.symm, rfl⟩

theorem acc14 (q : Int) (w : World) (h0 : 0 ≤ q) (h1 : q ≤ 10) : Calls Try.prog 14 #[.int .i64 q] w fun e w' => e = .returned (.bool (acc q)) ∧ w' = w := by
  obtain rfl | rfl | rfl | rfl | rfl | rfl | rfl | rfl | rfl | rfl | rfl : q = 0 ∨ q = 1 ∨ q = 2 ∨ q = 3 ∨ q = 4 ∨ q = 5 ∨ q = 6 ∨ q = 7 ∨ q = 8 ∨ q = 9 ∨ q = 10 := by omega
  all_goals
    go_enter Try.func14, Try.ntmps14
    go_wp2
    go_ret
    exact ⟨rfl, rfl⟩

set_option maxHeartbeats 1600000 in
set_option maxRecDepth 1000000 in
theorem s13 (q c : Int) (w : World) (h0 : 0 ≤ q) (h1 : q ≤ 10) : Calls Try.prog 13 #[.int .i64 q, .int .u8 c] w fun e w' => e = .returned (.int .i64 (stp q c)) ∧ w' = w := by
  obtain rfl | rfl | rfl | rfl | rfl | rfl | rfl | rfl | rfl | rfl | rfl : q = 0 ∨ q = 1 ∨ q = 2 ∨ q = 3 ∨ q = 4 ∨ q = 5 ∨ q = 6 ∨ q = 7 ∨ q = 8 ∨ q = 9 ∨ q = 10 := by omega
  · by_cases h43 : c = 43
    · subst h43
      go_enter Try.func13, Try.ntmps13
      go_wp2
      go_ret
      exact ⟨rfl, rfl⟩
    by_cases h45 : c = 45
    · subst h45
      go_enter Try.func13, Try.ntmps13
      go_wp2
      go_ret
      exact ⟨rfl, rfl⟩
    have b1 : (c == 43) = false := by simp [h43]
    have b2 : (c == 45) = false := by simp [h45]
    have HS : Hid (stp 0 c = mant c) := by show stp 0 c = mant c; simp [stp, sgn, h43, h45]
    clear h43 h45
    go_enter Try.func13, Try.ntmps13
    go_wp2_with (first | (go_at_call 15; refine (d15 _ _).mono ?_; rintro e w' ⟨rfl, rfl⟩) | (go_at_call 20; refine (m20 _ _).mono ?_; rintro e w' ⟨rfl, rfl⟩) | (go_at_call 21; refine (a21 _ _).mono ?_; rintro e w' ⟨rfl, rfl⟩) | (go_at_call 22; refine (x22 _ _).mono ?_; rintro e w' ⟨rfl, rfl⟩))
    go_ret
    exact ⟨ret_int HS.out.symm, rfl⟩
  · have HS : Hid (stp 1 c = mant c) := by show stp 1 c = mant c; simp [stp]
    go_enter Try.func13, Try.ntmps13
    go_wp2_with (first | (go_at_call 15; refine (d15 _ _).mono ?_; rintro e w' ⟨rfl, rfl⟩) | (go_at_call 20; refine (m20 _ _).mono ?_; rintro e w' ⟨rfl, rfl⟩) | (go_at_call 21; refine (a21 _ _).mono ?_; rintro e w' ⟨rfl, rfl⟩) | (go_at_call 22; refine (x22 _ _).mono ?_; rintro e w' ⟨rfl, rfl⟩))
    go_ret
    exact ⟨ret_int HS.out.symm, rfl⟩
  · by_cases h120 : c = 120
    · subst h120
      go_enter Try.func13, Try.ntmps13
      go_wp2
      go_ret
      exact ⟨rfl, rfl⟩
    have b1 : (c == 120) = false := by simp [h120]
    have HS : Hid (stp 2 c = aft c) := by show stp 2 c = aft c; simp [stp, h120]
    clear h120
    go_enter Try.func13, Try.ntmps13
    go_wp2_with (first | (go_at_call 15; refine (d15 _ _).mono ?_; rintro e w' ⟨rfl, rfl⟩) | (go_at_call 20; refine (m20 _ _).mono ?_; rintro e w' ⟨rfl, rfl⟩) | (go_at_call 21; refine (a21 _ _).mono ?_; rintro e w' ⟨rfl, rfl⟩) | (go_at_call 22; refine (x22 _ _).mono ?_; rintro e w' ⟨rfl, rfl⟩))
    go_ret
    exact ⟨ret_int HS.out.symm, rfl⟩
  · have HS : Hid (stp 3 c = aft c) := by show stp 3 c = aft c; simp [stp]
    go_enter Try.func13, Try.ntmps13
    go_wp2_with (first | (go_at_call 15; refine (d15 _ _).mono ?_; rintro e w' ⟨rfl, rfl⟩) | (go_at_call 20; refine (m20 _ _).mono ?_; rintro e w' ⟨rfl, rfl⟩) | (go_at_call 21; refine (a21 _ _).mono ?_; rintro e w' ⟨rfl, rfl⟩) | (go_at_call 22; refine (x22 _ _).mono ?_; rintro e w' ⟨rfl, rfl⟩))
    go_ret
    exact ⟨ret_int HS.out.symm, rfl⟩
  · cases hx : isX c
    · have HS : Hid (stp 4 c = 11) := by show stp 4 c = 11; simp [stp, hx]
      go_enter Try.func13, Try.ntmps13
      go_wp2_with (first | (go_at_call 15; refine (d15 _ _).mono ?_; rintro e w' ⟨rfl, rfl⟩) | (go_at_call 20; refine (m20 _ _).mono ?_; rintro e w' ⟨rfl, rfl⟩) | (go_at_call 21; refine (a21 _ _).mono ?_; rintro e w' ⟨rfl, rfl⟩) | (go_at_call 22; refine (x22 _ _).mono ?_; rintro e w' ⟨rfl, rfl⟩))
      go_ret
      exact ⟨ret_int HS.out.symm, rfl⟩
    · have HS : Hid (stp 4 c = 5) := by show stp 4 c = 5; simp [stp, hx]
      go_enter Try.func13, Try.ntmps13
      go_wp2_with (first | (go_at_call 15; refine (d15 _ _).mono ?_; rintro e w' ⟨rfl, rfl⟩) | (go_at_call 20; refine (m20 _ _).mono ?_; rintro e w' ⟨rfl, rfl⟩) | (go_at_call 21; refine (a21 _ _).mono ?_; rintro e w' ⟨rfl, rfl⟩) | (go_at_call 22; refine (x22 _ _).mono ?_; rintro e w' ⟨rfl, rfl⟩))
      go_ret
      exact ⟨ret_int HS.out.symm, rfl⟩
  · cases hx : isX c
    · have HS : Hid (stp 5 c = 11) := by show stp 5 c = 11; simp [stp, hx]
      go_enter Try.func13, Try.ntmps13
      go_wp2_with (first | (go_at_call 15; refine (d15 _ _).mono ?_; rintro e w' ⟨rfl, rfl⟩) | (go_at_call 20; refine (m20 _ _).mono ?_; rintro e w' ⟨rfl, rfl⟩) | (go_at_call 21; refine (a21 _ _).mono ?_; rintro e w' ⟨rfl, rfl⟩) | (go_at_call 22; refine (x22 _ _).mono ?_; rintro e w' ⟨rfl, rfl⟩))
      go_ret
      exact ⟨ret_int HS.out.symm, rfl⟩
    · have HS : Hid (stp 5 c = 5) := by show stp 5 c = 5; simp [stp, hx]
      go_enter Try.func13, Try.ntmps13
      go_wp2_with (first | (go_at_call 15; refine (d15 _ _).mono ?_; rintro e w' ⟨rfl, rfl⟩) | (go_at_call 20; refine (m20 _ _).mono ?_; rintro e w' ⟨rfl, rfl⟩) | (go_at_call 21; refine (a21 _ _).mono ?_; rintro e w' ⟨rfl, rfl⟩) | (go_at_call 22; refine (x22 _ _).mono ?_; rintro e w' ⟨rfl, rfl⟩))
      go_ret
      exact ⟨ret_int HS.out.symm, rfl⟩
  · cases hx : isD c
    · have HS : Hid (stp 6 c = 11) := by show stp 6 c = 11; simp [stp, hx]
      go_enter Try.func13, Try.ntmps13
      go_wp2_with (first | (go_at_call 15; refine (d15 _ _).mono ?_; rintro e w' ⟨rfl, rfl⟩) | (go_at_call 20; refine (m20 _ _).mono ?_; rintro e w' ⟨rfl, rfl⟩) | (go_at_call 21; refine (a21 _ _).mono ?_; rintro e w' ⟨rfl, rfl⟩) | (go_at_call 22; refine (x22 _ _).mono ?_; rintro e w' ⟨rfl, rfl⟩))
      go_ret
      exact ⟨ret_int HS.out.symm, rfl⟩
    · have HS : Hid (stp 6 c = 7) := by show stp 6 c = 7; simp [stp, hx]
      go_enter Try.func13, Try.ntmps13
      go_wp2_with (first | (go_at_call 15; refine (d15 _ _).mono ?_; rintro e w' ⟨rfl, rfl⟩) | (go_at_call 20; refine (m20 _ _).mono ?_; rintro e w' ⟨rfl, rfl⟩) | (go_at_call 21; refine (a21 _ _).mono ?_; rintro e w' ⟨rfl, rfl⟩) | (go_at_call 22; refine (x22 _ _).mono ?_; rintro e w' ⟨rfl, rfl⟩))
      go_ret
      exact ⟨ret_int HS.out.symm, rfl⟩
  · cases hx : isD c
    · by_cases h101 : c = 101
      · subst h101
        go_enter Try.func13, Try.ntmps13
        go_wp2
        go_ret
        exact ⟨rfl, rfl⟩
      by_cases h69 : c = 69
      · subst h69
        go_enter Try.func13, Try.ntmps13
        go_wp2
        go_ret
        exact ⟨rfl, rfl⟩
      have b2 : (c == 101) = false := by simp [h101]
      have b3 : (c == 69) = false := by simp [h69]
      have HS : Hid (stp 7 c = 11) := by show stp 7 c = 11; simp [stp, hx, eB, h101, h69]
      clear h101 h69
      go_enter Try.func13, Try.ntmps13
      go_wp2_with (first | (go_at_call 15; refine (d15 _ _).mono ?_; rintro e w' ⟨rfl, rfl⟩) | (go_at_call 20; refine (m20 _ _).mono ?_; rintro e w' ⟨rfl, rfl⟩) | (go_at_call 21; refine (a21 _ _).mono ?_; rintro e w' ⟨rfl, rfl⟩) | (go_at_call 22; refine (x22 _ _).mono ?_; rintro e w' ⟨rfl, rfl⟩))
      go_ret
      exact ⟨ret_int HS.out.symm, rfl⟩
    · have HS : Hid (stp 7 c = 7) := stp7 c hx
      go_enter Try.func13, Try.ntmps13
      go_wp2_with (first | (go_at_call 15; refine (d15 _ _).mono ?_; rintro e w' ⟨rfl, rfl⟩) | (go_at_call 20; refine (m20 _ _).mono ?_; rintro e w' ⟨rfl, rfl⟩) | (go_at_call 21; refine (a21 _ _).mono ?_; rintro e w' ⟨rfl, rfl⟩) | (go_at_call 22; refine (x22 _ _).mono ?_; rintro e w' ⟨rfl, rfl⟩))
      go_ret
      exact ⟨ret_int HS.out.symm, rfl⟩
  · by_cases h43 : c = 43
    · subst h43
      go_enter Try.func13, Try.ntmps13
      go_wp2
      go_ret
      exact ⟨rfl, rfl⟩
    by_cases h45 : c = 45
    · subst h45
      go_enter Try.func13, Try.ntmps13
      go_wp2
      go_ret
      exact ⟨rfl, rfl⟩
    have b1 : (c == 43) = false := by simp [h43]
    have b2 : (c == 45) = false := by simp [h45]
    cases hx : isD c
    · have HS : Hid (stp 8 c = 11) := by show stp 8 c = 11; simp [stp, sgn, hx, h43, h45]
      clear h43 h45
      go_enter Try.func13, Try.ntmps13
      go_wp2_with (first | (go_at_call 15; refine (d15 _ _).mono ?_; rintro e w' ⟨rfl, rfl⟩) | (go_at_call 20; refine (m20 _ _).mono ?_; rintro e w' ⟨rfl, rfl⟩) | (go_at_call 21; refine (a21 _ _).mono ?_; rintro e w' ⟨rfl, rfl⟩) | (go_at_call 22; refine (x22 _ _).mono ?_; rintro e w' ⟨rfl, rfl⟩))
      go_ret
      exact ⟨ret_int HS.out.symm, rfl⟩
    · have HS : Hid (stp 8 c = 10) := by show stp 8 c = 10; simp [stp, sgn, hx, h43, h45]
      clear h43 h45
      go_enter Try.func13, Try.ntmps13
      go_wp2_with (first | (go_at_call 15; refine (d15 _ _).mono ?_; rintro e w' ⟨rfl, rfl⟩) | (go_at_call 20; refine (m20 _ _).mono ?_; rintro e w' ⟨rfl, rfl⟩) | (go_at_call 21; refine (a21 _ _).mono ?_; rintro e w' ⟨rfl, rfl⟩) | (go_at_call 22; refine (x22 _ _).mono ?_; rintro e w' ⟨rfl, rfl⟩))
      go_ret
      exact ⟨ret_int HS.out.symm, rfl⟩
  · cases hx : isD c
    · have HS : Hid (stp 9 c = 11) := by show stp 9 c = 11; simp [stp, hx]
      go_enter Try.func13, Try.ntmps13
      go_wp2_with (first | (go_at_call 15; refine (d15 _ _).mono ?_; rintro e w' ⟨rfl, rfl⟩) | (go_at_call 20; refine (m20 _ _).mono ?_; rintro e w' ⟨rfl, rfl⟩) | (go_at_call 21; refine (a21 _ _).mono ?_; rintro e w' ⟨rfl, rfl⟩) | (go_at_call 22; refine (x22 _ _).mono ?_; rintro e w' ⟨rfl, rfl⟩))
      go_ret
      exact ⟨ret_int HS.out.symm, rfl⟩
    · have HS : Hid (stp 9 c = 10) := by show stp 9 c = 10; simp [stp, hx]
      go_enter Try.func13, Try.ntmps13
      go_wp2_with (first | (go_at_call 15; refine (d15 _ _).mono ?_; rintro e w' ⟨rfl, rfl⟩) | (go_at_call 20; refine (m20 _ _).mono ?_; rintro e w' ⟨rfl, rfl⟩) | (go_at_call 21; refine (a21 _ _).mono ?_; rintro e w' ⟨rfl, rfl⟩) | (go_at_call 22; refine (x22 _ _).mono ?_; rintro e w' ⟨rfl, rfl⟩))
      go_ret
      exact ⟨ret_int HS.out.symm, rfl⟩
  · cases hx : isD c
    · have HS : Hid (stp 10 c = 11) := by show stp 10 c = 11; simp [stp, hx]
      go_enter Try.func13, Try.ntmps13
      go_wp2_with (first | (go_at_call 15; refine (d15 _ _).mono ?_; rintro e w' ⟨rfl, rfl⟩) | (go_at_call 20; refine (m20 _ _).mono ?_; rintro e w' ⟨rfl, rfl⟩) | (go_at_call 21; refine (a21 _ _).mono ?_; rintro e w' ⟨rfl, rfl⟩) | (go_at_call 22; refine (x22 _ _).mono ?_; rintro e w' ⟨rfl, rfl⟩))
      go_ret
      exact ⟨ret_int HS.out.symm, rfl⟩
    · have HS : Hid (stp 10 c = 10) := by show stp 10 c = 10; simp [stp, hx]
      go_enter Try.func13, Try.ntmps13
      go_wp2_with (first | (go_at_call 15; refine (d15 _ _).mono ?_; rintro e w' ⟨rfl, rfl⟩) | (go_at_call 20; refine (m20 _ _).mono ?_; rintro e w' ⟨rfl, rfl⟩) | (go_at_call 21; refine (a21 _ _).mono ?_; rintro e w' ⟨rfl, rfl⟩) | (go_at_call 22; refine (x22 _ _).mono ?_; rintro e w' ⟨rfl, rfl⟩))
      go_ret
      exact ⟨ret_int HS.out.symm, rfl⟩

theorem stp_bd (q c : Int) : 0 ≤ stp q c ∧ stp q c ≤ 11 := by
  have hm : 0 ≤ mant c ∧ mant c ≤ 11 := by unfold mant; repeat (first | omega | split)
  have ha : 0 ≤ aft c ∧ aft c ≤ 11 := by unfold aft; repeat (first | omega | split)
  unfold stp
  repeat (first | omega | exact hm | exact ha | split)

set_option maxHeartbeats 1600000 in
set_option maxRecDepth 1000000 in
theorem long8 (s : ByteArray) (off : Nat) (w : World) (hs : s.size ≤ 1048576) (ho : off ≤ s.size) :
    Calls Try.prog 8 #[.string s, .int .i64 off] w fun e w' => e = .returned (.tuple #[.int .i64 (L s off 0 off false).1, .bool (L s off 0 off false).2]) ∧ w' = w := by
  go_enter Try.func8, Try.ntmps8
  go_wp2
  go_loopg [6, 7, 8, 9] (s.size - off) (fun g s6 s7 s8 s9 wr => wr = w ∧ ∃ (i : Nat) (q : Int) (e : Nat) (d : Bool), off ≤ i ∧ i ≤ s.size ∧ g = s.size - i ∧ s6 = .int .i64 q ∧ s7 = .int .i64 e ∧ s8 = .bool d ∧ s9 = .int .i64 i ∧ 0 ≤ q ∧ q ≤ 10 ∧ e ≤ s.size ∧ L s i q e d = L s off 0 off false)
  case atStart => exact ⟨rfl, off, 0, off, false, Nat.le_refl _, ho, rfl, rfl, rfl, rfl, rfl, by omega, by omega, ho, rfl⟩
  case round =>
    obtain ⟨rfl, i, q, e, d, hi0, hi, rfl, rfl, rfl, rfl, rfl, hq0, hq1, he, hL⟩ := hrel
    have HL : Hid (L s i q e d = L s off 0 off false) := hL
    clear hL
    by_cases hlt : i < s.size
    · have hltz : (i : Int) < (s.size : Int) := by omega
      have HP : Hid (pk s i = (s[i].toNat : Int)) := pk_in s i hlt
      have hb := stp_bd q (pk s i)
      obtain ⟨q', hq'⟩ : ∃ q', stp q (s[i].toNat : Int) = q' := ⟨_, rfl⟩
      rw [HP.out, hq'] at hb
      have HQ : Hid (stp q (pk s i) = q') := by show stp q (pk s i) = q'; rw [HP.out]; exact hq'
      have Hq' : Hid (stp q (s[i].toNat : Int) = q') := hq'
      clear hq'
      obtain ⟨hb0, hb1⟩ := hb
      go_wp2_with fail
      refine (s13 _ _ _ hq0 hq1).mono ?_
      rintro e1 w1 ⟨rfl, hw⟩
      obtain rfl := hw.symm
      rw [Hq'.out]
      by_cases h11 : q' = 11
      · have hD := step_dead (s := s) (i := i) (q := q) (e := e) (d := d) hi (by rw [HQ.out]; exact h11)
        have HR : Hid (L s off 0 off false = (e, d)) := HL.out.symm.trans hD
        subst h11
        clear hD
        go_wp2
        go_ret2
        exact ⟨by rw [HR.out]; rfl, rfl⟩
      · have h11b : (q' == 11) = false := by simp [h11]
        have hb2 : q' ≤ 10 := by omega
        go_wp2_with fail
        refine (acc14 _ _ hb0 hb2).mono ?_
        rintro e1 w1 ⟨rfl, hw⟩
        obtain rfl := hw.symm
        cases ha : acc q'
        · have hN := step_non (s := s) (i := i) (q := q) (e := e) (d := d) hi HQ.out h11 ha
          have HN : Hid (L s (i + 1) q' e d = L s off 0 off false) := hN.symm.trans HL.out
          clear hN h11
          go_wp2
          go_roundg (s.size - (i + 1))
          case measure => go_light; omega
          case rel => go_light; exact ⟨rfl, i + 1, q', e, d, by omega, by omega, rfl, rfl, rfl, rfl, by simp, hb0, hb2, he, HN.out⟩
        · have hN := step_acc (s := s) (i := i) (q := q) (e := e) (d := d) hi HQ.out h11 ha
          have HN : Hid (L s (i + 1) q' (i + 1) (q' == 7 || q' == 10) = L s off 0 off false) := hN.symm.trans HL.out
          clear hN h11
          by_cases h7 : q' = 7
          · have h7b : (q' == 7) = true := by simp [h7]
            have HN2 : Hid (L s (i + 1) q' (i + 1) true = L s off 0 off false) := by have := HN.out; rw [h7b] at this; exact this
            clear h7
            go_wp2
            go_roundg (s.size - (i + 1))
            case measure => go_light; omega
            case rel => go_light; exact ⟨rfl, i + 1, q', i + 1, true, by omega, by omega, rfl, rfl, by simp, rfl, by simp, hb0, hb2, by omega, HN2.out⟩
          · have h7b : (q' == 7) = false := by simp [h7]
            have HN2 : Hid (L s (i + 1) q' (i + 1) (q' == 10) = L s off 0 off false) := by have := HN.out; rw [h7b] at this; exact this
            clear h7
            go_wp2
            go_roundg (s.size - (i + 1))
            case measure => go_light; omega
            case rel => go_light; exact ⟨rfl, i + 1, q', i + 1, q' == 10, by omega, by omega, rfl, rfl, by simp, rfl, by simp, hb0, hb2, by omega, HN2.out⟩
    · obtain rfl : i = s.size := by omega
      have hltz : ¬ ((s.size : Int) < (s.size : Int)) := by omega
      have HR : Hid (L s off 0 off false = (e, d)) := HL.out.symm.trans (L_end s q e d)
      go_wp2
      go_ret2
      exact ⟨by rw [HR.out]; rfl, rfl⟩
end Go.Proofs.Qxb6617237a
