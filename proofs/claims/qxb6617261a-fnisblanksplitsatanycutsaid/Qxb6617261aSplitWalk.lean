/-
  SEAT b6617261a: THE WALK OF FnIsBlankSplitsAtAnyCut.
-/
import Derived.Test.Qxb6617261aOneWalk
namespace Go.Proofs.Qxb6617261a
open Go.RowKit Go.Deep
set_option linter.unusedVariables false

theorem bytes10 (s : ByteArray) (i : Int) (w : World) (h1 : s.size ≤ maxLen) :
    Calls Try.prog 10 #[.string s, .int .i64 i] w fun e w' => Ans e ∧ w' = w := by
  unfold maxLen at h1
  go_enter Try.func10, Try.ntmps10
  go_wp2
  all_goals
    go_ret
    exact ⟨.intro _, rfl⟩

set_option maxHeartbeats 1600000 in
set_option maxRecDepth 1000000 in
theorem split_walk (s : ByteArray) (ii : Int) (w1 : s.size ≤ maxLen) (w : World) :
    Calls Try.prog 4 #[.string s, .int .i64 ii] w fun e w' => e = .returned (.bool true) ∧ Below w.heap.size w w' := by
  go_enter Try.func4, Try.ntmps4
  go_wp2_with fail
  refine (bytes10 s ii w w1).mono ?_
  rintro e w' ⟨⟨b1, rfl⟩, hw⟩
  obtain rfl := hw.symm
  clear w1
  cases b1
  · go_wp2
    go_ret
    exact ⟨rfl, Below.refl _ _⟩
  by_cases hsz : s.size ≤ 1048576
  case neg =>
    have hq : (1048576 : Int) < (s.size : Int) := by omega
    go_wp2
    go_ret
    exact ⟨rfl, Below.refl _ _⟩
  by_cases ho : 0 ≤ ii ∧ ii ≤ s.size
  case neg =>
    go_wp2_with fail
    all_goals
      go_ret
      exact ⟨rfl, Below.refl _ _⟩
  obtain ⟨o1, o2⟩ := ho
  obtain ⟨i, rfl⟩ : ∃ i : Nat, ii = i := ⟨ii.toNat, by omega⟩
  have hi : i ≤ s.size := by omega
  have HB : Hid ((blank (s.extract 0 i) && blank (s.extract i s.size)) = blank s) := blank_cut s i hi
  have q1 : (s.extract 0 i).size ≤ 2097152 := by simp only [ByteArray.size_extract]; omega
  have q2 : (s.extract i s.size).size ≤ 2097152 := by simp only [ByteArray.size_extract]; omega
  have HQ : Hid ((s.extract 0 i).size ≤ 2097152 ∧ (s.extract i s.size).size ≤ 2097152) := ⟨q1, q2⟩
  clear q1 q2
  go_wp2_with fail
  refine (blank9 s _ (by omega)).mono ?_
  rintro e w1 ⟨rfl, hw1⟩
  obtain rfl := hw1.symm
  go_wp2_with fail
  refine (blank9 (s.extract 0 i) _ HQ.out.1).mono ?_
  rintro e w1 ⟨rfl, hw1⟩
  obtain rfl := hw1.symm
  have C := count11 s w hsz
  have HC : Hid (Calls Try.prog 11 #[.string s] w fun e w' => (∃ n : Nat, e = .returned (.int .i64 n) ∧ ((n == 0) = blank s)) ∧ w' = w) := C
  clear C
  have D := blank9 (s.extract i s.size) w HQ.out.2
  have HD : Hid (Calls Try.prog 9 #[.string (s.extract i s.size)] w fun e w' => e = .returned (.bool (blank (s.extract i s.size))) ∧ w' = w) := D
  clear D HQ
  generalize blank (s.extract 0 i) = x at HB ⊢
  generalize blank (s.extract i s.size) = y at HB HD
  generalize blank s = z at HB HC ⊢
  obtain rfl := HB.out
  clear HB
  cases x
  · go_wp2_with fail
    refine HC.out.mono ?_
    rintro e w1 ⟨⟨n, rfl, hn⟩, hw1⟩
    obtain rfl := hw1.symm
    have hn' : ((n : Int) == 0) = false := by
      have : n ≠ 0 := by simpa using hn
      simp [this]
    clear hn
    go_wp2
    go_ret
    exact ⟨rfl, Below.refl _ _⟩
  · go_wp2_with fail
    refine HD.out.mono ?_
    rintro e w1 ⟨rfl, hw1⟩
    obtain rfl := hw1.symm
    cases y
    all_goals
      go_wp2_with fail
      refine HC.out.mono ?_
      rintro e w1 ⟨⟨n, rfl, hn⟩, hw1⟩
      obtain rfl := hw1.symm
    · have hn' : ((n : Int) == 0) = false := by
        have : n ≠ 0 := by simpa using hn
        simp [this]
      clear hn
      go_wp2
      go_ret
      exact ⟨rfl, Below.refl _ _⟩
    · have hn' : n = 0 := by simpa using hn
      subst hn'
      go_wp2
      go_ret
      exact ⟨rfl, Below.refl _ _⟩
end Go.Proofs.Qxb6617261a
