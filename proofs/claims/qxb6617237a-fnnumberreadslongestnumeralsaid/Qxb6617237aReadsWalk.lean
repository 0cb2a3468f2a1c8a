/-
  SEAT b6617237a: THE WALK OF FnNumberReadsLongestNumeral.
-/
import Derived.Test.Qxb6617237aZZ
import Derived.Test.Qxb6617237aLong
namespace Go.Proofs.Qxb6617237a
open Go.RowKit Go.Deep
set_option linter.unusedVariables false

theorem dec_cast2 (a b : Nat) : decide ((a : Int) ≤ (b : Int) + 1) = decide (a ≤ b + 1) := by
  by_cases h : a ≤ b + 1
  · rw [decide_eq_true h, decide_eq_true (by omega)]
  · rw [decide_eq_false h, decide_eq_false (by omega)]

set_option maxHeartbeats 1600000 in
set_option maxRecDepth 1000000 in
theorem reads_walk (f s : ByteArray) (off : Int) (h : Bool) (w0 : f.size ≤ maxLen) (w1 : s.size ≤ maxLen) (w : World) :
    Calls Try.prog 3 #[.string f, .string s, .int .i64 off, .bool h] w fun e w' => e = .returned (.bool true) ∧ Below w.heap.size w w' := by
  go_enter Try.func3, Try.ntmps3
  go_wp2_with fail
  refine (bytes6 f s off h w w0 w1).mono ?_
  rintro e w' ⟨⟨b1, rfl⟩, hw⟩
  obtain rfl := hw.symm
  clear w0 w1
  cases b1
  · go_wp2
    go_ret
    exact ⟨rfl, Below.refl _ _⟩
  by_cases hsz : f.size ≤ 524288 ∧ s.size ≤ 524288
  case neg =>
    go_wp2_with fail
    all_goals
      go_ret
      exact ⟨rfl, Below.refl _ _⟩
  obtain ⟨z1, z2⟩ := hsz
  by_cases ho : 0 ≤ off ∧ off < s.size
  case neg =>
    go_wp2_with fail
    all_goals
      go_ret
      exact ⟨rfl, Below.refl _ _⟩
  obtain ⟨o1, o2⟩ := ho
  obtain ⟨i, rfl⟩ : ∃ i : Nat, off = i := ⟨off.toNat, by omega⟩
  have hi : i < s.size := by omega
  have HP : Hid (pk s i = (s[i].toNat : Int)) := pk_in s i hi
  go_upto_region 7 with fail
  go_cut [55] (fun s55 wx => s55 = .bool (sgn (pk s i) && decide (s.size ≤ i + 1)) ∧ w = wx)
  case first =>
    by_cases h1 : (s[i].toNat : Int) = 43
    · have h1b : ((s[i].toNat : Int) == 43) = true := by simp [h1]
      have HS : Hid (sgn (pk s i) = true) := by show sgn (pk s i) = true; rw [HP.out, sgn, h1b]; rfl
      clear h1
      go_wp2
      go_meet
      exact ⟨by rw [HS.out, dec_cast2]; rfl, rfl⟩
    · have h1b : ((s[i].toNat : Int) == 43) = false := by simp [h1]
      by_cases h2 : (s[i].toNat : Int) = 45
      · have h2b : ((s[i].toNat : Int) == 45) = true := by simp [h2]
        have HS : Hid (sgn (pk s i) = true) := by show sgn (pk s i) = true; rw [HP.out, sgn, h1b, h2b]; rfl
        clear h1 h2
        go_wp2
        go_meet
        exact ⟨by rw [HS.out, dec_cast2]; rfl, rfl⟩
      · have h2b : ((s[i].toNat : Int) == 45) = false := by simp [h2]
        have HS : Hid (sgn (pk s i) = false) := by show sgn (pk s i) = false; rw [HP.out, sgn, h1b, h2b]; rfl
        clear h1 h2
        go_wp2
        go_meet
        exact ⟨by rw [HS.out]; rfl, rfl⟩
  case rest =>
    obtain ⟨rfl, rfl⟩ := hcut
    by_cases hq : sgn (pk s i) = true ∧ s.size ≤ i + 1
    · have e : (sgn (pk s i) && decide (s.size ≤ i + 1)) = true := by rw [hq.1, decide_eq_true hq.2]; rfl
      rw [e]
      go_wp2
      go_ret
      exact ⟨rfl, Below.refl _ _⟩
    have e : (sgn (pk s i) && decide (s.size ≤ i + 1)) = false := by
      cases hg : sgn (pk s i)
      · rfl
      · rw [decide_eq_false (fun h => hq ⟨hg, h⟩)]; rfl
    rw [e]
    clear e
    have hsg : sgn (pk s i) = true → i + 1 < s.size := fun h => by
      rcases Nat.lt_or_ge (i + 1) s.size with q | q
      · exact q
      · exact absurd ⟨h, q⟩ hq
    have Hsg : Hid (sgn (pk s i) = true → i + 1 < s.size) := hsg
    clear hsg hq
    go_wp2_with fail
    refine (zz_any f s i h w (by omega) hi Hsg.out).mono ?_
    rintro e w1 ⟨k, en, rfl, hN, hen, k1⟩
    have HR : Hid (L s i 0 i false = (en, k == 3)) := hN.auto hen
    have hk := hN.le.2
    clear hN
    go_wp2_with fail
    refine (long8 s i w1 (by omega) (by omega)).mono ?_
    rintro e w2 ⟨rfl, hw2⟩
    obtain rfl := hw2.symm
    rw [HR.out]
    rcases hk with rfl | rfl
    all_goals
      go_wp2
      go_ret
      exact ⟨rfl, k1.below (Nat.le_refl _) (fun _ _ f => f)⟩
end Go.Proofs.Qxb6617237a
