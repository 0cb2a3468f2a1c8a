/-
  SEAT b6617237a: THE WALK OF FnNumberEndsAtBlank.
-/
import Derived.Test.Qxb6617237aZZ
import Derived.Test.Qxb6617237aPlain
import Derived.Test.Qxb6617237aStr
namespace Go.Proofs.Qxb6617237a
open Go.RowKit Go.Deep
set_option linter.unusedVariables false

def startsB (c : Int) : Bool := isD c || c == 43 || c == 45

theorem starts_any (c : Int) (w : World) : Calls Try.prog 10 #[.int .u8 c] w fun e w' => e = .returned (.bool (startsB c)) ∧ w' = w := by
  by_cases h1 : 48 ≤ c ∧ c ≤ 57
  · obtain ⟨h1, h2⟩ := h1
    go_enter Try.func10, Try.ntmps10
    go_wp2
    go_ret
    exact ⟨ret_bool (by simp [startsB, isD, h1, h2]), rfl⟩
  · have Hd : Hid (isD c = false) := by show isD c = false; rw [isD]; simp; omega
    go_enter Try.func10, Try.ntmps10
    go_wp2
    · have hc : 57 < c := by assumption
      go_ret
      exact ⟨ret_bool (by rw [startsB, Hd.out, decide_eq_false (by omega)]), rfl⟩
    · go_ret
      exact ⟨rfl, rfl⟩
    · go_ret
      exact ⟨ret_bool (by rw [startsB, Hd.out]; rfl), rfl⟩

theorem dec_cast (a b : Nat) : decide ((a : Int) ≤ (b : Int) + 1) = decide (a ≤ b + 1) := by
  by_cases h : a ≤ b + 1
  · rw [decide_eq_true h, decide_eq_true (by omega)]
  · rw [decide_eq_false h, decide_eq_false (by omega)]

set_option maxHeartbeats 1600000 in
set_option maxRecDepth 1000000 in
theorem ends_walk (f s : ByteArray) (off : Int) (h : Bool) (t : ByteArray) (w0 : f.size ≤ maxLen) (w1 : s.size ≤ maxLen) (w4 : t.size ≤ maxLen) (w : World) :
    Calls Try.prog 4 #[.string f, .string s, .int .i64 off, .bool h, .string t] w fun e w' => e = .returned (.bool true) ∧ Below w.heap.size w w' := by
  go_enter Try.func4, Try.ntmps4
  go_wp2_with fail
  refine (bytes9 f s t off h w w0 w1 w4).mono ?_
  rintro e w' ⟨⟨b1, rfl⟩, hw⟩
  obtain rfl := hw.symm
  clear w0 w1 w4
  cases b1
  · go_wp2
    go_ret
    exact ⟨rfl, Below.refl _ _⟩
  by_cases hsz : f.size ≤ 262144 ∧ s.size ≤ 262144 ∧ t.size ≤ 262144
  case neg =>
    go_wp2_with fail
    all_goals
      go_ret
      exact ⟨rfl, Below.refl _ _⟩
  obtain ⟨z1, z2, z3⟩ := hsz
  by_cases ho : 0 ≤ off ∧ off < s.size
  case neg =>
    go_wp2_with fail
    all_goals
      go_ret
      exact ⟨rfl, Below.refl _ _⟩
  obtain ⟨o1, o2⟩ := ho
  obtain ⟨i, rfl⟩ : ∃ i : Nat, off = i := ⟨off.toNat, by omega⟩
  have hi : i < s.size := by omega
  have HP : Hid (pk s i = (s[i].toNat : Int)) := pk_in s i hi
  go_upto_region 7 with fail
  go_cut [65] (fun s65 wx => s65 = .bool (sgn (pk s i) && decide (s.size ≤ i + 1)) ∧ w = wx)
  case first =>
    by_cases h1 : (s[i].toNat : Int) = 43
    · have h1b : ((s[i].toNat : Int) == 43) = true := by simp [h1]
      have HS : Hid (sgn (pk s i) = true) := by show sgn (pk s i) = true; rw [HP.out, sgn, h1b]; rfl
      clear h1
      go_wp2
      go_meet
      exact ⟨by rw [HS.out, dec_cast]; rfl, rfl⟩
    · have h1b : ((s[i].toNat : Int) == 43) = false := by simp [h1]
      by_cases h2 : (s[i].toNat : Int) = 45
      · have h2b : ((s[i].toNat : Int) == 45) = true := by simp [h2]
        have HS : Hid (sgn (pk s i) = true) := by show sgn (pk s i) = true; rw [HP.out, sgn, h1b, h2b]; rfl
        clear h1 h2
        go_wp2
        go_meet
        exact ⟨by rw [HS.out, dec_cast]; rfl, rfl⟩
      · have h2b : ((s[i].toNat : Int) == 45) = false := by simp [h2]
        have HS : Hid (sgn (pk s i) = false) := by show sgn (pk s i) = false; rw [HP.out, sgn, h1b, h2b]; rfl
        clear h1 h2
        go_wp2
        go_meet
        exact ⟨by rw [HS.out]; rfl, rfl⟩
  case rest =>
    obtain ⟨rfl, rfl⟩ := hcut
    by_cases hq : sgn (pk s i) = true ∧ s.size ≤ i + 1
    · have e : (sgn (pk s i) && decide (s.size ≤ i + 1)) = true := by rw [hq.1, decide_eq_true hq.2]; rfl
      rw [e]
      go_wp2
      go_ret
      exact ⟨rfl, Below.refl _ _⟩
    have e : (sgn (pk s i) && decide (s.size ≤ i + 1)) = false := by
      cases hg : sgn (pk s i)
      · rfl
      · rw [decide_eq_false (fun h => hq ⟨hg, h⟩)]; rfl
    rw [e]
    clear e
    have hsg : sgn (pk s i) = true → i + 1 < s.size := fun h => by
      rcases Nat.lt_or_ge (i + 1) s.size with q | q
      · exact q
      · exact absurd ⟨h, q⟩ hq
    have Hsg : Hid (sgn (pk s i) = true → i + 1 < s.size) := hsg
    clear hsg hq
    go_wp2_with fail
    refine (zz_any f s i h w (by omega) hi Hsg.out).mono ?_
    rintro e w1 ⟨k, en, rfl, hN, hen, k1⟩
    have HN : Hid (Num s i k en) := hN
    have hle : i ≤ en := by have := hN.le.1; have := past_le s i; omega
    have hgt : startsB (s[i].toNat : Int) = true → i < en := fun q => hN.gt (by
      rw [HP.out]
      simp only [startsB, Bool.or_eq_true] at q
      rcases q with (q | q) | q
      · exact Or.inl q
      · exact Or.inr (by rw [sgn, q]; rfl)
      · exact Or.inr (by rw [sgn, q]; simp))
    have Hgt : Hid (startsB (s[i].toNat : Int) = true → i < en) := hgt
    have hk := hN.le.2
    clear hN hgt
    have HQ : Hid ((blk s t en).size ≤ 1048576 ∧ i < (blk s t en).size ∧ (sgn (pk (blk s t en) i) = true → i + 1 < (blk s t en).size) ∧ Num (blk s t en) i k en) := by
      refine ⟨by rw [blk_size s t en hen]; omega, by rw [blk_size s t en hen]; omega, fun q => ?_, HN.out.again (fun j hj => blk_before s t en hen j hj) (blk_at s t en hen)⟩
      rw [blk_size s t en hen]
      rcases Nat.lt_or_ge i en with r | r
      · omega
      · have e : i = en := by omega
        rw [e, blk_at s t en hen] at q
        simp [sgn] at q
    rcases hk with rfl | rfl
    all_goals
      go_wp2_with fail
      refine (starts_any _ _).mono ?_
      rintro e w2 ⟨rfl, hw2⟩
      obtain rfl := hw2.symm
      cases hst : startsB (s[i].toNat : Int)
      · go_wp2_with fail
        generalize hS : s.extract 0 en ++ (⟨#[32]⟩ : ByteArray) ++ t = S2
        have hB : blk s t en = S2 := hS
        obtain ⟨q1, q2, q3, hag⟩ := HQ.out
        rw [hB] at q1 q2 q3 hag
        have HS : Hid (blk s t en = S2) := hB
        clear hS hB HQ
        refine (zz_any f S2 i h w1 q1 q2 q3).mono ?_
        rintro e w3 ⟨k2, en2, rfl, hN2, -, k3⟩
        obtain ⟨rfl, rfl⟩ := hN2.unique hag
        clear q1 q2 q3 hag hN2
        go_wp2
        go_ret
        exact ⟨rfl, (k1.trans k3 (fun _ _ f => f)).below (Nat.le_refl _) (fun _ _ f => f)⟩
      · have hl := Hgt.out hst
        have hlz : ¬ ((en : Int) ≤ (i : Int)) := by omega
        go_wp2_with fail
        generalize hS : s.extract 0 en ++ (⟨#[32]⟩ : ByteArray) ++ t = S2
        have hB : blk s t en = S2 := hS
        obtain ⟨q1, q2, q3, hag⟩ := HQ.out
        rw [hB] at q1 q2 q3 hag
        have HS : Hid (blk s t en = S2) := hB
        clear hS hB HQ
        refine (zz_any f S2 i h w1 q1 q2 q3).mono ?_
        rintro e w3 ⟨k2, en2, rfl, hN2, -, k3⟩
        obtain ⟨rfl, rfl⟩ := hN2.unique hag
        clear q1 q2 q3 hag hN2
        go_wp2
        go_ret
        exact ⟨rfl, (k1.trans k3 (fun _ _ f => f)).below (Nat.le_refl _) (fun _ _ f => f)⟩
end Go.Proofs.Qxb6617237a
