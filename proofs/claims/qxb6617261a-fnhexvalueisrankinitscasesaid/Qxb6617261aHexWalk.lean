/-
  SEAT b6617261a: THE WALK OF FnHexValueIsRankInItsCase.
-/
import Derived.Test.Qxb6617261aOneWalk
namespace Go.Proofs.Qxb6617261a
open Go.RowKit Go.Deep
set_option linter.unusedVariables false

def isDec (c : Int) : Bool := decide (48 ≤ c) && decide (c ≤ 57)
/-- hexValue's two answers. -/
def hvB (c : Int) : Bool := isDec c || (decide (97 ≤ c) && decide (c ≤ 102)) || (decide (65 ≤ c) && decide (c ≤ 70))
def hvV (c : Int) : Int := if isDec c then c - 48 else if 97 ≤ c ∧ c ≤ 102 then c - 97 + 10 else if 65 ≤ c ∧ c ≤ 70 then c - 65 + 10 else 0
def cls (c : Int) : Int := if 97 ≤ c ∧ c ≤ 122 then 1 else if 65 ≤ c ∧ c ≤ 90 then 2 else 0
/-- How many of the first d bytes are accepted and of letter kind 0 or k. -/
def rk (k : Int) : Nat → Nat
  | 0 => 0
  | d + 1 => rk k d + if hvB d && (cls d == 0 || cls d == k) then 1 else 0

theorem dec8 (c : Int) (w : World) : Calls Try.prog 8 #[.int .u8 c] w fun e w' => e = .returned (.bool (isDec c)) ∧ w' = w := by
  by_cases h1 : 48 ≤ c
  · go_enter Try.func8, Try.ntmps8
    go_wp2
    go_ret
    exact ⟨ret_bool (by simp [isDec, h1]), rfl⟩
  · go_enter Try.func8, Try.ntmps8
    go_wp2
    go_ret
    exact ⟨ret_bool (by rw [isDec, decide_eq_false (by omega)]; rfl), rfl⟩

theorem cls7 (c : Int) (w : World) : Calls Try.prog 7 #[.int .u8 c] w fun e w' => e = .returned (.int .i64 (cls c)) ∧ w' = w := by
  by_cases h1 : 97 ≤ c ∧ c ≤ 122
  · have HS : Hid (cls c = 1) := by show cls c = 1; rw [cls, if_pos h1]
    obtain ⟨h1, h2⟩ := h1
    go_enter Try.func7, Try.ntmps7
    go_wp2
    go_ret
    exact ⟨ret_int HS.out.symm, rfl⟩
  · by_cases h2 : 65 ≤ c ∧ c ≤ 90
    · have HS : Hid (cls c = 2) := by show cls c = 2; rw [cls, if_neg h1, if_pos h2]
      obtain ⟨h2, h3⟩ := h2
      have h4 : ¬ 97 ≤ c := by omega
      go_enter Try.func7, Try.ntmps7
      go_wp2
      go_ret
      exact ⟨ret_int HS.out.symm, rfl⟩
    · have HS : Hid (cls c = 0) := by show cls c = 0; rw [cls, if_neg h1, if_neg h2]
      go_enter Try.func7, Try.ntmps7
      go_wp2
      all_goals
        go_ret
        exact ⟨ret_int HS.out.symm, rfl⟩

theorem hex14 (c : Int) (h0 : 0 ≤ c) (h255 : c ≤ 255) (w : World) : Calls Try.prog 14 #[.int .u8 c] w fun e w' => e = .returned (.tuple #[.int .u8 (hvV c), .bool (hvB c)]) ∧ w' = w := by
  by_cases h1 : 48 ≤ c ∧ c ≤ 57
  · have hd : isDec c = true := by simp [isDec, h1]
    have HS : Hid (hvV c = c - 48 ∧ hvB c = true) := ⟨by rw [hvV, if_pos hd], by rw [hvB, hd]; rfl⟩
    clear hd
    obtain ⟨h1, h2⟩ := h1
    go_enter Try.func14, Try.ntmps14
    go_wp2
    go_ret2
    exact ⟨by rw [HS.out.1, HS.out.2]; rfl, rfl⟩
  have hd : isDec c = false := by simp [isDec]; omega
  by_cases h2 : 97 ≤ c ∧ c ≤ 102
  · have HS : Hid (hvV c = c - 97 + 10 ∧ hvB c = true) := ⟨by rw [hvV, if_neg (by rw [hd]; simp), if_pos h2], by rw [hvB, hd, decide_eq_true h2.1, decide_eq_true h2.2]; rfl⟩
    clear hd
    obtain ⟨h2, h3⟩ := h2
    have h4 : ¬ c ≤ 57 := by omega
    have h5 : 48 ≤ c := by omega
    clear h1
    go_enter Try.func14, Try.ntmps14
    go_wp2
    go_ret2
    exact ⟨by rw [HS.out.1, HS.out.2]; rfl, rfl⟩
  by_cases h3 : 65 ≤ c ∧ c ≤ 70
  · have HS : Hid (hvV c = c - 65 + 10 ∧ hvB c = true) := ⟨by rw [hvV, if_neg (by rw [hd]; simp), if_neg h2, if_pos h3], by rw [hvB, hd, decide_eq_true h3.1, decide_eq_true h3.2]; simp⟩
    clear hd
    obtain ⟨h3, h6⟩ := h3
    have h4 : ¬ c ≤ 57 := by omega
    have h5 : 48 ≤ c := by omega
    have h7 : ¬ 97 ≤ c := by omega
    clear h1 h2
    go_enter Try.func14, Try.ntmps14
    go_wp2
    go_ret2
    exact ⟨by rw [HS.out.1, HS.out.2]; rfl, rfl⟩
  have HS : Hid (hvV c = 0 ∧ hvB c = false) := ⟨by rw [hvV, if_neg (by rw [hd]; simp), if_neg h2, if_neg h3], by
    have e1 : (decide (97 ≤ c) && decide (c ≤ 102)) = false := by simp; omega
    have e2 : (decide (65 ≤ c) && decide (c ≤ 70)) = false := by simp; omega
    rw [hvB, hd, e1, e2]; rfl⟩
  clear hd
  go_enter Try.func14, Try.ntmps14
  go_wp2
  all_goals
    go_ret2
    exact ⟨by rw [HS.out.1, HS.out.2]; rfl, rfl⟩

theorem hex6 (c : Int) (h0 : 0 ≤ c) (h255 : c ≤ 255) (w : World) : Calls Try.prog 6 #[.int .u8 c] w fun e w' => e = .returned (.tuple #[.int .u8 (hvV c), .bool (hvB c)]) ∧ w' = w := by
  go_enter Try.func6, Try.ntmps6
  go_wp2_with (go_at_call 14; refine (hex14 c h0 h255 w).mono ?_; rintro e w' ⟨rfl, rfl⟩)
  go_ret2
  exact ⟨rfl, rfl⟩

/-! ### THE PLAIN LAW, byte by byte -/
def lawB (n : Nat) : Bool :=
  (hvB n == ((isDec n || cls n != 0) && decide (rk (cls n) n < 16))) && (!hvB n || hvV n == rk (cls n) n) && (hvB n || hvV n == 0) &&
  (cls n == 0 || (decide (64 ≤ n) && ((hvV (if cls n = 1 then (n : Int) - 32 else (n : Int) + 32)) == hvV n) && (hvB (if cls n = 1 then (n : Int) - 32 else (n : Int) + 32) == hvB n))) && (!hvB n || !wht n)

theorem law_all : ∀ n : Fin 256, lawB n.val = true := by decide +kernel

theorem xor_lo : ∀ n : Fin 256, 97 ≤ n.val → n.val ≤ 122 → bits .xor .u8 (n.val : Int) 32 = (n.val : Int) - 32 := by decide +kernel
theorem xor_up : ∀ n : Fin 256, 65 ≤ n.val → n.val ≤ 90 → bits .xor .u8 (n.val : Int) 32 = (n.val : Int) + 32 := by decide +kernel

theorem rk_le (k : Int) (d : Nat) : rk k d ≤ d := by
  induction d with
  | zero => exact Nat.le_refl _
  | succ d ih => simp only [rk]; split <;> omega

set_option maxHeartbeats 1600000 in
set_option maxRecDepth 1000000 in
theorem hex_walk (cc : Int) (h0 : 0 ≤ cc) (h255 : cc ≤ 255) (w : World) :
    Calls Try.prog 3 #[.int .u8 cc] w fun e w' => e = .returned (.bool true) ∧ Below w.heap.size w w' := by
  obtain ⟨c, rfl⟩ : ∃ c : Nat, cc = c := ⟨cc.toNat, by omega⟩
  have hc : c < 256 := by omega
  go_enter Try.func3, Try.ntmps3
  go_wp2_with fail
  refine (hex6 c h0 h255 w).mono ?_
  rintro e w' ⟨rfl, hw⟩
  obtain rfl := hw.symm
  go_wp2_with fail
  refine (cls7 c w).mono ?_
  rintro e w' ⟨rfl, hw⟩
  obtain rfl := hw.symm
  go_wp2_with fail
  go_loopg [6, 7] c (fun g n i wr => wr = w ∧ ∃ d : Nat, d ≤ c ∧ g = c - d ∧ i = .int .i64 d ∧ n = .int .i64 (rk (cls c) d))
  case atStart => exact ⟨rfl, 0, Nat.zero_le _, rfl, rfl, rfl⟩
  case round =>
    obtain ⟨rfl, d, hd, rfl, rfl, rfl⟩ := hrel
    have hrk := rk_le (cls c) d
    by_cases hlt : d < c
    · have hltz : (d : Int) < (c : Int) := by omega
      have HR : Hid (rk (cls c) (d + 1) = rk (cls c) d + if hvB d && (cls d == 0 || cls d == cls c) then 1 else 0) := rfl
      go_wp2_with fail
      refine (hex6 d (by omega) (by omega) wr).mono ?_
      rintro e w1 ⟨rfl, hw1⟩
      obtain rfl := hw1.symm
      cases hb : hvB d
      · have HR2 : Hid (rk (cls c) (d + 1) = rk (cls c) d) := by show rk (cls c) (d + 1) = _; rw [HR.out, hb]; rfl
        go_wp2
        go_roundg (c - (d + 1))
        case measure => go_light; omega
        case rel => go_light; exact ⟨rfl, d + 1, by omega, rfl, by simp, by rw [HR2.out]⟩
      · go_wp2_with fail
        refine (cls7 d wr).mono ?_
        rintro e w1 ⟨rfl, hw1⟩
        obtain rfl := hw1.symm
        cases hk1 : (cls d == 0)
        · cases hk2 : (cls d == cls c)
          · have HR2 : Hid (rk (cls c) (d + 1) = rk (cls c) d) := by show rk (cls c) (d + 1) = _; rw [HR.out, hb, hk1, hk2]; rfl
            go_wp2
            go_roundg (c - (d + 1))
            case measure => go_light; omega
            case rel => go_light; exact ⟨rfl, d + 1, by omega, rfl, by simp, by rw [HR2.out]⟩
          · have HR2 : Hid (rk (cls c) (d + 1) = rk (cls c) d + 1) := by show rk (cls c) (d + 1) = _; rw [HR.out, hb, hk1, hk2]; rfl
            go_wp2
            go_roundg (c - (d + 1))
            case measure => go_light; omega
            case rel => go_light; exact ⟨rfl, d + 1, by omega, rfl, by simp, by rw [HR2.out]; simp⟩
        · have HR2 : Hid (rk (cls c) (d + 1) = rk (cls c) d + 1) := by show rk (cls c) (d + 1) = _; rw [HR.out, hb, hk1]; rfl
          go_wp2
          go_roundg (c - (d + 1))
          case measure => go_light; omega
          case rel => go_light; exact ⟨rfl, d + 1, by omega, rfl, by simp, by rw [HR2.out]; simp⟩
    · obtain rfl : d = c := by omega
      have hltz : ¬ ((d : Int) < (d : Int)) := by omega
      have HL : Hid (lawB d = true) := law_all ⟨d, hc⟩
      go_wp2_with fail
      refine (dec8 d wr).mono ?_
      rintro e w1 ⟨rfl, hw1⟩
      obtain rfl := hw1.symm
      obtain ⟨L1, L2, L3, L4, L5⟩ : hvB d = ((isDec d || cls d != 0) && decide (rk (cls d) d < 16)) ∧ (hvB d = true → hvV d = rk (cls d) d) ∧ (hvB d = false → hvV d = 0) ∧
          ((cls d == 0) = false → 64 ≤ d ∧ hvV (if cls d = 1 then (d : Int) - 32 else (d : Int) + 32) = hvV d ∧ hvB (if cls d = 1 then (d : Int) - 32 else (d : Int) + 32) = hvB d) ∧ (hvB d = true → wht d = false) := by
        have := HL.out
        simp only [lawB, Bool.and_eq_true, Bool.or_eq_true, beq_iff_eq, decide_eq_true_eq, Bool.not_eq_true'] at this
        obtain ⟨⟨⟨⟨q1, q2⟩, q3⟩, q4⟩, q5⟩ := this
        refine ⟨q1, fun h => ?_, fun h => ?_, fun h => ?_, fun h => ?_⟩
        · rcases q2 with q | q
          · rw [q] at h; simp at h
          · exact q
        · rcases q3 with q | q
          · rw [q] at h; simp at h
          · exact q
        · rcases q4 with q | ⟨⟨r1, r2⟩, r3⟩
          · rw [q] at h; simp at h
          · exact ⟨r1, r2, r3⟩
        · rcases q5 with q | q
          · rw [q] at h; simp at h
          · exact q
      clear HL
      have hrk2 : rk (cls d) d ≤ 255 := by omega
      generalize hvV (d : Int) = v at L2 L3 L4 ⊢
      generalize hvB (d : Int) = ok at L1 L2 L3 L4 L5 ⊢
      generalize isDec (d : Int) = dc at L1 ⊢
      generalize rk (cls d) d = r at L1 L2 hrk2 ⊢
      have HL4 : Hid ((cls d == 0) = false → 64 ≤ d ∧ hvV (if cls d = 1 then (d : Int) - 32 else (d : Int) + 32) = v ∧ hvB (if cls d = 1 then (d : Int) - 32 else (d : Int) + 32) = ok) := L4
      have HL2 : Hid (ok = true → v = r) := L2
      have HL3 : Hid (ok = false → v = 0) := L3
      have HL5 : Hid (ok = true → wht d = false) := L5
      clear L2 L3 L4 L5
      have hk : (cls d = 0) ∨ (cls d = 1 ∧ 97 ≤ d ∧ d ≤ 122) ∨ (cls d = 2 ∧ 65 ≤ d ∧ d ≤ 90) := by
        by_cases h1 : 97 ≤ (d : Int) ∧ (d : Int) ≤ 122
        · exact Or.inr (Or.inl ⟨by rw [cls, if_pos h1], by omega, by omega⟩)
        · by_cases h2 : 65 ≤ (d : Int) ∧ (d : Int) ≤ 90
          · exact Or.inr (Or.inr ⟨by rw [cls, if_neg h1, if_pos h2], by omega, by omega⟩)
          · exact Or.inl (by rw [cls, if_neg h1, if_neg h2])
      obtain ⟨o, hO⟩ : ∃ o, strOfNums [(d : Int)] = o := ⟨_, rfl⟩
      have hcv := conv_one wr d
      have b1 := blank_one d (by omega) (by omega)
      have z1 := strOfNums_size [(d : Int)]
      rw [hO] at hcv b1 z1
      have Hbo : Hid (blank o = wht d) := b1
      have zo : o.size ≤ 1 := by rw [z1]; simp
      clear hO b1 z1
      have Bel : Below wr.heap.size wr (wr.alloc (.cells #[.int .u8 (d : Int)] 5)) := ((Kept.refl (fun _ => False) wr).alloc _).below (Nat.le_refl _) (fun _ _ f => f)
      rcases hk with hk | ⟨hk, k1, k2⟩ | ⟨hk, k1, k2⟩
      · rw [hk] at L1 ⊢
        have e0 : ((0 : Int) != 0) = false := by decide
        rw [e0, Bool.or_false] at L1
        clear HL4 hk e0
        cases dc
        · have hok : ok = false := by rw [L1]; rfl
          subst hok
          obtain rfl := HL3.out rfl
          clear L1 HL2 HL3
          go_wp2
          go_ret
          exact ⟨rfl, Below.refl _ _⟩
        · by_cases hr : r < 16
          · have hok : ok = true := by rw [L1, decide_eq_true hr]; rfl
            subst hok
            obtain rfl := HL2.out rfl
            clear L1 HL2 HL3
            have hrz : (r : Int) < 16 := by omega
            have hwr : IntKind.u8.wrap (r : Int) = r := by rw [IntKind.wrap_u8']; omega
            go_wp2_with fail
            refine (blank9 o _ (by omega)).mono ?_
            rintro e w1 ⟨rfl, hw1⟩
            obtain rfl := hw1.symm
            rw [Hbo.out, HL5.out (by trivial)]
            go_wp2
            go_ret
            exact ⟨rfl, Bel⟩
          · have hok : ok = false := by rw [L1, decide_eq_false hr]; rfl
            subst hok
            obtain rfl := HL3.out rfl
            clear L1 HL2 HL3
            have hrz : ¬ ((r : Int) < 16) := by omega
            go_wp2
            go_ret
            exact ⟨rfl, Below.refl _ _⟩
      · rw [hk] at L1 ⊢
        have e0 : ((1 : Int) != 0) = true := by decide
        rw [e0] at L1
        have h4 := HL4.out (by rw [hk]; decide)
        rw [hk, if_pos rfl] at h4
        clear HL4 e0 hk
        have HL4 : Hid (hvV ((d : Int) - 32) = v ∧ hvB ((d : Int) - 32) = ok) := h4.2
        clear h4
        have hx := xor_lo ⟨d, hc⟩ k1 k2
        have HX : Hid (bits .xor .u8 (d : Int) 32 = (d : Int) - 32) := hx
        clear hx
        by_cases hr : r < 16
        · have hok : ok = true := by rw [L1, decide_eq_true hr]; cases dc <;> rfl
          subst hok
          obtain rfl := HL2.out rfl
          clear L1 HL2 HL3
          have hrz : (r : Int) < 16 := by omega
          have hwr : IntKind.u8.wrap (r : Int) = r := by rw [IntKind.wrap_u8']; omega
          cases dc
          all_goals
            go_wp2_with fail
            rw [HX.out]
            refine (hex6 ((d : Int) - 32) (by omega) (by omega) wr).mono ?_
            rintro e w1 ⟨rfl, hw1⟩
            obtain rfl := hw1.symm
            rw [HL4.out.1, HL4.out.2]
            go_wp2_with fail
            refine (blank9 o _ (by omega)).mono ?_
            rintro e w1 ⟨rfl, hw1⟩
            obtain rfl := hw1.symm
            rw [Hbo.out, HL5.out (by trivial)]
            go_wp2
            go_ret
            exact ⟨rfl, Bel⟩
        · have hok : ok = false := by rw [L1, decide_eq_false hr]; simp
          subst hok
          obtain rfl := HL3.out rfl
          clear L1 HL2 HL3
          have hrz : ¬ ((r : Int) < 16) := by omega
          cases dc
          all_goals
            go_wp2_with fail
            rw [HX.out]
            refine (hex6 ((d : Int) - 32) (by omega) (by omega) wr).mono ?_
            rintro e w1 ⟨rfl, hw1⟩
            obtain rfl := hw1.symm
            rw [HL4.out.1, HL4.out.2]
            go_wp2
            go_ret
            exact ⟨rfl, Below.refl _ _⟩
      · rw [hk] at L1 ⊢
        have e0 : ((2 : Int) != 0) = true := by decide
        rw [e0] at L1
        have h4 := HL4.out (by rw [hk]; decide)
        rw [hk, if_neg (by decide)] at h4
        clear HL4 e0 hk
        have HL4 : Hid (hvV ((d : Int) + 32) = v ∧ hvB ((d : Int) + 32) = ok) := h4.2
        clear h4
        have hx := xor_up ⟨d, hc⟩ k1 k2
        have HX : Hid (bits .xor .u8 (d : Int) 32 = (d : Int) + 32) := hx
        clear hx
        by_cases hr : r < 16
        · have hok : ok = true := by rw [L1, decide_eq_true hr]; cases dc <;> rfl
          subst hok
          obtain rfl := HL2.out rfl
          clear L1 HL2 HL3
          have hrz : (r : Int) < 16 := by omega
          have hwr : IntKind.u8.wrap (r : Int) = r := by rw [IntKind.wrap_u8']; omega
          cases dc
          all_goals
            go_wp2_with fail
            rw [HX.out]
            refine (hex6 ((d : Int) + 32) (by omega) (by omega) wr).mono ?_
            rintro e w1 ⟨rfl, hw1⟩
            obtain rfl := hw1.symm
            rw [HL4.out.1, HL4.out.2]
            go_wp2_with fail
            refine (blank9 o _ (by omega)).mono ?_
            rintro e w1 ⟨rfl, hw1⟩
            obtain rfl := hw1.symm
            rw [Hbo.out, HL5.out (by trivial)]
            go_wp2
            go_ret
            exact ⟨rfl, Bel⟩
        · have hok : ok = false := by rw [L1, decide_eq_false hr]; simp
          subst hok
          obtain rfl := HL3.out rfl
          clear L1 HL2 HL3
          have hrz : ¬ ((r : Int) < 16) := by omega
          cases dc
          all_goals
            go_wp2_with fail
            rw [HX.out]
            refine (hex6 ((d : Int) + 32) (by omega) (by omega) wr).mono ?_
            rintro e w1 ⟨rfl, hw1⟩
            obtain rfl := hw1.symm
            rw [HL4.out.1, HL4.out.2]
            go_wp2
            go_ret
            exact ⟨rfl, Below.refl _ _⟩
end Go.Proofs.Qxb6617261a
