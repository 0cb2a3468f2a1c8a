/-
  SEAT b6617160a: THE PLAIN FUNCTIONS: which slots hold another device, how many, and which partitions they flag. No Go in sight.
-/
import GoSem.Claim
namespace Go.Proofs.Qxb6617160a

/-- Slot (r, p) counts: there was no table, or it holds another device. -/
def cn (first : Bool) (T D : Nat → Nat → Int) (r p : Nat) : Bool := first || (T r p != D r p)
/-- Slot (r, p) flags its partition: there was a table, and it holds another device. -/
def ch (first : Bool) (T D : Nat → Nat → Int) (r p : Nat) : Bool := !first && (T r p != D r p)

def cRow (c : Nat → Nat → Bool) (r : Nat) : Nat → Nat
  | 0 => 0
  | p + 1 => cRow c r p + if c r p then 1 else 0
def cAll (c : Nat → Nat → Bool) (L : Nat → Nat) : Nat → Nat
  | 0 => 0
  | r + 1 => cAll c L r + cRow c r (L r)
def fl (c : Nat → Nat → Bool) (L : Nat → Nat) : Nat → Nat → Bool
  | 0, _ => false
  | r + 1, q => fl c L r q || (decide (q < L r) && c r q)
/-- .. and of row r the first p slots. -/
def flp (c : Nat → Nat → Bool) (L : Nat → Nat) (r p q : Nat) : Bool := fl c L r q || (decide (q < p) && c r q)

theorem cRow_le (c : Nat → Nat → Bool) (r p : Nat) : cRow c r p ≤ p := by
  induction p with
  | zero => exact Nat.le_refl _
  | succ p ih => simp only [cRow]; split <;> omega

theorem cAll_le (c : Nat → Nat → Bool) (L : Nat → Nat) (P r : Nat) (h : ∀ j, j < r → L j ≤ P) (hP : P ≤ 65536) : cAll c L r ≤ r * 65536 := by
  induction r with
  | zero => exact Nat.zero_le _
  | succ r ih =>
    simp only [cAll]
    have := ih (fun j hj => h j (by omega))
    have := cRow_le c r (L r)
    have := h r (by omega)
    omega

theorem cRow_yes {c : Nat → Nat → Bool} {r p : Nat} (h : c r p = true) : cRow c r (p + 1) = cRow c r p + 1 := by simp [cRow, h]
theorem cRow_no {c : Nat → Nat → Bool} {r p : Nat} (h : c r p = false) : cRow c r (p + 1) = cRow c r p := by simp [cRow, h]

theorem flp_zero (c : Nat → Nat → Bool) (L : Nat → Nat) (r q : Nat) : flp c L r 0 q = fl c L r q := by simp [flp]
theorem flp_end (c : Nat → Nat → Bool) (L : Nat → Nat) (r q : Nat) : flp c L r (L r) q = fl c L (r + 1) q := by simp [flp, fl]
theorem flp_yes {c : Nat → Nat → Bool} {L : Nat → Nat} {r p : Nat} (h : c r p = true) (q : Nat) : flp c L r (p + 1) q = if q = p then true else flp c L r p q := by
  by_cases e : q = p
  · subst e; simp [flp, h]
  · rw [if_neg e]
    have : decide (q < p + 1) = decide (q < p) := by
      by_cases h1 : q < p
      · rw [decide_eq_true h1, decide_eq_true (by omega)]
      · rw [decide_eq_false h1, decide_eq_false (by omega)]
    simp only [flp, this]
theorem flp_no {c : Nat → Nat → Bool} {L : Nat → Nat} {r p : Nat} (h : c r p = false) (q : Nat) : flp c L r (p + 1) q = flp c L r p q := by
  by_cases e : q = p
  · subst e; simp [flp, h]
  · have : decide (q < p + 1) = decide (q < p) := by
      by_cases h1 : q < p
      · rw [decide_eq_true h1, decide_eq_true (by omega)]
      · rw [decide_eq_false h1, decide_eq_false (by omega)]
    simp only [flp, this]

end Go.Proofs.Qxb6617160a
