/-
  SEAT b6617237a: WHAT number READS, AS A RELATION ON BYTES. No Go in sight.
-/
import GoSem.Claim
namespace Go.Proofs.Qxb6617237a

/-- A decimal digit; a hex digit. -/
def isD (c : Int) : Bool := decide (48 ≤ c) && decide (c ≤ 57)
def isX (c : Int) : Bool := isD c || (decide (97 ≤ c) && decide (c ≤ 102)) || (decide (65 ≤ c) && decide (c ≤ 70))
/-- The byte at i, or 0 past the end. -/
def pk (s : ByteArray) (i : Nat) : Int := if h : i < s.size then (s[i].toNat : Int) else 0

theorem pk_in (s : ByteArray) (i : Nat) (h : i < s.size) : pk s i = (s[i].toNat : Int) := by rw [pk, dif_pos h]
theorem pk_out (s : ByteArray) (i : Nat) (h : ¬ i < s.size) : pk s i = 0 := by rw [pk, dif_neg h]

/-- From i on, the bytes up to j are p's, and that at j is not. -/
structure SkipTo (p : Int → Bool) (s : ByteArray) (i j : Nat) : Prop where
  le : i ≤ j
  all : ∀ k, i ≤ k → k < j → p (pk s k) = true
  stop : p (pk s j) = false

def sgn (c : Int) : Bool := c == 43 || c == 45
def eB (c : Int) : Bool := c == 101 || c == 69
/-- Behind the sign, if there is one. -/
def past (s : ByteArray) (off : Nat) : Nat := if sgn (pk s off) then off + 1 else off
def hexB (s : ByteArray) (o : Nat) : Bool := pk s o == 48 && pk s (o + 1) == 120 && isX (pk s (o + 2))
def fracB (s : ByteArray) (d : Nat) : Bool := pk s d == 46 && isD (pk s (d + 1))
def expm (s : ByteArray) (f : Nat) : Nat := if sgn (pk s (f + 1)) then 2 else 1
def expB (s : ByteArray) (f : Nat) : Bool := eB (pk s f) && isD (pk s (f + expm s f))

/-- The fraction: from d to f, the kind kf. -/
def Fr (s : ByteArray) (d f : Nat) (kf : Int) : Prop := (fracB s d = true ∧ kf = 3 ∧ SkipTo isD s (d + 1) f) ∨ (fracB s d = false ∧ kf = 2 ∧ f = d)
/-- The exponent: from f to e, the kind k. -/
def Ex (s : ByteArray) (f : Nat) (kf : Int) (e : Nat) (k : Int) : Prop := (expB s f = true ∧ k = 3 ∧ SkipTo isD s (f + expm s f) e) ∨ (expB s f = false ∧ k = kf ∧ e = f)
/-- WHAT number READS from off on: the kind k, the end e. -/
def Num (s : ByteArray) (off : Nat) (k : Int) (e : Nat) : Prop :=
  (hexB s (past s off) = true ∧ k = 2 ∧ SkipTo isX s (past s off + 2) e) ∨
  (hexB s (past s off) = false ∧ ∃ d f kf, SkipTo isD s (past s off) d ∧ Fr s d f kf ∧ Ex s f kf e k)

end Go.Proofs.Qxb6617237a
