/-
  SEAT b6617237a: THE AUTOMATON OF THE LAW, AND THAT IT READS WHAT 'Num' READS. No Go in sight.
-/
import Derived.Test.Qxb6617237aPlain
namespace Go.Proofs.Qxb6617237a
set_option linter.unusedVariables false

def mant (c : Int) : Int := if c = 48 then 2 else if isD c then 3 else if c = 46 then 6 else if eB c then 8 else 11
def aft (c : Int) : Int := if isD c then 3 else if c = 46 then 6 else if eB c then 8 else 11
def stp (q c : Int) : Int :=
  if q = 0 then (if sgn c then 1 else mant c)
  else if q = 1 then mant c
  else if q = 2 then (if c = 120 then 4 else aft c)
  else if q = 3 then aft c
  else if q = 4 ∨ q = 5 then (if isX c then 5 else 11)
  else if q = 6 then (if isD c then 7 else 11)
  else if q = 7 then (if isD c then 7 else if eB c then 8 else 11)
  else if q = 8 then (if sgn c then 9 else if isD c then 10 else 11)
  else if q = 9 ∨ q = 10 then (if isD c then 10 else 11)
  else 11
def acc (q : Int) : Bool := q == 0 || q == 1 || q == 2 || q == 3 || q == 5 || q == 7 || q == 10

def lng (s : ByteArray) : Nat → Nat → Int → Nat → Bool → Nat × Bool
  | 0, _, _, e, d => (e, d)
  | f + 1, i, q, e, d =>
    if stp q (pk s i) = 11 then (e, d)
    else if acc (stp q (pk s i)) then lng s f (i + 1) (stp q (pk s i)) (i + 1) (stp q (pk s i) == 7 || stp q (pk s i) == 10)
    else lng s f (i + 1) (stp q (pk s i)) e d

/-- What the loop comes to from i on, in state q, with the end e and the flag d. -/
def L (s : ByteArray) (i : Nat) (q : Int) (e : Nat) (d : Bool) : Nat × Bool := lng s (s.size + 1 - i) i q e d

theorem L_step (s : ByteArray) (i : Nat) (q : Int) (e : Nat) (d : Bool) (hi : i ≤ s.size) : L s i q e d =
    if stp q (pk s i) = 11 then (e, d)
    else if acc (stp q (pk s i)) then L s (i + 1) (stp q (pk s i)) (i + 1) (stp q (pk s i) == 7 || stp q (pk s i) == 10)
    else L s (i + 1) (stp q (pk s i)) e d := by
  unfold L
  have e1 : s.size + 1 - i = (s.size - i) + 1 := by omega
  have e2 : s.size + 1 - (i + 1) = s.size - i := by omega
  rw [e1, e2, lng]

section
variable {s : ByteArray} {i : Nat} {q q' : Int} {e : Nat} {d : Bool}
theorem step_dead (hi : i ≤ s.size) (h : stp q (pk s i) = 11) : L s i q e d = (e, d) := by rw [L_step s i q e d hi, if_pos h]
theorem step_acc (hi : i ≤ s.size) (h : stp q (pk s i) = q') (hn : q' ≠ 11) (ha : acc q' = true) : L s i q e d = L s (i + 1) q' (i + 1) (q' == 7 || q' == 10) := by
  rw [L_step s i q e d hi, h, if_neg hn, if_pos ha]
theorem step_non (hi : i ≤ s.size) (h : stp q (pk s i) = q') (hn : q' ≠ 11) (ha : acc q' = false) : L s i q e d = L s (i + 1) q' e d := by
  rw [L_step s i q e d hi, h, if_neg hn, if_neg (by rw [ha]; simp)]
theorem step_same (hi : i ≤ s.size) (h : stp q (pk s i) = stp q' (pk s i)) : L s i q e d = L s i q' e d := by
  rw [L_step s i q e d hi, L_step s i q' e d hi, h]
end

theorem pk_pos {s : ByteArray} {i : Nat} (h : pk s i ≠ 0) : i < s.size := by
  by_cases q : i < s.size
  · exact q
  · exact absurd (pk_out s i q) h

theorem stp_zero (q : Int) : stp q 0 = 11 := by
  have h1 : isD 0 = false := by decide
  have h2 : isX 0 = false := by decide
  have h3 : sgn 0 = false := by decide
  have h4 : eB 0 = false := by decide
  simp [stp, mant, aft, h1, h2, h3, h4]

theorem L_end (s : ByteArray) (q : Int) (e : Nat) (d : Bool) : L s s.size q e d = (e, d) :=
  step_dead (Nat.le_refl _) (by rw [pk_out s _ (by omega)]; exact stp_zero q)

/-- A RUN OF BYTES THAT KEEP AN ACCEPTING STATE. -/
theorem seg {p : Int → Bool} {s : ByteArray} {q : Int} (hq : ∀ c, p c = true → stp q c = q) (hn : q ≠ 11) (ha : acc q = true) (b : Bool) (hb : b = (q == 7 || q == 10)) :
    ∀ (n i j : Nat), j = i + n → SkipTo p s i j → j ≤ s.size → L s i q i b = L s j q j b := by
  intro n
  induction n with
  | zero => intro i j hj _ _; obtain rfl : j = i := by omega
            rfl
  | succ n ih =>
    intro i j hj h hs
    have h1 : p (pk s i) = true := h.all i (Nat.le_refl _) (by omega)
    rw [step_acc (by omega) (hq _ h1) hn ha, ← hb]
    exact ih (i + 1) j (by omega) ⟨by omega, fun k q1 q2 => h.all k (by omega) q2, h.stop⟩ hs

theorem SkipTo.next {p : Int → Bool} {s : ByteArray} {i j : Nat} (h : SkipTo p s i j) (hi : i < j) : SkipTo p s (i + 1) j :=
  ⟨by omega, fun k q1 q2 => h.all k (by omega) q2, h.stop⟩

theorem segTo {p : Int → Bool} {s : ByteArray} {q : Int} (hq : ∀ c, p c = true → stp q c = q) (hn : q ≠ 11) (ha : acc q = true) (b : Bool) (hb : b = (q == 7 || q == 10)) {i j : Nat} (h : SkipTo p s i j) (hs : j ≤ s.size) :
    L s i q i b = L s j q j b := seg hq hn ha b hb (j - i) i j (by have := h.le; omega) h hs

theorem stp3 (c : Int) : stp 3 c = aft c := by simp [stp]
theorem stp2 (c : Int) (h : c ≠ 120) : stp 2 c = aft c := by simp [stp, h]
theorem stp0 (c : Int) (h : sgn c = false) : stp 0 c = mant c := by simp [stp, h]
theorem stp1 (c : Int) : stp 1 c = mant c := by simp [stp]
theorem stp5 (c : Int) (h : isX c = true) : stp 5 c = 5 := by simp [stp, h]
theorem stp7 (c : Int) (h : isD c = true) : stp 7 c = 7 := by simp [stp, h]
theorem stp10 (c : Int) (h : isD c = true) : stp 10 c = 10 := by simp [stp, h]
theorem aft_d (c : Int) (h : isD c = true) : aft c = 3 := by simp [aft, h]
theorem mant_d (c : Int) (h : isD c = true) (h0 : c ≠ 48) : mant c = 3 := by simp [mant, h, h0]
theorem mant_aft (c : Int) (h : isD c = false) : mant c = aft c := by
  have h0 : c ≠ 48 := by intro e; rw [e] at h; simp [isD] at h
  simp [mant, aft, h, h0]
theorem eB_ne {c : Int} (h : eB c = true) : isD c = false ∧ c ≠ 46 ∧ c ≠ 0 := by
  rcases (eB_iff c).1 h with rfl | rfl <;> decide
theorem isD_ne {c : Int} (h : isD c = true) : c ≠ 0 ∧ sgn c = false := by
  have := (isD_iff c).1 h
  refine ⟨by omega, not_true fun q => ?_⟩
  rcases (sgn_iff c).1 q with q | q <;> omega
theorem isX_ne {c : Int} (h : isX c = true) : c ≠ 0 := by
  have := (isX_iff c).1 h
  omega

/-- Behind the sign. -/
theorem auto_sign (s : ByteArray) (off : Nat) (hs : off ≤ s.size) : ∃ q : Int, (q = 0 ∨ q = 1) ∧ (q = 0 → sgn (pk s (past s off)) = false) ∧ L s off 0 off false = L s (past s off) q (past s off) false := by
  cases h : sgn (pk s off)
  · have e : past s off = off := by rw [past, h]; rfl
    rw [e]
    exact ⟨0, Or.inl rfl, fun _ => h, rfl⟩
  · have e : past s off = off + 1 := by rw [past, h]; rfl
    rw [e]
    refine ⟨1, Or.inr rfl, fun q => by omega, ?_⟩
    exact step_acc hs (by simp [stp, h]) (by decide) (by decide)

/-- 0x and hex digits. -/
theorem auto_hex {s : ByteArray} {o e : Nat} {q : Int} (hq : q = 0 ∨ q = 1) (hx : hexB s o = true) (h : SkipTo isX s (o + 2) e) (he : e ≤ s.size) : L s o q o false = (e, false) := by
  obtain ⟨q1, q2, q3⟩ := (hexB_iff _ _).1 hx
  have hg := h.gt q3
  rw [step_acc (q' := 2) (by omega) (by rw [q1]; rcases hq with rfl | rfl <;> decide) (by decide) (by decide)]
  rw [step_non (q' := 4) (by omega) (by rw [q2]; decide) (by decide) (by decide)]
  rw [step_acc (q' := 5) (by omega) (by simp [stp, q3]) (by decide) (by decide)]
  have := segTo (fun c => stp5 c) (by decide) (by decide) false (by decide) (h.next hg) he
  show L s (o + 2 + 1) 5 (o + 2 + 1) false = _
  rw [this]
  exact step_dead he (by simp [stp, h.stop])

/-- The integer's digits, if any. -/
theorem auto_int {s : ByteArray} {o d : Nat} {q : Int} (hq : q = 0 ∨ q = 1) (h0 : q = 0 → sgn (pk s o) = false) (hx : hexB s o = false) (h : SkipTo isD s o d) (hd : d ≤ s.size) : L s o q o false = L s d 3 d false := by
  cases hc : isD (pk s o)
  · have e : d = o := by
      rcases Nat.lt_or_ge o d with r | r
      · have := h.all o (Nat.le_refl _) r; rw [hc] at this; simp at this
      · have := h.le; omega
    subst e
    refine step_same hd ?_
    rw [stp3]
    rcases hq with rfl | rfl
    · rw [stp0 _ (h0 rfl), mant_aft _ hc]
    · rw [stp1, mant_aft _ hc]
  · have hg := h.gt hc
    have hs := (isD_ne hc).2
    by_cases e48 : pk s o = 48
    · rw [step_acc (q' := 2) (by omega) (by rw [e48]; rcases hq with rfl | rfl <;> decide) (by decide) (by decide)]
      show L s (o + 1) 2 (o + 1) false = _
      by_cases e120 : pk s (o + 1) = 120
      · have hnx : isX (pk s (o + 2)) = false := not_true fun r => by rw [(hexB_iff _ _).2 ⟨e48, e120, r⟩] at hx; simp at hx
        have ed : d = o + 1 := by
          rcases Nat.lt_or_ge (o + 1) d with r | r
          · have := h.all (o + 1) (by omega) r; rw [e120] at this; simp [isD] at this
          · omega
        have hlt : o + 1 < s.size := pk_pos (by rw [e120]; decide)
        rw [step_non (q' := 4) (by omega) (by rw [e120]; decide) (by decide) (by decide), step_dead (by omega) (by simp [stp, hnx])]
        rw [ed, step_dead (by omega) (by rw [e120]; decide)]
      · rw [step_same (q' := 3) (by omega) (by rw [stp2 _ e120, stp3])]
        exact segTo (fun c r => by rw [stp3]; exact aft_d c r) (by decide) (by decide) false (by decide) (h.next hg) hd
    · rw [step_acc (q' := 3) (by omega) (by rcases hq with rfl | rfl; (· rw [stp0 _ (h0 rfl), mant_d _ hc e48]); (· rw [stp1, mant_d _ hc e48])) (by decide) (by decide)]
      exact segTo (fun c r => by rw [stp3]; exact aft_d c r) (by decide) (by decide) false (by decide) (h.next hg) hd

/-- The fraction, if any. -/
theorem auto_frac {s : ByteArray} {d f : Nat} {kf : Int} (h : Fr s d f kf) (hf : f ≤ s.size) (hd : isD (pk s d) = false) :
    ∃ q : Int, (q = 3 ∨ q = 7) ∧ (q = 3 → f = d ∧ fracB s d = false) ∧ isD (pk s f) = false ∧ L s d 3 d false = L s f q f (kf == 3) := by
  rcases h with ⟨c1, rfl, c3⟩ | ⟨c1, rfl, rfl⟩
  · obtain ⟨q1, q2⟩ := (fracB_iff _ _).1 c1
    have hg := c3.gt q2
    refine ⟨7, Or.inr rfl, fun r => by omega, c3.stop, ?_⟩
    rw [step_non (q' := 6) (by omega) (by rw [q1]; decide) (by decide) (by decide)]
    rw [step_acc (q' := 7) (by omega) (by simp [stp, q2]) (by decide) (by decide)]
    exact segTo (fun c => stp7 c) (by decide) (by decide) true (by decide) (c3.next hg) hf
  · exact ⟨3, Or.inl rfl, fun _ => ⟨rfl, c1⟩, hd, rfl⟩

/-- The exponent, if any. -/
theorem auto_exp {s : ByteArray} {d f e : Nat} {kf k q : Int} (hq : q = 3 ∨ q = 7) (h3 : q = 3 → f = d ∧ fracB s d = false) (hd : isD (pk s f) = false) (h : Ex s f kf e k) (he : e ≤ s.size) : L s f q f (kf == 3) = (e, k == 3) := by
  have hle := h.le
  cases hE : eB (pk s f)
  · -- no exponent
    obtain ⟨e1, e2⟩ : k = kf ∧ e = f := by
      rcases h with ⟨c1, _, _⟩ | ⟨_, c2, c3⟩
      · rw [expB, hE] at c1; simp at c1
      · exact ⟨c2, c3⟩
    rw [e1, e2]
    rcases hq with rfl | rfl
    · by_cases e46 : pk s f = 46
      · obtain ⟨e3, e4⟩ := h3 rfl
        have hn : isD (pk s (f + 1)) = false := not_true fun r => by rw [← e3, (fracB_iff _ _).2 ⟨e46, r⟩] at e4; simp at e4
        have hlt : f < s.size := pk_pos (by rw [e46]; decide)
        rw [step_non (q' := 6) (by omega) (by rw [e46]; decide) (by decide) (by decide), step_dead (by omega) (by simp [stp, hn])]
      · exact step_dead (by omega) (by simp [stp, aft, hd, e46, hE])
    · exact step_dead (by omega) (by simp [stp, hd, hE])
  · obtain ⟨_, n46, n0⟩ := eB_ne hE
    have hlt : f < s.size := pk_pos n0
    have h8 : stp q (pk s f) = 8 := by
      rcases hq with rfl | rfl
      · simp [stp, aft, hd, n46, hE]
      · simp [stp, hd, hE]
    rw [step_non (by omega) h8 (by decide) (by decide)]
    cases hS : sgn (pk s (f + 1))
    · have hm : expm s f = 1 := by rw [expm, hS]; rfl
      rcases h with ⟨c1, rfl, c3⟩ | ⟨c1, rfl, rfl⟩
      · have q2 := ((expB_iff _ _).1 c1).2
        rw [hm] at q2 c3
        have hg := c3.gt q2
        rw [step_acc (q' := 10) (by omega) (by simp [stp, hS, q2]) (by decide) (by decide)]
        have := segTo (fun c => stp10 c) (by decide) (by decide) true (by decide) (c3.next hg) he
        show L s (f + 1 + 1) 10 (f + 1 + 1) true = _
        rw [this]
        exact step_dead he (by simp [stp, c3.stop])
      · have hn : isD (pk s (e + 1)) = false := not_true fun r => by rw [expB, hE, hm, r] at c1; simp at c1
        exact step_dead (by omega) (by simp [stp, hS, hn])
    · have hm : expm s f = 2 := by rw [expm, hS]; rfl
      have hlt2 : f + 1 < s.size := pk_pos (by rcases (sgn_iff _).1 hS with r | r <;> (rw [r]; decide))
      rw [step_non (q' := 9) (by omega) (by simp [stp, hS]) (by decide) (by decide)]
      rcases h with ⟨c1, rfl, c3⟩ | ⟨c1, rfl, rfl⟩
      · have q2 := ((expB_iff _ _).1 c1).2
        rw [hm] at q2 c3
        have hg := c3.gt q2
        rw [step_acc (q' := 10) (by omega) (by simp [stp, q2]) (by decide) (by decide)]
        have := segTo (fun c => stp10 c) (by decide) (by decide) true (by decide) (c3.next hg) he
        show L s (f + 2 + 1) 10 (f + 2 + 1) true = _
        rw [this]
        exact step_dead he (by simp [stp, c3.stop])
      · have hn : isD (pk s (e + 2)) = false := not_true fun r => by rw [expB, hE, hm, r] at c1; simp at c1
        exact step_dead (by omega) (by simp [stp, hn])

/-- THE AUTOMATON READS WHAT number READS. -/
theorem Num.auto {s : ByteArray} {off : Nat} {k : Int} {e : Nat} (h : Num s off k e) (he : e ≤ s.size) : L s off 0 off false = (e, k == 3) := by
  have hl := h.le.1
  have hp := past_le s off
  obtain ⟨q, hq, h0, hL⟩ := auto_sign s off (by omega)
  rw [hL]
  rcases h with ⟨h1, rfl, h3⟩ | ⟨h1, d, f, kf, h2, h3, h4⟩
  · exact auto_hex hq h1 h3 he
  · have l2 := h3.le.1
    have l3 := h4.le
    rw [auto_int hq h0 h1 h2 (by omega)]
    obtain ⟨q2, g1, g2, g3, g4⟩ := auto_frac h3 (by omega) h2.stop
    rw [g4]
    exact auto_exp g1 g2 g3 h4 he
end Go.Proofs.Qxb6617237a
