/-
  SEAT b6617237a: THE PLAIN LAWS OF 'Num': it is one; it stays where the text is cut behind it. No Go in sight.
-/
import Derived.Test.Qxb6617237aNumDef
namespace Go.Proofs.Qxb6617237a
set_option linter.unusedVariables false

theorem isD_iff (c : Int) : isD c = true ↔ 48 ≤ c ∧ c ≤ 57 := by simp [isD]
theorem isX_iff (c : Int) : isX c = true ↔ (48 ≤ c ∧ c ≤ 57) ∨ (97 ≤ c ∧ c ≤ 102) ∨ (65 ≤ c ∧ c ≤ 70) := by simp [isX, isD, or_assoc]
theorem sgn_iff (c : Int) : sgn c = true ↔ c = 43 ∨ c = 45 := by simp [sgn]
theorem eB_iff (c : Int) : eB c = true ↔ c = 101 ∨ c = 69 := by simp [eB]
theorem hexB_iff (s : ByteArray) (o : Nat) : hexB s o = true ↔ pk s o = 48 ∧ pk s (o + 1) = 120 ∧ isX (pk s (o + 2)) = true := by simp [hexB, and_assoc]
theorem fracB_iff (s : ByteArray) (d : Nat) : fracB s d = true ↔ pk s d = 46 ∧ isD (pk s (d + 1)) = true := by simp [fracB]
theorem expB_iff (s : ByteArray) (f : Nat) : expB s f = true ↔ (pk s f = 101 ∨ pk s f = 69) ∧ isD (pk s (f + expm s f)) = true := by simp [expB, eB]
theorem not_true {b : Bool} (h : ¬ b = true) : b = false := by cases b <;> simp_all

theorem SkipTo.unique {p : Int → Bool} {s : ByteArray} {i j j' : Nat} (h : SkipTo p s i j) (h' : SkipTo p s i j') : j = j' := by
  rcases Nat.lt_trichotomy j j' with q | q | q
  · have := h'.all j h.le q; rw [h.stop] at this; simp at this
  · exact q
  · have := h.all j' h'.le q; rw [h'.stop] at this; simp at this

theorem SkipTo.gt {p : Int → Bool} {s : ByteArray} {i j : Nat} (h : SkipTo p s i j) (hi : p (pk s i) = true) : i < j := by
  rcases Nat.lt_or_ge i j with q | q
  · exact q
  · have e : i = j := Nat.le_antisymm h.le q
    subst e
    rw [h.stop] at hi
    simp at hi

theorem past_le (s : ByteArray) (off : Nat) : off ≤ past s off ∧ past s off ≤ off + 1 := by
  unfold past
  split <;> omega

theorem expm_bd (s : ByteArray) (f : Nat) : 1 ≤ expm s f ∧ expm s f ≤ 2 := by
  unfold expm
  split <;> omega

theorem Num.unique {s : ByteArray} {off : Nat} {k k' : Int} {e e' : Nat} (h : Num s off k e) (h' : Num s off k' e') : k = k' ∧ e = e' := by
  rcases h with ⟨a1, a2, a3⟩ | ⟨a1, d, f, kf, a2, a3, a4⟩
  · rcases h' with ⟨b1, b2, b3⟩ | ⟨b1, _⟩
    · exact ⟨by rw [a2, b2], a3.unique b3⟩
    · rw [a1] at b1; simp at b1
  · rcases h' with ⟨b1, _⟩ | ⟨b1, d', f', kf', b2, b3, b4⟩
    · rw [a1] at b1; simp at b1
    · obtain rfl := a2.unique b2
      have hf : kf = kf' ∧ f = f' := by
        rcases a3 with ⟨c1, c2, c3⟩ | ⟨c1, c2, c3⟩
        · rcases b3 with ⟨d1, d2, d3⟩ | ⟨d1, d2, d3⟩
          · exact ⟨by rw [c2, d2], c3.unique d3⟩
          · rw [c1] at d1; simp at d1
        · rcases b3 with ⟨d1, d2, d3⟩ | ⟨d1, d2, d3⟩
          · rw [c1] at d1; simp at d1
          · exact ⟨by rw [c2, d2], by rw [c3, d3]⟩
      obtain ⟨rfl, rfl⟩ := hf
      rcases a4 with ⟨c1, c2, c3⟩ | ⟨c1, c2, c3⟩
      · rcases b4 with ⟨d1, d2, d3⟩ | ⟨d1, d2, d3⟩
        · exact ⟨by rw [c2, d2], c3.unique d3⟩
        · rw [c1] at d1; simp at d1
      · rcases b4 with ⟨d1, d2, d3⟩ | ⟨d1, d2, d3⟩
        · rw [c1] at d1; simp at d1
        · exact ⟨by rw [c2, d2], by rw [c3, d3]⟩

theorem Fr.le {s : ByteArray} {d f : Nat} {kf : Int} (h : Fr s d f kf) : d ≤ f ∧ (kf = 2 ∨ kf = 3) := by
  rcases h with ⟨_, h2, h3⟩ | ⟨_, h2, h3⟩
  · exact ⟨by have := h3.le; omega, Or.inr h2⟩
  · exact ⟨by omega, Or.inl h2⟩
theorem Ex.le {s : ByteArray} {f e : Nat} {kf k : Int} (h : Ex s f kf e k) : f ≤ e := by
  rcases h with ⟨_, h2, h3⟩ | ⟨_, h2, h3⟩
  · have := h3.le; omega
  · omega

/-- It reads past a sign; its kind is one of two. -/
theorem Num.le {s : ByteArray} {off : Nat} {k : Int} {e : Nat} (h : Num s off k e) : past s off ≤ e ∧ (k = 2 ∨ k = 3) := by
  rcases h with ⟨_, h2, h3⟩ | ⟨_, d, f, kf, h2, h3, h4⟩
  · exact ⟨by have := h3.le; omega, Or.inl h2⟩
  · refine ⟨by have := h2.le; have := h3.le; have := h4.le; omega, ?_⟩
    rcases h4 with ⟨_, h5, _⟩ | ⟨_, h5, _⟩
    · exact Or.inr h5
    · rw [h5]; exact h3.le.2

/-- It reads past a leading digit or sign. -/
theorem Num.gt {s : ByteArray} {off : Nat} {k : Int} {e : Nat} (h : Num s off k e) (hc : isD (pk s off) = true ∨ sgn (pk s off) = true) : off < e := by
  by_cases hs : sgn (pk s off) = true
  · have : past s off = off + 1 := by rw [past, if_pos hs]
    have := h.le.1
    omega
  · have hp : past s off = off := by rw [past, if_neg hs]
    have hd : isD (pk s off) = true := by rcases hc with hc | hc; (· exact hc); (· exact absurd hc hs)
    rcases h with ⟨_, _, h3⟩ | ⟨_, d, f, kf, h2, h3, h4⟩
    · have := h3.le; omega
    · rw [hp] at h2
      have := h2.gt hd
      have := h3.le
      have := h4.le
      omega

theorem skip_local {p : Int → Bool} {s s' : ByteArray} {i j e : Nat} (h32 : p 32 = false) (ha : ∀ i, i < e → pk s' i = pk s i) (hb : pk s' e = 32) (h : SkipTo p s i j) (hj : j ≤ e) : SkipTo p s' i j := by
  refine ⟨h.le, fun k h1 h2 => by rw [ha k (by omega)]; exact h.all k h1 h2, ?_⟩
  rcases Nat.lt_or_ge j e with q | q
  · rw [ha j q]; exact h.stop
  · have : j = e := by omega
    rw [this, hb]; exact h32

/-- WHAT IS CUT OUT AND FOLLOWED BY A BLANK IS READ AGAIN WHOLE. -/
theorem Num.again {s s' : ByteArray} {off : Nat} {k : Int} {e : Nat} (h : Num s off k e) (ha : ∀ i, i < e → pk s' i = pk s i) (hb : pk s' e = 32) : Num s' off k e := by
  have d32 : isD 32 = false := by decide
  have x32 : isX 32 = false := by decide
  have hle := h.le.1
  have hpl := past_le s off
  -- behind the sign
  have hp : past s' off = past s off := by
    rcases Nat.lt_or_ge off e with q | q
    · rw [past, past, ha off q]
    · have e1 : off = e := by omega
      have e2 : past s off = off := by omega
      have e3 : sgn (pk s' off) = false := by rw [e1, hb]; decide
      rw [e2, past, e3]; rfl
  unfold Num
  rw [hp]
  rcases h with ⟨h1, h2, h3⟩ | ⟨h1, d, f, kf, h2, h3, h4⟩
  · left
    obtain ⟨q1, q2, q3⟩ := (hexB_iff _ _).1 h1
    have hg := h3.gt q3
    refine ⟨(hexB_iff _ _).2 ⟨by rw [ha _ (by omega)]; exact q1, by rw [ha _ (by omega)]; exact q2, by rw [ha _ (by omega)]; exact q3⟩, h2, skip_local x32 ha hb h3 (Nat.le_refl _)⟩
  · right
    have l1 := h2.le
    have l2 := h3.le.1
    have l3 := h4.le
    -- what lies at d when the fraction is not there and something follows
    refine ⟨not_true fun hx => ?_, d, f, kf, skip_local d32 ha hb h2 (by omega), ?_, ?_⟩
    · obtain ⟨q1, q2, q3⟩ := (hexB_iff _ _).1 hx
      have g1 : past s off < e := by
        rcases Nat.lt_or_ge (past s off) e with q | q
        · exact q
        · have : past s off = e := by omega
          rw [this, hb] at q1; omega
      have g2 : past s off + 1 < e := by
        rcases Nat.lt_or_ge (past s off + 1) e with q | q
        · exact q
        · have : past s off + 1 = e := by omega
          rw [this, hb] at q2; omega
      rw [ha _ g1] at q1
      rw [ha _ g2] at q2
      -- then the digits end at past + 1, and nothing follows
      have e1 : d = past s off + 1 := by
        have hd : isD (pk s (past s off)) = true := by rw [q1]; decide
        have := h2.gt hd
        rcases Nat.lt_or_ge (past s off + 1) d with q | q
        · have := h2.all (past s off + 1) (by omega) q; rw [q2] at this; simp [isD] at this
        · omega
      have e2 : f = d := by
        rcases h3 with ⟨c1, _, _⟩ | ⟨_, _, c3⟩
        · have := ((fracB_iff _ _).1 c1).1; rw [e1, q2] at this; omega
        · exact c3
      have e3 : e = f := by
        rcases h4 with ⟨c1, _, _⟩ | ⟨_, _, c3⟩
        · have := ((expB_iff _ _).1 c1).1; rw [e2, e1, q2] at this; omega
        · exact c3
      omega
    · rcases h3 with ⟨c1, c2, c3⟩ | ⟨c1, c2, c3⟩
      · left
        obtain ⟨q1, q2⟩ := (fracB_iff _ _).1 c1
        have := c3.gt q2
        exact ⟨(fracB_iff _ _).2 ⟨by rw [ha _ (by omega)]; exact q1, by rw [ha _ (by omega)]; exact q2⟩, c2, skip_local d32 ha hb c3 l3⟩
      · right
        refine ⟨not_true fun hx => ?_, c2, c3⟩
        obtain ⟨q1, q2⟩ := (fracB_iff _ _).1 hx
        rcases h4 with ⟨b1, _, b3⟩ | ⟨_, _, b3⟩
        · have hm := expm_bd s f
          have := b3.le
          rw [ha _ (by omega)] at q1
          have := ((expB_iff _ _).1 b1).1
          rw [c3, q1] at this
          omega
        · have : d = e := by omega
          rw [this, hb] at q1; omega
    · rcases h4 with ⟨b1, b2, b3⟩ | ⟨b1, b2, b3⟩
      · left
        obtain ⟨q1, q2⟩ := (expB_iff _ _).1 b1
        have hg := b3.gt q2
        have hm := expm_bd s f
        have em : expm s' f = expm s f := by rw [expm, expm, ha _ (by omega)]
        refine ⟨(expB_iff _ _).2 ⟨by rw [ha _ (by omega)]; exact q1, by rw [em, ha _ hg]; exact q2⟩, b2, by rw [em]; exact skip_local d32 ha hb b3 (Nat.le_refl _)⟩
      · right
        refine ⟨not_true fun hx => ?_, b2, b3⟩
        have := ((expB_iff _ _).1 hx).1
        rw [← b3, hb] at this
        omega

end Go.Proofs.Qxb6617237a
