/-
  SEAT b6617160a: THE GUARDS: zzBytes, tooBig, shapeOK: they only read and answer a bool; what their answers tell.
-/
import Derived.Test.Qxb6617160aSmall
import Derived.Deep.DeepCutAuto
namespace Go.Proofs.Qxb6617160a
open Go.RowKit Go.Deep
set_option linter.unusedVariables false
attribute [local go_sem] ne23 ne24 ne26

/-- WHAT IS KNOWN OF A SLICE OF SLICES OF INTEGERS. -/
structure MatV (k : IntKind) (w : World) (a : Option Addr) (R gb go : Nat) (A : Nat → Option Addr) (L C RB RO : Nat → Nat) (Z : Nat → Nat → Int) : Prop where
  ha : 0 < R → a = some ⟨gb, go, none⟩
  row : ∀ r, r < R → w.cell? ⟨gb, go + r, none⟩ = some (.slice (A r) (L r) (C r))
  cel : ∀ r, r < R → ∀ c, c < L r → A r = some ⟨RB r, RO r, none⟩ ∧ w.cell? ⟨RB r, RO r + c, none⟩ = some (.int k (Z r c))

/-- .. OF A SLICE OF INTEGERS. -/
structure RowV (k : IntKind) (w : World) (a : Option Addr) (n xb xo : Nat) (Z : Nat → Int) : Prop where
  ha : 0 < n → a = some ⟨xb, xo, none⟩
  cel : ∀ i, i < n → w.cell? ⟨xb, xo + i, none⟩ = some (.int k (Z i))

/-- THE CALL ANSWERS A BOOL, and of the bool Q holds. (Behind a name: the walk does not open it.) -/
def Ans (Q : Bool → Prop) (e : Ending) : Prop := ∃ b : Bool, e = .returned (.bool b) ∧ Q b
theorem Ans.intro {Q : Bool → Prop} (b : Bool) (h : Q b) : Ans Q (.returned (.bool b)) := ⟨b, rfl, h⟩

set_option maxHeartbeats 800000 in
theorem bytes21 (pp h now : Int) (ai at' am aS : Option Addr) (ni ci nt ct nm cm nS cS : Nat) (tb tg sb sg : Nat) (tA sA : Nat → Option Addr) (tL tC tRB tRO sL sC sRB sRO : Nat → Nat) (T S : Nat → Nat → Int) (w : World)
    (hT : MatV .u16 w at' nt tb tg tA tL tC tRB tRO T) (hS : MatV .i32 w aS nS sb sg sA sL sC sRB sRO S) :
    Calls Try.prog 21 #[.int .i64 pp, .int .i64 h, .slice ai ni ci, .slice at' nt ct, .slice am nm cm, .slice aS nS cS, .int .i64 now] w fun e w' => Ans (fun _ => True) e ∧ w' = w := by
  go_enter Try.func21, Try.ntmps21
  go_wp2
  all_goals try (go_ret; exact ⟨.intro _ trivial, rfl⟩)
  go_loopg [15, 16] nt (fun g z i wr => wr = w ∧ ∃ (r : Nat) (zn : Int), r ≤ nt ∧ g = nt - r ∧ i = .int .i64 r ∧ z = .int .i64 zn ∧ 0 ≤ zn ∧ zn ≤ 1048576)
  case atStart => exact ⟨rfl, 0, _, Nat.zero_le _, rfl, rfl, rfl, by omega, by omega⟩
  case round =>
    obtain ⟨rfl, r, zn, hr, rfl, rfl, rfl, hz0, hz1⟩ := hrel
    by_cases hlt : r < nt
    · obtain rfl := hT.ha (by omega)
      have hltz : (r : Int) < (nt : Int) := by omega
      have g0 := hT.row r hlt
      go_wp2
      · go_ret; exact ⟨.intro _ trivial, rfl⟩
      · go_ret; exact ⟨.intro _ trivial, rfl⟩
      · go_roundg (nt - (r + 1))
        case measure => go_light; omega
        case rel => go_light; exact ⟨rfl, r + 1, _, by omega, rfl, by simp, rfl, by omega, by omega⟩
    · have hltz : ¬ ((r : Int) < (nt : Int)) := by omega
      go_wp2
      all_goals try (go_ret; exact ⟨.intro _ trivial, rfl⟩)
      go_loopg [15, 17] nS (fun g z i wx => wx = wr ∧ ∃ (r : Nat) (zn : Int), r ≤ nS ∧ g = nS - r ∧ i = .int .i64 r ∧ z = .int .i64 zn ∧ 0 ≤ zn ∧ zn ≤ 1048576)
      case atStart => exact ⟨rfl, 0, _, Nat.zero_le _, rfl, rfl, rfl, by omega, by omega⟩
      case round =>
        obtain ⟨rfl, r, zn, hr, rfl, rfl, rfl, hz0, hz1⟩ := hrel
        by_cases hlt : r < nS
        · obtain rfl := hS.ha (by omega)
          have hltz : (r : Int) < (nS : Int) := by omega
          have g0 := hS.row r hlt
          go_wp2
          · go_ret; exact ⟨.intro _ trivial, rfl⟩
          · go_ret; exact ⟨.intro _ trivial, rfl⟩
          · go_roundg (nS - (r + 1))
            case measure => go_light; omega
            case rel => go_light; exact ⟨rfl, r + 1, _, by omega, rfl, by simp, rfl, by omega, by omega⟩
        · have hltz : ¬ ((r : Int) < (nS : Int)) := by omega
          go_wp2
          go_ret
          exact ⟨.intro _ trivial, rfl⟩
set_option maxHeartbeats 800000 in
theorem bytes25 (pp h now : Int) (ai at' am aS : Option Addr) (ni ci nt ct nm cm nS cS : Nat) (tb tg sb sg : Nat) (tA sA : Nat → Option Addr) (tL tC tRB tRO sL sC sRB sRO : Nat → Nat) (T S : Nat → Nat → Int) (w : World)
    (hT : MatV .u16 w at' nt tb tg tA tL tC tRB tRO T) (hS : MatV .i32 w aS nS sb sg sA sL sC sRB sRO S) :
    Calls Try.prog 25 #[.int .i64 pp, .int .i64 h, .slice ai ni ci, .slice at' nt ct, .slice am nm cm, .slice aS nS cS, .int .i64 now] w fun e w' => Ans (fun _ => True) e ∧ w' = w := by
  go_enter Try.func25, Try.ntmps25
  go_wp2
  all_goals try (go_ret; exact ⟨.intro _ trivial, rfl⟩)
  go_loopg [15, 16] nt (fun g z i wr => wr = w ∧ ∃ (r : Nat) (zn : Int), r ≤ nt ∧ g = nt - r ∧ i = .int .i64 r ∧ z = .int .i64 zn ∧ 0 ≤ zn ∧ zn ≤ 1048576)
  case atStart => exact ⟨rfl, 0, _, Nat.zero_le _, rfl, rfl, rfl, by omega, by omega⟩
  case round =>
    obtain ⟨rfl, r, zn, hr, rfl, rfl, rfl, hz0, hz1⟩ := hrel
    by_cases hlt : r < nt
    · obtain rfl := hT.ha (by omega)
      have hltz : (r : Int) < (nt : Int) := by omega
      have g0 := hT.row r hlt
      go_wp2
      · go_ret; exact ⟨.intro _ trivial, rfl⟩
      · go_ret; exact ⟨.intro _ trivial, rfl⟩
      · go_roundg (nt - (r + 1))
        case measure => go_light; omega
        case rel => go_light; exact ⟨rfl, r + 1, _, by omega, rfl, by simp, rfl, by omega, by omega⟩
    · have hltz : ¬ ((r : Int) < (nt : Int)) := by omega
      go_wp2
      all_goals try (go_ret; exact ⟨.intro _ trivial, rfl⟩)
      go_loopg [15, 17] nS (fun g z i wx => wx = wr ∧ ∃ (r : Nat) (zn : Int), r ≤ nS ∧ g = nS - r ∧ i = .int .i64 r ∧ z = .int .i64 zn ∧ 0 ≤ zn ∧ zn ≤ 1048576)
      case atStart => exact ⟨rfl, 0, _, Nat.zero_le _, rfl, rfl, rfl, by omega, by omega⟩
      case round =>
        obtain ⟨rfl, r, zn, hr, rfl, rfl, rfl, hz0, hz1⟩ := hrel
        by_cases hlt : r < nS
        · obtain rfl := hS.ha (by omega)
          have hltz : (r : Int) < (nS : Int) := by omega
          have g0 := hS.row r hlt
          go_wp2
          · go_ret; exact ⟨.intro _ trivial, rfl⟩
          · go_ret; exact ⟨.intro _ trivial, rfl⟩
          · go_roundg (nS - (r + 1))
            case measure => go_light; omega
            case rel => go_light; exact ⟨rfl, r + 1, _, by omega, rfl, by simp, rfl, by omega, by omega⟩
        · have hltz : ¬ ((r : Int) < (nS : Int)) := by omega
          go_wp2
          go_ret
          exact ⟨.intro _ trivial, rfl⟩

/-- What tooBig's 'false' tells. -/
structure Fits (pp : Int) (ni nt nm nS : Nat) : Prop where
  p0 : 0 ≤ pp
  p1 : pp ≤ 16
  ids : ni ≤ 131072
  table : nt ≤ 43690
  moved : nm ≤ 131072
  slots : nS ≤ 43690

theorem pow_bd (pp : Int) (h0 : 0 ≤ pp) (h1 : pp ≤ 16) : 1 ≤ wrap64 (2 ^ pp.toNat) ∧ wrap64 (2 ^ pp.toNat) ≤ 65536 := by
  have h : ∀ n : Nat, n ≤ 16 → 1 ≤ wrap64 (2 ^ n) ∧ wrap64 (2 ^ n) ≤ 65536 := by
    intro n hn
    have e : (2 : Int) ^ n ≤ 65536 := by
      have := Nat.pow_le_pow_right (n := 2) (by omega) hn
      have e2 : ((2 ^ n : Nat) : Int) ≤ ((2 ^ 16 : Nat) : Int) := by omega
      simpa using e2
    have e1 : (1 : Int) ≤ 2 ^ n := by
      have := Nat.one_le_two_pow (n := n)
      have e2 : (1 : Int) ≤ ((2 ^ n : Nat) : Int) := by omega
      simpa using e2
    generalize (2 : Int) ^ n = x at e e1 ⊢
    unfold wrap64
    omega
  exact h _ (by omega)

set_option maxHeartbeats 1600000 in
theorem tooBig_any (pp : Int) (ai at' am aS : Option Addr) (ni ci nt ct nm cm nS cS : Nat) (tb tg sb sg : Nat) (tA sA : Nat → Option Addr) (tL tC tRB tRO sL sC sRB sRO : Nat → Nat) (T S : Nat → Nat → Int) (w : World)
    (hT : MatV .u16 w at' nt tb tg tA tL tC tRB tRO T) (hS : MatV .i32 w aS nS sb sg sA sL sC sRB sRO S) :
    Calls Try.prog 8 #[.int .i64 pp, .slice ai ni ci, .slice at' nt ct, .slice am nm cm, .slice aS nS cS, .slice none 0 0] w fun e w' => Ans (fun b => b = false → Fits pp ni nt nm nS) e ∧ w' = w := by
  by_cases h0 : pp < 0
  · go_enter Try.func8, Try.ntmps8
    go_wp2
    go_ret
    exact ⟨.intro true (fun h => by cases h), rfl⟩
  by_cases h1 : 16 < pp
  · go_enter Try.func8, Try.ntmps8
    go_wp2
    go_ret
    exact ⟨.intro true (fun h => by cases h), rfl⟩
  obtain ⟨hp1, hp2⟩ := pow_bd pp (by omega) (by omega)
  go_enter Try.func8, Try.ntmps8
  go_wp2
  all_goals try (go_ret; exact ⟨.intro true (fun h => by cases h), rfl⟩)
  go_loopg [13, 14] nt (fun g z i wr => wr = w ∧ ∃ (r : Nat) (zn : Int), r ≤ nt ∧ g = nt - r ∧ i = .int .i64 r ∧ z = .int .i64 zn ∧ 0 ≤ zn ∧ zn ≤ 1048576)
  case atStart => exact ⟨rfl, 0, _, Nat.zero_le _, rfl, rfl, rfl, by omega, by omega⟩
  case round =>
    obtain ⟨rfl, r, zn, hr, rfl, rfl, rfl, hz0, hz1⟩ := hrel
    by_cases hlt : r < nt
    · obtain rfl := hT.ha (by omega)
      have hltz : (r : Int) < (nt : Int) := by omega
      have g0 := hT.row r hlt
      go_wp2
      · go_ret; exact ⟨.intro true (fun h => by cases h), rfl⟩
      · go_roundg (nt - (r + 1))
        case measure => go_light; omega
        case rel => go_light; exact ⟨rfl, r + 1, _, by omega, rfl, by simp, rfl, by omega, by omega⟩
    · have hltz : ¬ ((r : Int) < (nt : Int)) := by omega
      go_wp2
      all_goals try (go_ret; exact ⟨.intro true (fun h => by cases h), rfl⟩)
      go_loopg [13, 15] nS (fun g z i wx => wx = wr ∧ ∃ (r : Nat) (zn : Int), r ≤ nS ∧ g = nS - r ∧ i = .int .i64 r ∧ z = .int .i64 zn ∧ 0 ≤ zn ∧ zn ≤ 1048576)
      case atStart => exact ⟨rfl, 0, _, Nat.zero_le _, rfl, rfl, rfl, by omega, by omega⟩
      case round =>
        obtain ⟨rfl, r, zn, hr, rfl, rfl, rfl, hz0, hz1⟩ := hrel
        by_cases hlt : r < nS
        · obtain rfl := hS.ha (by omega)
          have hltz : (r : Int) < (nS : Int) := by omega
          have g0 := hS.row r hlt
          go_wp2
          · go_ret; exact ⟨.intro true (fun h => by cases h), rfl⟩
          · go_roundg (nS - (r + 1))
            case measure => go_light; omega
            case rel => go_light; exact ⟨rfl, r + 1, _, by omega, rfl, by simp, rfl, by omega, by omega⟩
        · have hltz : ¬ ((r : Int) < (nS : Int)) := by omega
          go_wp2
          all_goals try (go_ret; exact ⟨.intro true (fun h => by cases h), rfl⟩)
          go_ret
          exact ⟨.intro false (fun _ => ⟨by omega, by omega, by omega, by omega, by omega, by omega⟩), rfl⟩

/-- What shapeOK's 'true' tells. -/
structure Shape (P : Nat) (ni nt nm nS : Nat) (at' am : Option Addr) (tL sL : Nat → Nat) (S : Nat → Nat → Int) : Prop where
  rows : at' ≠ none → nS ≤ nt
  tab : at' ≠ none → ∀ r, r < nt → tL r = P
  mov : am ≠ none → nm = P
  len : ∀ r, r < nS → sL r ≤ P
  idx : ∀ r, r < nS → ∀ p, p < sL r → 0 ≤ S r p ∧ S r p < ni

set_option maxHeartbeats 1600000 in
set_option maxRecDepth 1000000 in
theorem shapeOK_any (P : Nat) (hP : P ≤ 65536) (ai at' am aS : Option Addr) (ni ci nt ct nm cm nS cS : Nat) (tb tg sb sg : Nat) (tA sA : Nat → Option Addr) (tL tC tRB tRO sL sC sRB sRO : Nat → Nat) (T S : Nat → Nat → Int) (w : World)
    (hi : ni ≤ 131072) (ht : nt ≤ 43690) (hm : nm ≤ 131072) (hs : nS ≤ 43690) (hb : ∀ r, r < nS → ∀ p, p < sL r → -2147483648 ≤ S r p ∧ S r p ≤ 2147483647)
    (hT : MatV .u16 w at' nt tb tg tA tL tC tRB tRO T) (hS : MatV .i32 w aS nS sb sg sA sL sC sRB sRO S) :
    Calls Try.prog 9 #[.int .i64 P, .slice ai ni ci, .slice at' nt ct, .slice am nm cm, .slice aS nS cS, .slice none 0 0] w fun e w' => Ans (fun b => b = true → Shape P ni nt nm nS at' am tL sL S) e ∧ w' = w := by
  have Hb : Hid (∀ r, r < nS → ∀ p, p < sL r → -2147483648 ≤ S r p ∧ S r p ≤ 2147483647) := hb
  clear hb
  go_enter Try.func9, Try.ntmps9
  go_upto_if 18 with fail
  go_cut [2] (fun s2 wx => s2 = .slice at' nt ct ∧ w = wx ∧ (at' ≠ none → nS ≤ nt) ∧ (at' ≠ none → ∀ r, r < nt → tL r = P))
  case first =>
    rcases hat : at' with _ | x
    · go_wp2
      go_meet
      exact ⟨by rw [hat], rfl, fun h => absurd hat h, fun h => absurd hat h⟩
    · have Hat : Hid (at' = some x) := hat
      clear hat
      go_wp2
      · go_ret
        exact ⟨.intro false (fun h => by cases h), rfl⟩
      · have hle : ¬ nt < nS := by assumption
        go_loopg [13] nt (fun g i wr => wr = w ∧ ∃ r : Nat, r ≤ nt ∧ g = nt - r ∧ i = .int .i64 r ∧ ∀ j, j < r → tL j = P)
        case atStart => exact ⟨rfl, 0, Nat.zero_le _, rfl, rfl, fun j hj => absurd hj (Nat.not_lt_zero _)⟩
        case round =>
          obtain ⟨rfl, r, hr, rfl, rfl, hall⟩ := hrel
          by_cases hlt : r < nt
          · have e := Hat.out.symm.trans (hT.ha (by omega))
            obtain rfl : x = ⟨tb, tg, none⟩ := by simpa using e
            clear e
            have hltz : (r : Int) < (nt : Int) := by omega
            have g0 := hT.row r hlt
            have Hall : Hid (∀ j, j < r → tL j = P) := hall
            clear hall
            go_wp2
            · go_ret; exact ⟨.intro false (fun h => by cases h), rfl⟩
            · have he : ((tL r : Int) != (P : Int)) = false := by assumption
              go_roundg (nt - (r + 1))
              case measure => go_light; omega
              case rel => go_light; exact ⟨rfl, r + 1, by omega, rfl, by simp, fun j hj => by
                by_cases e : j = r
                · subst e; have := (by simpa using he : (tL j : Int) = (P : Int)); omega
                · exact Hall.out j (by omega)⟩
          · have hltz : ¬ ((r : Int) < (nt : Int)) := by omega
            go_wp2
            go_meet
            exact ⟨by rw [Hat.out], rfl, fun _ => by omega, fun _ j hj => hall j (by omega)⟩
  case rest =>
    obtain ⟨rfl, rfl, h1, h2⟩ := hcut
    have H1 : Hid ((at' ≠ none → nS ≤ nt) ∧ (at' ≠ none → ∀ r, r < nt → tL r = P)) := ⟨h1, h2⟩
    clear h1 h2
    by_cases hbad : am.isSome = true ∧ nm ≠ P
    · obtain ⟨hb1, hb2⟩ := hbad
      have hb3 : ((nm : Int) != (P : Int)) = true := by simp; omega
      go_wp2
      go_ret
      exact ⟨.intro false (fun h => by cases h), rfl⟩
    · have Hm : Hid (am ≠ none → nm = P) := fun h => by
        cases am with
        | none => exact absurd rfl h
        | some y => by_cases e : nm = P; (· exact e); (· exact absurd ⟨rfl, e⟩ hbad)
      have hcase : am.isSome = false ∨ (am.isSome = true ∧ ((nm : Int) != (P : Int)) = false) := by
        cases am with
        | none => exact Or.inl rfl
        | some y =>
          refine Or.inr ⟨rfl, ?_⟩
          have := Hm.out (by simp)
          simp [this]
      clear hbad
      rcases hcase with hc1 | ⟨hc1, hc2⟩
      all_goals
        go_wp2
        go_loopg [14] nS (fun g i wr => wr = w ∧ ∃ r : Nat, r ≤ nS ∧ g = nS - r ∧ i = .int .i64 r ∧ (∀ j, j < r → sL j ≤ P) ∧ ∀ j, j < r → ∀ q, q < sL j → 0 ≤ S j q ∧ S j q < ni)
        case atStart => exact ⟨rfl, 0, Nat.zero_le _, rfl, rfl, fun j hj => absurd hj (Nat.not_lt_zero _), fun j hj => absurd hj (Nat.not_lt_zero _)⟩
        case round =>
          obtain ⟨rfl, r, hr, rfl, rfl, hall, hal2⟩ := hrel
          have Hall : Hid ((∀ j, j < r → sL j ≤ P) ∧ ∀ j, j < r → ∀ q, q < sL j → 0 ≤ S j q ∧ S j q < ni) := ⟨hall, hal2⟩
          clear hall hal2
          by_cases hlt : r < nS
          · obtain rfl := hS.ha (by omega)
            have hltz : (r : Int) < (nS : Int) := by omega
            have g0 := hS.row r hlt
            obtain ⟨y, hy⟩ : ∃ y, y = sA r := ⟨_, rfl⟩
            rw [← hy] at g0
            have Hy : Hid (0 < sL r → y = some ⟨sRB r, sRO r, none⟩) := fun h => hy.trans (hS.cel r hlt 0 h).1
            clear hy
            by_cases hlp : P < sL r
            · go_wp2
              go_ret
              exact ⟨.intro false (fun h => by cases h), rfl⟩
            · go_wp2
              go_loopg [16] (sL r) (fun g i wx => wx = wr ∧ ∃ q : Nat, q ≤ sL r ∧ g = sL r - q ∧ i = .int .i64 q ∧ ∀ t, t < q → 0 ≤ S r t ∧ S r t < ni)
              case atStart => exact ⟨rfl, 0, Nat.zero_le _, rfl, rfl, fun j hj => absurd hj (Nat.not_lt_zero _)⟩
              case round =>
                obtain ⟨rfl, q, hq, rfl, rfl, hin⟩ := hrel
                have Hin : Hid (∀ t, t < q → 0 ≤ S r t ∧ S r t < ni) := hin
                clear hin
                by_cases hlq : q < sL r
                · have hlqz : (q : Int) < (sL r : Int) := by omega
                  obtain ⟨e1, e2⟩ := hS.cel r hlt q hlq
                  obtain ⟨b1, b2⟩ := Hb.out r hlt q hlq
                  clear e1
                  obtain rfl := Hy.out (by omega)
                  by_cases hneg : S r q < 0
                  · go_wp2
                    go_ret
                    exact ⟨.intro false (fun h => by cases h), rfl⟩
                  · by_cases hbig : (ni : Int) ≤ S r q
                    · go_wp2
                      go_ret
                      exact ⟨.intro false (fun h => by cases h), rfl⟩
                    · go_wp2
                      go_roundg (sL r - (q + 1))
                      case measure => go_light; omega
                      case rel => go_light; exact ⟨rfl, q + 1, by omega, rfl, by simp, fun t ht => by
                        by_cases e : t = q
                        · subst e; omega
                        · exact Hin.out t (by omega)⟩
                · have hlqz : ¬ ((q : Int) < (sL r : Int)) := by omega
                  go_wp2
                  go_roundg (nS - (r + 1))
                  case measure => go_light; omega
                  case rel => go_light; exact ⟨rfl, r + 1, by omega, rfl, by simp, fun j hj => by
                    by_cases e : j = r
                    · subst e; omega
                    · exact Hall.out.1 j (by omega), fun j hj => by
                    by_cases e : j = r
                    · subst e; exact fun t ht => Hin.out t (by omega)
                    · exact Hall.out.2 j (by omega)⟩
          · have hltz : ¬ ((r : Int) < (nS : Int)) := by omega
            go_wp2
            go_ret
            exact ⟨.intro true (fun _ => ⟨H1.out.1, H1.out.2, Hm.out, fun j hj => Hall.out.1 j (by omega), fun j hj => Hall.out.2 j (by omega)⟩), rfl⟩
end Go.Proofs.Qxb6617160a
