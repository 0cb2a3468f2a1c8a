/-
  SEAT b6617237a: THE SMALL CALLEES: IsDigit, isHexDigit, Peek, SkipDigits.
-/
import Derived.Test.Qxb6617237aChecked
import Derived.Test.Qxb6617237aKit
import Derived.Test.Qxb6617237aNumDef
namespace Go.Proofs.Qxb6617237a
open Go.RowKit Go.Deep
set_option linter.unusedVariables false

theorem ret_bool {a b : Bool} (h : a = b) : Ending.returned (.bool a) = .returned (.bool b) := by rw [h]
theorem ret_int {k : IntKind} {a b : Int} (h : a = b) : Ending.returned (.int k a) = .returned (.int k b) := by rw [h]

theorem isD_any (c : Int) (w : World) : Calls Try.prog 19 #[.int .u8 c] w fun e w' => e = .returned (.bool (isD c)) ∧ w' = w := by
  by_cases h1 : 48 ≤ c
  · go_enter Try.func19, Try.ntmps19
    go_wp2
    go_ret
    exact ⟨ret_bool (by simp [isD, h1]), rfl⟩
  · go_enter Try.func19, Try.ntmps19
    go_wp2
    go_ret
    exact ⟨ret_bool (by rw [isD, decide_eq_false (by omega)]; rfl), rfl⟩

theorem isX_any (c : Int) (w : World) : Calls Try.prog 17 #[.int .u8 c] w fun e w' => e = .returned (.bool (isX c)) ∧ w' = w := by
  cases hd : isD c
  · by_cases h1 : 97 ≤ c ∧ c ≤ 102
    · obtain ⟨h1, h2⟩ := h1
      go_enter Try.func17, Try.ntmps17
      go_wp2_with (go_at_call 19; refine (isD_any _ _).mono ?_; rintro e w' ⟨rfl, rfl⟩; rw [hd])
      go_ret
      exact ⟨ret_bool (by simp [isX, hd, h1, h2]), rfl⟩
    · by_cases h3 : 65 ≤ c ∧ c ≤ 70
      · obtain ⟨h3, h4⟩ := h3
        have h5 : ¬ 97 ≤ c := by omega
        go_enter Try.func17, Try.ntmps17
        go_wp2_with (go_at_call 19; refine (isD_any _ _).mono ?_; rintro e w' ⟨rfl, rfl⟩; rw [hd])
        go_ret
        exact ⟨ret_bool (by simp [isX, hd, h3, h4]), rfl⟩
      · have hx : Hid (isX c = false) := by
          show isX c = false
          have e1 : (decide (97 ≤ c) && decide (c ≤ 102)) = false := by simp; omega
          have e2 : (decide (65 ≤ c) && decide (c ≤ 70)) = false := by simp; omega
          rw [isX, hd, e1, e2]; rfl
        go_enter Try.func17, Try.ntmps17
        go_wp2_with (go_at_call 19; refine (isD_any _ _).mono ?_; rintro e w' ⟨rfl, rfl⟩; rw [hd])
        all_goals
          go_ret
          exact ⟨ret_bool (by rw [hx.out, Bool.eq_false_iff]; simp; try omega), rfl⟩
  · go_enter Try.func17, Try.ntmps17
    go_wp2_with (go_at_call 19; refine (isD_any _ _).mono ?_; rintro e w' ⟨rfl, rfl⟩; rw [hd])
    go_ret
    exact ⟨ret_bool (by simp [isX, hd]), rfl⟩

/-! ### the lexer in memory -/
/-- A lexer's six cells. -/
def lf (f s : ByteArray) (off : Int) (h : Bool) : Nat → Value
  | 0 => .string f
  | 1 => .string s
  | 2 => .int .i64 off
  | 3 => .bool h
  | _ => .int .i64 0

structure Lx (w : World) (b : Nat) (f s : ByteArray) (off : Int) (h : Bool) : Prop where
  row : w.rowIs b 33 6 (lf f s off h)
namespace Lx
variable {w : World} {b : Nat} {f s : ByteArray} {off : Int} {h : Bool}
theorem c0 (x : Lx w b f s off h) : w.cell? ⟨b, 0, none⟩ = some (.string f) := x.row.cell (i := 0) (by omega)
theorem c1 (x : Lx w b f s off h) : w.cell? ⟨b, 1, none⟩ = some (.string s) := x.row.cell (i := 1) (by omega)
theorem c2 (x : Lx w b f s off h) : w.cell? ⟨b, 2, none⟩ = some (.int .i64 off) := x.row.cell (i := 2) (by omega)
theorem c3 (x : Lx w b f s off h) : w.cell? ⟨b, 3, none⟩ = some (.bool h) := x.row.cell (i := 3) (by omega)
theorem f2 (x : Lx w b f s off h) : w.frozen? ⟨b, 2, none⟩ = false := x.row.frozen 2
theorem drewN (x : Lx w b f s off h) (n : Nat) : Lx (w.drewN n) b f s off h := ⟨x.row⟩
theorem set (x : Lx w b f s off h) (off' : Int) : Lx (w.setCell ⟨b, 2, none⟩ (.int .i64 off')) b f s off' h :=
  ⟨(x.row.set 2 _).congr (fun i hi => by
    match i, hi with
    | 0, _ => rfl
    | 1, _ => rfl
    | 2, _ => rfl
    | 3, _ => rfl
    | 4, _ => rfl
    | 5, _ => rfl)⟩
end Lx

set_option maxHeartbeats 400000 in
theorem peek0 (b : Nat) (f s : ByteArray) (i : Nat) (h : Bool) (w : World) (hs : s.size ≤ 1048576) (hi : i ≤ s.size) (hL : Lx w b f s i h) :
    Calls Try.prog 16 #[.pointer (some ⟨b, 0, none⟩), .int .i64 0] w fun e w' => e = .returned (.int .u8 (pk s i)) ∧ ∃ m, w' = w.drewN m := by
  have c1 := hL.c1
  have c2 := hL.c2
  by_cases hlt : i < s.size
  · have hltz : (i : Int) + 0 < (s.size : Int) := by omega
    go_enter Try.func16, Try.ntmps16
    go_wp2
    go_quiet (fail)
    go_wp2
    go_quiet (fail)
    go_wp2
    go_ret
    exact ⟨ret_int (pk_in s i hlt).symm, _, World.drewN_drewN _ _ _⟩
  · have hltz : ¬ (i : Int) + 0 < (s.size : Int) := by omega
    go_enter Try.func16, Try.ntmps16
    go_wp2
    go_quiet (fail)
    go_wp2
    go_ret
    exact ⟨ret_int (pk_out s i hlt).symm, _, rfl⟩

set_option maxHeartbeats 400000 in
theorem peek1 (b : Nat) (f s : ByteArray) (i : Nat) (h : Bool) (w : World) (hs : s.size ≤ 1048576) (hi : i ≤ s.size) (hL : Lx w b f s i h) :
    Calls Try.prog 16 #[.pointer (some ⟨b, 0, none⟩), .int .i64 1] w fun e w' => e = .returned (.int .u8 (pk s (i + 1))) ∧ ∃ m, w' = w.drewN m := by
  have c1 := hL.c1
  have c2 := hL.c2
  by_cases hlt : i + 1 < s.size
  · have hltz : (i : Int) + 1 < (s.size : Int) := by omega
    have hwr : IntKind.i64.wrap ((i : Int) + 1) = (i : Int) + 1 := by rw [IntKind.wrap_i64]; omega
    have hnn : (0 : Int) ≤ (i : Int) + 1 := by omega
    have htn : ((i : Int) + 1).toNat = i + 1 := by omega
    go_enter Try.func16, Try.ntmps16
    go_wp2
    go_quiet (fail)
    go_wp2
    go_quiet (fail)
    go_wp2
    go_ret
    exact ⟨ret_int (pk_in s (i + 1) hlt).symm, _, World.drewN_drewN _ _ _⟩
  · have hltz : ¬ (i : Int) + 1 < (s.size : Int) := by omega
    go_enter Try.func16, Try.ntmps16
    go_wp2
    go_quiet (fail)
    go_wp2
    go_ret
    exact ⟨ret_int (pk_out s (i + 1) hlt).symm, _, rfl⟩

set_option maxHeartbeats 400000 in
theorem peek2 (b : Nat) (f s : ByteArray) (i : Nat) (h : Bool) (w : World) (hs : s.size ≤ 1048576) (hi : i ≤ s.size) (hL : Lx w b f s i h) :
    Calls Try.prog 16 #[.pointer (some ⟨b, 0, none⟩), .int .i64 2] w fun e w' => e = .returned (.int .u8 (pk s (i + 2))) ∧ ∃ m, w' = w.drewN m := by
  have c1 := hL.c1
  have c2 := hL.c2
  by_cases hlt : i + 2 < s.size
  · have hltz : (i : Int) + 2 < (s.size : Int) := by omega
    have hwr : IntKind.i64.wrap ((i : Int) + 2) = (i : Int) + 2 := by rw [IntKind.wrap_i64]; omega
    have hnn : (0 : Int) ≤ (i : Int) + 2 := by omega
    have htn : ((i : Int) + 2).toNat = i + 2 := by omega
    go_enter Try.func16, Try.ntmps16
    go_wp2
    go_quiet (fail)
    go_wp2
    go_quiet (fail)
    go_wp2
    go_ret
    exact ⟨ret_int (pk_in s (i + 2) hlt).symm, _, World.drewN_drewN _ _ _⟩
  · have hltz : ¬ (i : Int) + 2 < (s.size : Int) := by omega
    go_enter Try.func16, Try.ntmps16
    go_wp2
    go_quiet (fail)
    go_wp2
    go_ret
    exact ⟨ret_int (pk_out s (i + 2) hlt).symm, _, rfl⟩

/-- What a call that moves the lexer's Off from i past p's bytes leaves. -/
def Moved (p : Int → Bool) (w : World) (b : Nat) (f s : ByteArray) (i : Nat) (h : Bool) (w' : World) : Prop :=
  ∃ j : Nat, SkipTo p s i j ∧ j ≤ s.size ∧ Lx w' b f s j h ∧ Kept (fun k => k = b) w w'

set_option maxHeartbeats 800000 in
set_option maxRecDepth 1000000 in
theorem skip_any (b : Nat) (f s : ByteArray) (i : Nat) (h : Bool) (w : World) (hs : s.size ≤ 1048576) (hi : i ≤ s.size) (hL : Lx w b f s i h) :
    Calls Try.prog 18 #[.pointer (some ⟨b, 0, none⟩)] w fun e w' => e = .returned (.tuple #[]) ∧ Moved isD w b f s i h w' := by
  go_enter Try.func18, Try.ntmps18
  go_wp2
  go_loopg [] (s.size - i) (fun g wr => ∃ j : Nat, i ≤ j ∧ j ≤ s.size ∧ g = s.size - j ∧ (∀ k, i ≤ k → k < j → isD (pk s k) = true) ∧ Lx wr b f s j h ∧ Kept (fun k => k = b) w wr)
  case atStart => exact ⟨i, Nat.le_refl _, hi, rfl, fun k h1 h2 => by omega, hL, Kept.refl _ _⟩
  case round =>
    obtain ⟨j, hij, hj, rfl, hall, hJ, hK⟩ := hrel
    have Hall : Hid (∀ k, i ≤ k → k < j → isD (pk s k) = true) := hall
    clear hall
    have c1 := hJ.c1
    have c2 := hJ.c2
    have f2 := hJ.f2
    by_cases hlt : j < s.size
    · have hltz : (j : Int) < (s.size : Int) := by omega
      have HP : Hid (pk s j = (s[j].toNat : Int)) := pk_in s j hlt
      cases hd : isD (s[j].toNat : Int)
      · go_wp2_with fail
        go_quiet ((go_at_call 19; exact Calls.quiet_of_same (isD_any _ _)))
        go_wp2
        go_end0
        exact ⟨rfl, j, ⟨hij, Hall.out, by rw [HP.out]; exact hd⟩, hj, hJ.drewN _, hK.drewN _⟩
      · go_wp2_with fail
        go_quiet ((go_at_call 19; exact Calls.quiet_of_same (isD_any _ _)))
        go_wp2
        go_roundg (s.size - (j + 1))
        case measure => go_light; omega
        case rel =>
          go_light
          refine ⟨j + 1, by omega, by omega, rfl, fun k h1 h2 => ?_, (hJ.drewN _).set _, (hK.drewN _).setCell (Or.inl rfl) _⟩
          by_cases e : k = j
          · subst e; rw [HP.out]; exact hd
          · exact Hall.out k h1 (by omega)
    · have hg : decide ((j : Int) < (s.size : Int)) = false := by simp; omega
      obtain rfl : j = s.size := by omega
      go_wp2_with fail
      go_quiet (fail)
      go_wp2
      go_end0
      exact ⟨rfl, s.size, ⟨hij, Hall.out, by rw [pk_out s _ (by omega)]; decide⟩, hj, hJ.drewN _, hK.drewN _⟩
end Go.Proofs.Qxb6617237a
