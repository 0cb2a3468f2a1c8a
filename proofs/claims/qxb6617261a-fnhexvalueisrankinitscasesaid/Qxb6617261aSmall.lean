/-
  SEAT b6617261a: isSpace, zzIsWhite, isBlank, zzCountNonSpace.
-/
import Derived.Test.Qxb6617261aChecked
import Derived.Test.Qxb6617261aKit
namespace Go.Proofs.Qxb6617261a
open Go.RowKit Go.Deep
set_option linter.unusedVariables false

def wht (c : Int) : Bool := c == 32 || c == 9 || c == 13 || c == 10
/-- The text holds nothing but white bytes. -/
def blank (s : ByteArray) : Bool := s.data.toList.all (fun b => wht (b.toNat : Int))

theorem ret_bool {a b : Bool} (h : a = b) : Ending.returned (.bool a) = .returned (.bool b) := by rw [h]
theorem ret_int {k : IntKind} {a b : Int} (h : a = b) : Ending.returned (.int k a) = .returned (.int k b) := by rw [h]

theorem blank_iff (s : ByteArray) : blank s = true ↔ ∀ j (h : j < s.size), wht (s[j].toNat : Int) = true := by
  unfold blank
  rw [List.all_eq_true]
  constructor
  · intro q j h
    exact q s[j] (by show s.data[j] ∈ s.data.toList; simp)
  · intro q b hb
    obtain ⟨j, hj, rfl⟩ := List.getElem_of_mem hb
    exact q j (by simpa using hj)

theorem wht_no {c : Int} (h1 : c ≠ 32) (h2 : c ≠ 9) (h3 : c ≠ 13) (h4 : c ≠ 10) : wht c = false := by simp [wht, h1, h2, h3, h4]

theorem space_any (c : Int) (w : World) : Calls Try.prog 16 #[.int .u8 c] w fun e w' => e = .returned (.bool (wht c)) ∧ w' = w := by
  by_cases h1 : c = 32
  · subst h1
    go_enter Try.func16, Try.ntmps16
    go_wp2
    go_ret
    exact ⟨rfl, rfl⟩
  by_cases h2 : c = 9
  · subst h2
    go_enter Try.func16, Try.ntmps16
    go_wp2
    go_ret
    exact ⟨rfl, rfl⟩
  by_cases h3 : c = 13
  · subst h3
    go_enter Try.func16, Try.ntmps16
    go_wp2
    go_ret
    exact ⟨rfl, rfl⟩
  by_cases h4 : c = 10
  · subst h4
    go_enter Try.func16, Try.ntmps16
    go_wp2
    go_ret
    exact ⟨rfl, rfl⟩
  have HS : Hid (wht c = false) := wht_no h1 h2 h3 h4
  have b1 : (c == 32) = false := by simp [h1]
  have b2 : (c == 9) = false := by simp [h2]
  have b3 : (c == 13) = false := by simp [h3]
  have b4 : (c == 10) = false := by simp [h4]
  clear h1 h2 h3 h4
  go_enter Try.func16, Try.ntmps16
  go_wp2
  go_ret
  exact ⟨ret_bool HS.out.symm, rfl⟩

theorem white_any (c : Int) (w : World) : Calls Try.prog 13 #[.int .u8 c] w fun e w' => e = .returned (.bool (wht c)) ∧ w' = w := by
  by_cases h1 : c = 32
  · subst h1
    go_enter Try.func13, Try.ntmps13
    go_wp2
    go_ret
    exact ⟨rfl, rfl⟩
  by_cases h2 : c = 9
  · subst h2
    go_enter Try.func13, Try.ntmps13
    go_wp2
    go_ret
    exact ⟨rfl, rfl⟩
  by_cases h3 : c = 13
  · subst h3
    go_enter Try.func13, Try.ntmps13
    go_wp2
    go_ret
    exact ⟨rfl, rfl⟩
  have HS : Hid (wht c = (c == 10)) := by show wht c = (c == 10); simp [wht, h1, h2, h3]
  have b1 : (c == 32) = false := by simp [h1]
  have b2 : (c == 9) = false := by simp [h2]
  have b3 : (c == 13) = false := by simp [h3]
  clear h1 h2 h3
  go_enter Try.func13, Try.ntmps13
  go_wp2
  go_ret
  exact ⟨ret_bool HS.out.symm, rfl⟩

set_option maxHeartbeats 800000 in
set_option maxRecDepth 1000000 in
theorem blank15 (s : ByteArray) (w : World) (hs : s.size ≤ 2097152) : Calls Try.prog 15 #[.string s] w fun e w' => e = .returned (.bool (blank s)) ∧ w' = w := by
  go_enter Try.func15, Try.ntmps15
  go_wp2
  go_loopg [3] s.size (fun g i wr => wr = w ∧ ∃ k : Nat, k ≤ s.size ∧ g = s.size - k ∧ i = .int .i64 k ∧ ∀ j (h : j < s.size), j < k → wht (s[j].toNat : Int) = true)
  case atStart => exact ⟨rfl, 0, Nat.zero_le _, rfl, rfl, fun j _ h => by omega⟩
  case round =>
    obtain ⟨rfl, k, hk, rfl, rfl, hall⟩ := hrel
    have Hall : Hid (∀ j (h : j < s.size), j < k → wht (s[j].toNat : Int) = true) := hall
    clear hall
    by_cases hlt : k < s.size
    · have hltz : (k : Int) < (s.size : Int) := by omega
      cases hc : wht (s[k].toNat : Int)
      · have HS : Hid (blank s = false) := by
          show blank s = false
          cases hb : blank s
          · rfl
          · have := (blank_iff s).1 hb k hlt; rw [hc] at this; simp at this
        go_wp2_with (go_at_call 16; refine (space_any _ _).mono ?_; rintro e w' ⟨rfl, rfl⟩; rw [hc])
        go_ret
        exact ⟨ret_bool HS.out.symm, rfl⟩
      · go_wp2_with (go_at_call 16; refine (space_any _ _).mono ?_; rintro e w' ⟨rfl, rfl⟩; rw [hc])
        go_roundg (s.size - (k + 1))
        case measure => go_light; omega
        case rel => go_light; exact ⟨rfl, k + 1, by omega, rfl, by simp, fun j h hj => by
          by_cases e : j = k
          · subst e; exact hc
          · exact Hall.out j h (by omega)⟩
    · have hltz : ¬ ((k : Int) < (s.size : Int)) := by omega
      have HS : Hid (blank s = true) := (blank_iff s).2 (fun j h => Hall.out j h (by omega))
      go_wp2
      go_ret
      exact ⟨ret_bool HS.out.symm, rfl⟩

theorem blank9 (s : ByteArray) (w : World) (hs : s.size ≤ 2097152) : Calls Try.prog 9 #[.string s] w fun e w' => e = .returned (.bool (blank s)) ∧ w' = w := by
  go_enter Try.func9, Try.ntmps9
  go_wp2_with (go_at_call 15; refine (blank15 s w hs).mono ?_; rintro e w' ⟨rfl, rfl⟩)
  go_ret
  exact ⟨rfl, rfl⟩

set_option maxHeartbeats 800000 in
set_option maxRecDepth 1000000 in
theorem count11 (s : ByteArray) (w : World) (hs : s.size ≤ 1048576) : Calls Try.prog 11 #[.string s] w fun e w' => (∃ n : Nat, e = .returned (.int .i64 n) ∧ ((n == 0) = blank s)) ∧ w' = w := by
  go_enter Try.func11, Try.ntmps11
  go_wp2
  go_loopg [3, 4] s.size (fun g n i wr => wr = w ∧ ∃ (k : Nat) (m : Nat), k ≤ s.size ∧ m ≤ k ∧ g = s.size - k ∧ i = .int .i64 k ∧ n = .int .i64 m ∧ (m = 0 ↔ ∀ j (h : j < s.size), j < k → wht (s[j].toNat : Int) = true))
  case atStart => exact ⟨rfl, 0, 0, Nat.zero_le _, Nat.le_refl _, rfl, rfl, rfl, ⟨fun _ j _ h => by omega, fun _ => rfl⟩⟩
  case round =>
    obtain ⟨rfl, k, m, hk, hm, rfl, rfl, rfl, hall⟩ := hrel
    have Hall : Hid (m = 0 ↔ ∀ j (h : j < s.size), j < k → wht (s[j].toNat : Int) = true) := hall
    clear hall
    by_cases hlt : k < s.size
    · have hltz : (k : Int) < (s.size : Int) := by omega
      cases hc : wht (s[k].toNat : Int)
      · go_wp2_with (go_at_call 13; refine (white_any _ _).mono ?_; rintro e w' ⟨rfl, rfl⟩; rw [hc])
        go_roundg (s.size - (k + 1))
        case measure => go_light; omega
        case rel => go_light; exact ⟨rfl, k + 1, m + 1, by omega, by omega, rfl, by simp, by simp, ⟨fun q => by omega, fun q => by have := q k hlt (by omega); rw [hc] at this; simp at this⟩⟩
      · go_wp2_with (go_at_call 13; refine (white_any _ _).mono ?_; rintro e w' ⟨rfl, rfl⟩; rw [hc])
        go_roundg (s.size - (k + 1))
        case measure => go_light; omega
        case rel => go_light; exact ⟨rfl, k + 1, m, by omega, by omega, rfl, by simp, rfl, ⟨fun q j h hj => by
          by_cases e : j = k
          · subst e; exact hc
          · exact Hall.out.1 q j h (by omega), fun q => Hall.out.2 (fun j h hj => q j h (by omega))⟩⟩
    · have hltz : ¬ ((k : Int) < (s.size : Int)) := by omega
      have HS : Hid ((m == 0) = blank s) := by
        show (m == 0) = blank s
        cases hb : blank s
        · have : m ≠ 0 := fun e => by
            have := (blank_iff s).2 (fun j h => Hall.out.1 e j h (by omega))
            rw [hb] at this; simp at this
          simp [this]
        · have : m = 0 := Hall.out.2 (fun j h _ => (blank_iff s).1 hb j h)
          simp [this]
      go_wp2
      go_ret
      exact ⟨⟨m, rfl, HS.out⟩, rfl⟩
end Go.Proofs.Qxb6617261a
