/-
  SEAT b6617237a: ZZNumber, the guards.
-/
import Derived.Test.Qxb6617237aNumber
import Derived.WalkSpells
namespace Go.Proofs.Qxb6617237a
open Go.RowKit Go.Deep
set_option linter.unusedVariables false

/-- THE CALL ANSWERS A BOOL. -/
def Ans (e : Ending) : Prop := ∃ b : Bool, e = .returned (.bool b)
theorem Ans.intro (b : Bool) : Ans (.returned (.bool b)) := ⟨b, rfl⟩

theorem bytes9 (f s t : ByteArray) (off : Int) (h : Bool) (w : World) (h1 : f.size ≤ maxLen) (h2 : s.size ≤ maxLen) (h3 : t.size ≤ maxLen) :
    Calls Try.prog 9 #[.string f, .string s, .int .i64 off, .bool h, .string t] w fun e w' => Ans e ∧ w' = w := by
  unfold maxLen at h1 h2 h3
  go_enter Try.func9, Try.ntmps9
  go_wp2
  all_goals
    go_ret
    exact ⟨.intro _, rfl⟩

theorem bytes6 (f s : ByteArray) (off : Int) (h : Bool) (w : World) (h1 : f.size ≤ maxLen) (h2 : s.size ≤ maxLen) :
    Calls Try.prog 6 #[.string f, .string s, .int .i64 off, .bool h] w fun e w' => Ans e ∧ w' = w := by
  unfold maxLen at h1 h2
  go_enter Try.func6, Try.ntmps6
  go_wp2
  all_goals
    go_ret
    exact ⟨.intro _, rfl⟩

/-- What ZZNumber leaves. -/
def ZPost (w : World) (f s : ByteArray) (off : Nat) (h : Bool) (e : Ending) (w' : World) : Prop :=
  ∃ (k : Int) (en : Nat), e = .returned (.tuple #[.int .i64 k, .string f, .string s, .int .i64 en, .bool h]) ∧ Num s off k en ∧ en ≤ s.size ∧ Kept (fun _ => False) w w'

theorem lx_new (w : World) (f s : ByteArray) (off : Int) (h : Bool) : Lx (w.alloc (.cells #[.string f, .string s, .int .i64 off, .bool h, .int .i64 0, .int .i64 0] 33)) w.heap.size f s off h := by
  refine ⟨World.rowIs_alloc w _ 33 _ (fun i hi => ?_)⟩
  have hi' : i < 6 := by simpa using hi
  match i, hi' with
  | 0, _ => rfl
  | 1, _ => rfl
  | 2, _ => rfl
  | 3, _ => rfl
  | 4, _ => rfl
  | 5, _ => rfl

set_option maxHeartbeats 800000 in
set_option maxRecDepth 1000000 in
theorem zz_any (f s : ByteArray) (off : Nat) (h : Bool) (w : World) (hs : s.size ≤ 1048576) (hoff : off < s.size) (hsg : sgn (pk s off) = true → off + 1 < s.size) :
    Calls Try.prog 7 #[.string f, .string s, .int .i64 off, .bool h] w fun e w' => ZPost w f s off h e w' := by
  go_enter Try.func7, Try.ntmps7
  go_wp2_with fail
  refine (number_any w.heap.size f s off h _ hs hoff hsg (lx_new w f s off h)).mono ?_
  rintro e w1 ⟨k, en, rfl, hN, he, hL, hK⟩
  have k1 : Kept (fun _ => False) w w1 := ((Kept.refl _ _).alloc _).trans hK (fun x hx e => by omega)
  have c0 := hL.c0
  have c1 := hL.c1
  have c2 := hL.c2
  have c3 := hL.c3
  clear hL hK
  go_wp2_with fail
  go_quiet (fail)
  go_wp2
  exact bodyPost_ret (v := .tuple #[.int .i64 k, .string f, .string s, .int .i64 en, .bool h]) (by simp [results, Try.results7, go_sem]) rfl ⟨k, en, rfl, hN, he, k1.drewN _⟩
end Go.Proofs.Qxb6617237a
