/-
  SEAT b6617160a: THE PLAIN LAWS OF THE TIMES: lm, wt. No Go in sight.
-/
import Derived.Test.Qxb6617160aWait
namespace Go.Proofs.Qxb6617160a
open Go.RowKit Go.Deep
set_option linter.unusedVariables false

/-- x is an int64. -/
def I64 (x : Int) : Prop := -9223372036854775808 ≤ x ∧ x ≤ 9223372036854775807

theorem u64_diff (a b : Int) (ha : I64 a) (hb : I64 b) (h : b ≤ a) : IntKind.u64.wrap (IntKind.u64.wrap a - IntKind.u64.wrap b) = a - b := by
  unfold I64 at ha hb
  rw [IntKind.wrap_u64, IntKind.wrap_u64, IntKind.wrap_u64]
  omega

theorem hrs_eq (m now : Int) (hm : I64 m) (hn : I64 now) (h : m ≤ now) : hrs m now = (now - m) / 3600 := by
  unfold hrs
  rw [u64_diff now m hn hm h, IntKind.wrap_u64, Int.tdiv_eq_ediv_of_nonneg (by omega)]
  unfold I64 at hm hn
  omega

theorem u64_pos (h : Int) (hh : I64 h) (h0 : h ≠ 0) : 0 < IntKind.u64.wrap h := by
  unfold I64 at hh
  rw [IntKind.wrap_u64]
  omega

theorem u64_id (h : Int) (hh : I64 h) (h0 : 0 ≤ h) : IntKind.u64.wrap h = h := by
  unfold I64 at hh
  rw [IntKind.wrap_u64]
  omega

theorem lm_le (m now h : Int) (hle : m ≤ now) : lm m now h = m := by rw [lm, if_pos hle]

theorem lm_bd (m now h : Int) (hm : I64 m) (hn : I64 now) : I64 (lm m now h) := by
  unfold lm
  split
  · exact hm
  · split
    · exact hn
    · unfold I64; omega

theorem lm_not_after (m now h : Int) (hn : 0 ≤ now) : lm m now h ≤ now := by
  unfold lm
  split
  · assumption
  · split
    · omega
    · exact hn

/-- A partition that moved now waits exactly when now is not 0. -/
theorem wt_now (now h : Int) (hn : I64 now) (hh : I64 h) (h0 : h ≠ 0) : wt (lm now now h) now h = (now != 0) := by
  rw [lm_le now now h (Int.le_refl _), wt, hrs_eq now now hn hn (Int.le_refl _)]
  have h1 := u64_pos h hh h0
  have h2 : (now - now) / 3600 < IntKind.u64.wrap h := by rw [Int.sub_self]; simpa using h1
  rw [decide_eq_true h2, Bool.and_true]

/-- lastMove of what lastMove answered is that. -/
theorem lm_twice (m now h : Int) (hn : 0 ≤ now) : lm (lm m now h) now h = lm m now h := lm_le _ _ _ (lm_not_after m now h hn)

/-- At now + 3600h nothing that moved by now waits. -/
theorem wt_end (x now h : Int) (hx : I64 x) (hxn : x ≤ now) (hn : 0 ≤ now) (hh0 : 0 ≤ h) (hend : now + h * 3600 ≤ 9223372036854775807) : wt (lm x (now + h * 3600) h) (now + h * 3600) h = false := by
  have hI : I64 (now + h * 3600) := by unfold I64; omega
  have hh : I64 h := by unfold I64; omega
  rw [lm_le x _ h (by omega), wt, hrs_eq x _ hx hI (by omega), u64_id h hh hh0, decide_eq_false (by omega), Bool.and_false]

/-- One second before it: what counts as now, and now is not 0. -/
theorem wt_before (x now h : Int) (hx : I64 x) (hxn : x ≤ now) (hn : 0 ≤ now) (hh0 : 0 < h) (hend : now + h * 3600 ≤ 9223372036854775807) :
    wt (lm x (now + h * 3600 - 1) h) (now + h * 3600 - 1) h = (now != 0 && x == now) := by
  have hI : I64 (now + h * 3600 - 1) := by unfold I64; omega
  have hh : I64 h := by unfold I64; omega
  rw [lm_le x _ h (by omega), wt, hrs_eq x _ hx hI (by omega), u64_id h hh (by omega)]
  by_cases e : x = now
  · subst e
    rw [decide_eq_true (by omega)]
    simp
  · rw [decide_eq_false (by omega)]
    simp [e]

end Go.Proofs.Qxb6617160a
