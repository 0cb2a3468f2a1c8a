/-
  SEAT b6617160a: THE SMALL CALLEES: Partitions, lastMove, ZZLastMove, the clones of one row.
-/
import Derived.Test.Qxb6617160aChecked
import Derived.Test.Qxb6617160aKit
import Derived.WalkSpells
namespace Go.Proofs.Qxb6617160a
open Go.RowKit Go.Deep
set_option linter.unusedVariables false

/-! ### closed facts of the dump -/
theorem Try.info2 : (Try.prog.info? 2).map (fun i => (i.zero, i.size, i.bytes)) = some (some (.int .i64 0), 1, 8) := by kernel_rfl
theorem Try.info3 : (Try.prog.info? 3).map (fun i => (i.zero, i.size, i.bytes)) = some (some (.int .i64 0), 1, 8) := by kernel_rfl
theorem Try.info4 : (Try.prog.info? 4).map (fun i => (i.zero, i.size, i.bytes)) = some (some (.bool false), 1, 1) := by kernel_rfl
theorem Try.info42 : (Try.prog.info? 42).map (fun i => (i.zero, i.size, i.bytes)) = some (some (.int .u16 0), 1, 2) := by kernel_rfl
theorem Try.info21 : (Try.prog.info? 21).map (fun i => (i.zero, i.size, i.bytes)) = some (some (.int .i32 0), 1, 4) := by kernel_rfl
theorem Try.info41 : (Try.prog.info? 41).map (fun i => (i.zero, i.size, i.bytes)) = some (some (.slice none 0 0), 1, 24) := by kernel_rfl
theorem Try.info43 : (Try.prog.info? 43).map (fun i => (i.zero, i.size, i.bytes)) = some (some (.slice none 0 0), 1, 24) := by kernel_rfl

theorem eq22 (w : World) (a : Option Addr) (n c : Nat) : (binOp .eql 22 (.slice a n c) (.slice none 0 0)).run Try.prog w = .ok (.bool a.isNone) w := Lib.run_eql_slice_nil w 22 3 a n c 0 0 Try.underlying22
theorem eq23 (w : World) (a : Option Addr) (n c : Nat) : (binOp .eql 23 (.slice a n c) (.slice none 0 0)).run Try.prog w = .ok (.bool a.isNone) w := Lib.run_eql_slice_nil w 23 41 a n c 0 0 Try.underlying23
theorem eq24 (w : World) (a : Option Addr) (n c : Nat) : (binOp .eql 24 (.slice a n c) (.slice none 0 0)).run Try.prog w = .ok (.bool a.isNone) w := Lib.run_eql_slice_nil w 24 2 a n c 0 0 Try.underlying24
theorem eq25 (w : World) (a : Option Addr) (n c : Nat) : (binOp .eql 25 (.slice a n c) (.slice none 0 0)).run Try.prog w = .ok (.bool a.isNone) w := Lib.run_eql_slice_nil w 25 43 a n c 0 0 Try.underlying25
theorem eq26 (w : World) (a : Option Addr) (n c : Nat) : (binOp .eql 26 (.slice a n c) (.slice none 0 0)).run Try.prog w = .ok (.bool a.isNone) w := Lib.run_eql_slice_nil w 26 4 a n c 0 0 Try.underlying26
theorem ne22 (w : World) (a : Option Addr) (n c : Nat) : (binOp .neq 22 (.slice a n c) (.slice none 0 0)).run Try.prog w = .ok (.bool (!a.isNone)) w := run_neq_slice_nil_any w 22 3 a n c 0 0 Try.underlying22
theorem ne23 (w : World) (a : Option Addr) (n c : Nat) : (binOp .neq 23 (.slice a n c) (.slice none 0 0)).run Try.prog w = .ok (.bool (!a.isNone)) w := run_neq_slice_nil_any w 23 41 a n c 0 0 Try.underlying23
theorem ne24 (w : World) (a : Option Addr) (n c : Nat) : (binOp .neq 24 (.slice a n c) (.slice none 0 0)).run Try.prog w = .ok (.bool (!a.isNone)) w := run_neq_slice_nil_any w 24 2 a n c 0 0 Try.underlying24
theorem ne26 (w : World) (a : Option Addr) (n c : Nat) : (binOp .neq 26 (.slice a n c) (.slice none 0 0)).run Try.prog w = .ok (.bool (!a.isNone)) w := run_neq_slice_nil_any w 26 4 a n c 0 0 Try.underlying26
theorem ne41 (w : World) (a : Option Addr) (n c : Nat) : (binOp .neq 41 (.slice a n c) (.slice none 0 0)).run Try.prog w = .ok (.bool (!a.isNone)) w := run_neq_slice_nil_any w 41 42 a n c 0 0 Try.underlying41
theorem ne43 (w : World) (a : Option Addr) (n c : Nat) : (binOp .neq 43 (.slice a n c) (.slice none 0 0)).run Try.prog w = .ok (.bool (!a.isNone)) w := run_neq_slice_nil_any w 43 21 a n c 0 0 Try.underlying43

attribute [local go_sem] eq22 eq24 eq26

theorem ret_int {k : IntKind} {a b : Int} (h : a = b) : Ending.returned (.int k a) = .returned (.int k b) := by rw [h]

/-! ### Partitions, lastMove -/
theorem parts_any (b : Nat) (pp : Int) (P : Nat) (w : World) (h0 : 0 ≤ pp) (h1 : pp ≤ 16) (hP : wrap64 (2 ^ pp.toNat) = (P : Int)) (hc : w.cell? ⟨b, 0, none⟩ = some (.int .i64 pp)) :
    Calls Try.prog 29 #[.pointer (some ⟨b, 0, none⟩)] w fun e w' => e = .returned (.int .i64 P) ∧ w' = w := by
  go_enter Try.func29, Try.ntmps29
  go_wp2
  go_ret
  exact ⟨ret_int hP, rfl⟩

/-- The whole hours in m - now - 1, as the Go text reckons them. -/
def ahead (m now : Int) : Int := IntKind.u64.wrap ((IntKind.u64.wrap (IntKind.u64.wrap (IntKind.u64.wrap m - IntKind.u64.wrap now) - 1)).tdiv 3600)
/-- lastMove, of what the time m is, at now, with the minimum hours h. -/
def lm (m now h : Int) : Int := if m ≤ now then m else if ahead m now < IntKind.u64.wrap h then now else 0

theorem lm_any (b mb mo n c p : Nat) (m now h : Int) (w : World) (hp : p < n) (hn : n ≤ 65536) (hc8 : w.cell? ⟨b, 8, none⟩ = some (.slice (some ⟨mb, mo, none⟩) n c))
    (hc2 : w.cell? ⟨b, 2, none⟩ = some (.int .i64 h)) (hm : w.cell? ⟨mb, mo + p, none⟩ = some (.int .i64 m)) :
    Calls Try.prog 28 #[.pointer (some ⟨b, 0, none⟩), .int .i64 p, .int .i64 now] w fun e w' => e = .returned (.int .i64 (lm m now h)) ∧ w' = w := by
  go_enter Try.func28, Try.ntmps28
  go_wp2
  · have h1 : m ≤ now := by assumption
    go_ret
    exact ⟨ret_int (by rw [lm, if_pos h1]), rfl⟩
  · have h1 : now < m := by assumption
    have h2 : ahead m now < IntKind.u64.wrap h := by unfold ahead; assumption
    go_ret
    exact ⟨ret_int (by rw [lm, if_neg (by omega), if_pos h2]), rfl⟩
  · have h1 : now < m := by assumption
    have h2 : IntKind.u64.wrap h ≤ ahead m now := by unfold ahead; assumption
    go_ret
    exact ⟨ret_int (by rw [lm, if_neg (by omega), if_neg (by omega)]), rfl⟩

theorem zlm_any (b mb mo n c p : Nat) (m now h : Int) (w : World) (hp : p < n) (hn : n ≤ 65536) (hc8 : w.cell? ⟨b, 8, none⟩ = some (.slice (some ⟨mb, mo, none⟩) n c))
    (hc2 : w.cell? ⟨b, 2, none⟩ = some (.int .i64 h)) (hm : w.cell? ⟨mb, mo + p, none⟩ = some (.int .i64 m)) :
    Calls Try.prog 24 #[.pointer (some ⟨b, 0, none⟩), .int .i64 p, .int .i64 now] w fun e w' => e = .returned (.int .i64 (lm m now h)) ∧ w' = w := by
  go_enter Try.func24, Try.ntmps24
  go_wp2_with (go_at_call 28; refine (lm_any _ _ _ _ _ _ _ _ _ _ hp hn hc8 hc2 hm).mono ?_; rintro e w' ⟨rfl, rfl⟩)
  go_ret
  exact ⟨rfl, rfl⟩

/-! ### the clones of one row -/
theorem cloneInts_nil (w : World) : Calls Try.prog 10 #[.slice none 0 0] w fun e w' => e = .returned (.slice none 0 0) ∧ w' = w := by
  go_enter Try.func10, Try.ntmps10
  go_wp2
  go_ret
  exact ⟨rfl, rfl⟩
theorem cloneI64_nil (w : World) : Calls Try.prog 12 #[.slice none 0 0] w fun e w' => e = .returned (.slice none 0 0) ∧ w' = w := by
  go_enter Try.func12, Try.ntmps12
  go_wp2
  go_ret
  exact ⟨rfl, rfl⟩
theorem cloneBools_nil (w : World) : Calls Try.prog 14 #[.slice none 0 0] w fun e w' => e = .returned (.slice none 0 0) ∧ w' = w := by
  go_enter Try.func14, Try.ntmps14
  go_wp2
  go_ret
  exact ⟨rfl, rfl⟩

/-- What a clone of one row leaves: one new block, the row's own. -/
structure Cloned (t : TypeId) (w w' : World) (n : Nat) (f : Nat → Value) : Prop where
  kept : Kept (fun _ => False) w w'
  size : w'.heap.size = w.heap.size + 1
  row : w'.rowIs w.heap.size t n f

/-- .. on the way: i of its cells are filled. -/
def Filled (z : Value) (f : Nat → Value) (i : Nat) : Nat → Value := fun j => if j < i then f j else z

theorem cloned_start (w : World) (t : TypeId) (n : Nat) (z : Value) (f : Nat → Value) : Cloned t w (w.alloc (.cells (madeCells #[z] n) t)) n (Filled z f 0) :=
  ⟨(Kept.refl _ _).alloc _, by simp, (World.rowIs_made w z n t).congr (fun _ _ => by simp [Filled])⟩

theorem cloned_step {t : TypeId} {w wr : World} {n i : Nat} {z : Value} {f : Nat → Value} (h : Cloned t w wr n (Filled z f i)) :
    Cloned t w (wr.setCell ⟨w.heap.size, i, none⟩ (f i)) n (Filled z f (i + 1)) := by
  refine ⟨h.kept.setCell (Or.inr (Nat.le_refl _)) _, by simp [h.size], (h.row.set i _).congr (fun j _ => ?_)⟩
  simp only [Filled]
  by_cases e : j = i
  · subst e; simp
  · rw [if_neg e]
    by_cases hlt : j < i
    · rw [if_pos hlt, if_pos (by omega)]
    · rw [if_neg hlt, if_neg (by omega)]

theorem cloned_end {t : TypeId} {w wr : World} {n : Nat} {z : Value} {f : Nat → Value} (h : Cloned t w wr n (Filled z f n)) : Cloned t w wr n f :=
  ⟨h.kept, h.size, h.row.congr (fun i hi => by simp [Filled, hi])⟩

set_option maxHeartbeats 400000 in
theorem cloneInts_any (x : Addr) (xb xo n c : Nat) (Z : Nat → Int) (w : World) (hx : 0 < n → x = ⟨xb, xo, none⟩) (hn : n ≤ 1048576)
    (hc : ∀ i, i < n → w.cell? ⟨xb, xo + i, none⟩ = some (.int .i64 (Z i))) :
    Calls Try.prog 10 #[.slice (some x) n c] w fun e w' => e = .returned (.slice (some ⟨w.heap.size, 0, none⟩) n n) ∧ Cloned 3 w w' n (fun i => .int .i64 (Z i)) := by
  have hmk := run_make_row' (P := Try.prog) 22 3 (.int .i64 0) 8 Try.underlying22 Try.info3 rfl .i64 .i64 n (by omega) (by omega)
  go_enter Try.func10, Try.ntmps10
  go_wp2
  clear hmk
  go_loopg [4] n (fun g i wr => ∃ k : Nat, k ≤ n ∧ g = n - k ∧ i = .int .i64 k ∧ Cloned 3 w wr n (Filled (.int .i64 0) (fun i => .int .i64 (Z i)) k))
  case atStart => exact ⟨0, Nat.zero_le _, rfl, rfl, cloned_start w 3 n _ _⟩
  case round =>
    obtain ⟨k, hk, rfl, rfl, hC⟩ := hrel
    by_cases hlt : k < n
    · obtain rfl := hx (by omega)
      have hltz : (k : Int) < (n : Int) := by omega
      have hr : wr.cell? ⟨xb, xo + k, none⟩ = some (.int .i64 (Z k)) := hC.kept.cellv (hc k hlt) (fun h => h)
      have t1 : wr.cell? ⟨w.heap.size, k, none⟩ = some (.int .i64 0) := by simpa [Filled] using hC.row.cell hlt
      have t2 : wr.frozen? ⟨w.heap.size, k, none⟩ = false := hC.row.frozen k
      go_wp2
      go_roundg (n - (k + 1))
      case measure => go_light; omega
      case rel => go_light; exact ⟨k + 1, by omega, rfl, by simp, cloned_step hC⟩
    · have hltz : ¬ ((k : Int) < (n : Int)) := by omega
      go_wp2
      go_ret
      obtain rfl : k = n := by omega
      exact ⟨rfl, cloned_end hC⟩
set_option maxHeartbeats 400000 in
theorem cloneI64_any (x : Addr) (xb xo n c : Nat) (Z : Nat → Int) (w : World) (hx : 0 < n → x = ⟨xb, xo, none⟩) (hn : n ≤ 1048576)
    (hc : ∀ i, i < n → w.cell? ⟨xb, xo + i, none⟩ = some (.int .i64 (Z i))) :
    Calls Try.prog 12 #[.slice (some x) n c] w fun e w' => e = .returned (.slice (some ⟨w.heap.size, 0, none⟩) n n) ∧ Cloned 2 w w' n (fun i => .int .i64 (Z i)) := by
  have hmk := run_make_row' (P := Try.prog) 24 2 (.int .i64 0) 8 Try.underlying24 Try.info2 rfl .i64 .i64 n (by omega) (by omega)
  go_enter Try.func12, Try.ntmps12
  go_wp2
  clear hmk
  go_loopg [4] n (fun g i wr => ∃ k : Nat, k ≤ n ∧ g = n - k ∧ i = .int .i64 k ∧ Cloned 2 w wr n (Filled (.int .i64 0) (fun i => .int .i64 (Z i)) k))
  case atStart => exact ⟨0, Nat.zero_le _, rfl, rfl, cloned_start w 2 n _ _⟩
  case round =>
    obtain ⟨k, hk, rfl, rfl, hC⟩ := hrel
    by_cases hlt : k < n
    · obtain rfl := hx (by omega)
      have hltz : (k : Int) < (n : Int) := by omega
      have hr : wr.cell? ⟨xb, xo + k, none⟩ = some (.int .i64 (Z k)) := hC.kept.cellv (hc k hlt) (fun h => h)
      have t1 : wr.cell? ⟨w.heap.size, k, none⟩ = some (.int .i64 0) := by simpa [Filled] using hC.row.cell hlt
      have t2 : wr.frozen? ⟨w.heap.size, k, none⟩ = false := hC.row.frozen k
      go_wp2
      go_roundg (n - (k + 1))
      case measure => go_light; omega
      case rel => go_light; exact ⟨k + 1, by omega, rfl, by simp, cloned_step hC⟩
    · have hltz : ¬ ((k : Int) < (n : Int)) := by omega
      go_wp2
      go_ret
      obtain rfl : k = n := by omega
      exact ⟨rfl, cloned_end hC⟩
set_option maxHeartbeats 400000 in
theorem cloneBools_any (x : Addr) (xb xo n c : Nat) (Z : Nat → Bool) (w : World) (hx : 0 < n → x = ⟨xb, xo, none⟩) (hn : n ≤ 1048576)
    (hc : ∀ i, i < n → w.cell? ⟨xb, xo + i, none⟩ = some (.bool (Z i))) :
    Calls Try.prog 14 #[.slice (some x) n c] w fun e w' => e = .returned (.slice (some ⟨w.heap.size, 0, none⟩) n n) ∧ Cloned 4 w w' n (fun i => .bool (Z i)) := by
  have hmk := run_make_row' (P := Try.prog) 26 4 (.bool false) 1 Try.underlying26 Try.info4 rfl .i64 .i64 n (by omega) (by omega)
  go_enter Try.func14, Try.ntmps14
  go_wp2
  clear hmk
  go_loopg [4] n (fun g i wr => ∃ k : Nat, k ≤ n ∧ g = n - k ∧ i = .int .i64 k ∧ Cloned 4 w wr n (Filled (.bool false) (fun i => .bool (Z i)) k))
  case atStart => exact ⟨0, Nat.zero_le _, rfl, rfl, cloned_start w 4 n _ _⟩
  case round =>
    obtain ⟨k, hk, rfl, rfl, hC⟩ := hrel
    by_cases hlt : k < n
    · obtain rfl := hx (by omega)
      have hltz : (k : Int) < (n : Int) := by omega
      have hr : wr.cell? ⟨xb, xo + k, none⟩ = some (.bool (Z k)) := hC.kept.cellv (hc k hlt) (fun h => h)
      have t1 : wr.cell? ⟨w.heap.size, k, none⟩ = some (.bool false) := by simpa [Filled] using hC.row.cell hlt
      have t2 : wr.frozen? ⟨w.heap.size, k, none⟩ = false := hC.row.frozen k
      go_wp2
      go_roundg (n - (k + 1))
      case measure => go_light; omega
      case rel => go_light; exact ⟨k + 1, by omega, rfl, by simp, cloned_step hC⟩
    · have hltz : ¬ ((k : Int) < (n : Int)) := by omega
      go_wp2
      go_ret
      obtain rfl : k = n := by omega
      exact ⟨rfl, cloned_end hC⟩
end Go.Proofs.Qxb6617160a
