/-
  SEAT b6617160a: ZZNewBuilder.
-/
import Derived.Test.Qxb6617160aGuards
namespace Go.Proofs.Qxb6617160a
open Go.RowKit Go.Deep
set_option linter.unusedVariables false
attribute [local go_sem] ne22

theorem Try.info53 : (Try.prog.info? 53).map (fun i => (i.zero.isSome, i.size, i.bytes)) = some (true, 10, 112) := by kernel_rfl

/-- A builder's nine cells. -/
def bf (pp h : Int) (vd vt vm : Value) : Nat → Value
  | 0 => .int .i64 pp
  | 1 => .int .i64 0
  | 2 => .int .i64 h
  | 3 => vd
  | 4 => .int .i64 0
  | 5 => .int .i64 0
  | 6 => .map none
  | 7 => vt
  | _ => vm

/-- WHAT ZZNewBuilder LEAVES: a new builder at block b; its devices' IDs. -/
structure Built (w w' : World) (b : Nat) (pp h : Int) (dao : Option Addr) (n : Nat) (vt vm : Value) (I : Nat → Int) (db : Nat) : Prop where
  kept : Kept (fun _ => False) w w'
  ge : w.heap.size ≤ b
  row : w'.rowIs b 56 9 (bf pp h (.slice dao n n) vt vm)
  dev : 0 < n → dao = some ⟨db, 0, none⟩ ∧ w.heap.size ≤ db ∧ db < b
  ids : ∀ i, i < n → w'.cell? ⟨db, i * 10, none⟩ = some (.int .i64 (I i))

def NewB (w : World) (pp h : Int) (n : Nat) (vt vm : Value) (I : Nat → Int) (e : Ending) (w' : World) : Prop :=
  ∃ b dao db, e = .returned (.pointer (some ⟨b, 0, none⟩)) ∧ Built w w' b pp h dao n vt vm I db

theorem bf_row (w : World) (pp h : Int) (vd vt vm : Value) :
    (w.alloc (.cells #[.int .i64 pp, .int .i64 0, .int .i64 h, vd, .int .i64 0, .int .i64 0, .map none, vt, vm] 56)).rowIs w.heap.size 56 9 (bf pp h vd vt vm) := by
  refine World.rowIs_alloc w _ 56 _ (fun i hi => ?_)
  have hi' : i < 9 := by simpa using hi
  match i, hi' with
  | 0, _ => rfl
  | 1, _ => rfl
  | 2, _ => rfl
  | 3, _ => rfl
  | 4, _ => rfl
  | 5, _ => rfl
  | 6, _ => rfl
  | 7, _ => rfl
  | 8, _ => rfl

set_option maxHeartbeats 800000 in
set_option maxRecDepth 1000000 in
theorem newb_nil (pp h : Int) (at' am : Option Addr) (nt ct nm cm : Nat) (I : Nat → Int) (w : World) :
    Calls Try.prog 17 #[.int .i64 pp, .int .i64 h, .slice none 0 0, .slice at' nt ct, .slice am nm cm] w fun e w' => NewB w pp h 0 (.slice at' nt ct) (.slice am nm cm) I e w' := by
  go_enter Try.func17, Try.ntmps17
  go_wp2
  go_ret
  exact ⟨w.heap.size, none, 0, rfl, (Kept.refl _ _).alloc _, Nat.le_refl _, bf_row w _ _ _ _ _, fun h => absurd h (Nat.lt_irrefl _), fun i hi => absurd hi (Nat.not_lt_zero _)⟩

/-- The devices' cells when k of the IDs are laid. -/
def devF (base : Nat → Value) (I : Nat → Int) (k : Nat) : Nat → Value := fun j => if j % 10 = 0 ∧ j / 10 < k then .int .i64 (I (j / 10)) else base j

theorem dev_start (w : World) (zc : Array Value) (n : Nat) (I : Nat → Int) : ∃ base, Cloned 53 w (w.alloc (.cells (madeCells zc n) 53)) n (devF base I 0) := by
  refine ⟨fun j => (madeCells zc n)[j]?.getD (.bool false), (Kept.refl _ _).alloc _, by simp, ?_⟩
  have h := World.rowIs_alloc w (madeCells zc n) 53 (devF (fun j => (madeCells zc n)[j]?.getD (.bool false)) I 0) (fun i hi => by
    simp only [devF]
    rw [if_neg (by omega), Array.getElem?_eq_getElem hi]
    rfl)
  rw [size_madeCells] at h
  exact h

theorem dev_step {w wr : World} {n k : Nat} {base : Nat → Value} {I : Nat → Int} (h : Cloned 53 w wr n (devF base I k)) : Cloned 53 w (wr.setCell ⟨w.heap.size, k * 10, none⟩ (.int .i64 (I k))) n (devF base I (k + 1)) := by
  refine ⟨h.kept.setCell (Or.inr (Nat.le_refl _)) _, by simp [h.size], (h.row.set (k * 10) _).congr (fun j _ => ?_)⟩
  simp only [devF]
  by_cases e : j = k * 10
  · subst e
    rw [if_pos rfl, if_pos ⟨by omega, by omega⟩]
    rw [Nat.mul_div_cancel _ (by omega)]
  · rw [if_neg e]
    by_cases h1 : j % 10 = 0 ∧ j / 10 < k
    · rw [if_pos h1, if_pos ⟨h1.1, by omega⟩]
    · rw [if_neg h1, if_neg (by omega)]

set_option maxHeartbeats 800000 in
set_option maxRecDepth 1000000 in
theorem newb_some (pp h : Int) (at' am : Option Addr) (x : Addr) (ni ci nt ct nm cm : Nat) (ib io : Nat) (I : Nat → Int) (w : World) (hni : ni ≤ 131072) (hI : RowV .i64 w (some x) ni ib io I) :
    Calls Try.prog 17 #[.int .i64 pp, .int .i64 h, .slice (some x) ni ci, .slice at' nt ct, .slice am nm cm] w fun e w' => NewB w pp h ni (.slice at' nt ct) (.slice am nm cm) I e w' := by
  obtain ⟨i53, hi, hz⟩ := Option.map_eq_some_iff.1 Try.info53
  simp only [Prod.mk.injEq] at hz
  obtain ⟨hz0, hz1, hz2⟩ := hz
  obtain ⟨z, hz3⟩ := Option.isSome_iff_exists.1 hz0
  have hmk : ∀ w, (Instr.makeSlice 50 (.int .i64 (ni : Int)) (.int .i64 (ni : Int))).run Try.prog w = .ok (.slice (some ⟨w.heap.size, 0, none⟩) ni ni) (w.alloc (.cells (madeCells z.cells (ni * 10)) 53)) := fun w => by
    have := run_make (P := Try.prog) w 50 53 i53 z Try.underlying50 hi hz3 .i64 .i64 ni ni (by omega) (by omega) (by rw [hz2]; omega) (by omega)
    rw [this, hz1]
    simp
  clear hz0 hz1 hz2 hi hz3
  generalize z.cells = zc at hmk
  obtain ⟨base, hst⟩ := dev_start w zc (ni * 10) I
  go_enter Try.func17, Try.ntmps17
  go_wp2
  clear hmk
  go_loopg [20] ni (fun g i wr => ∃ k : Nat, k ≤ ni ∧ g = ni - k ∧ i = .int .i64 k ∧ Cloned 53 w wr (ni * 10) (devF base I k))
  case atStart => exact ⟨0, Nat.zero_le _, rfl, rfl, hst⟩
  case round =>
    obtain ⟨k, hk, rfl, rfl, hC⟩ := hrel
    clear hst
    by_cases hlt : k < ni
    · obtain rfl : x = ⟨ib, io, none⟩ := by simpa using hI.ha (by omega)
      have hltz : (k : Int) < (ni : Int) := by omega
      have hr : wr.cell? ⟨ib, io + k, none⟩ = some (.int .i64 (I k)) := hC.kept.cellv (hI.cel k hlt) (fun h => h)
      obtain ⟨v0, k1⟩ : ∃ v, wr.cell? ⟨w.heap.size, k * 10, none⟩ = some v := ⟨_, hC.row.cell (by omega)⟩
      have k2 : wr.frozen? ⟨w.heap.size, k * 10, none⟩ = false := hC.row.frozen _
      go_wp2
      go_roundg (ni - (k + 1))
      case measure => go_light; omega
      case rel => go_light; exact ⟨k + 1, by omega, rfl, by simp, dev_step hC⟩
    · have hltz : ¬ ((k : Int) < (ni : Int)) := by omega
      obtain rfl : k = ni := by omega
      go_wp2
      go_ret
      refine ⟨wr.heap.size, some ⟨w.heap.size, 0, none⟩, w.heap.size, rfl, hC.kept.alloc _, by rw [hC.size]; omega, bf_row wr _ _ _ _ _, fun _ => ⟨rfl, Nat.le_refl _, by rw [hC.size]; omega⟩, fun i hi => ?_⟩
      rw [(hC.row.alloc _).cell (by omega)]
      simp only [devF]
      rw [if_pos ⟨by omega, by omega⟩, Nat.mul_div_cancel _ (by omega)]

theorem newb_any (pp h : Int) (ai at' am : Option Addr) (ni ci nt ct nm cm : Nat) (ib io : Nat) (I : Nat → Int) (w : World) (hni : ni ≤ 131072) (hn : ai = none → ni = 0 ∧ ci = 0) (hI : RowV .i64 w ai ni ib io I) :
    Calls Try.prog 17 #[.int .i64 pp, .int .i64 h, .slice ai ni ci, .slice at' nt ct, .slice am nm cm] w fun e w' => NewB w pp h ni (.slice at' nt ct) (.slice am nm cm) I e w' := by
  cases ai with
  | none =>
    obtain ⟨rfl, rfl⟩ := hn rfl
    exact newb_nil pp h at' am nt ct nm cm I w
  | some x => exact newb_some pp h at' am x ni ci nt ct nm cm ib io I w hni hI
end Go.Proofs.Qxb6617160a
