/-
  SEAT b6617160a: THE ARGUMENTS OPENED: a slice of integers, a slice of slices of integers.
-/
import Derived.Test.Qxb6617160aRows
import Derived.Test.Qxb6617160aGuards
import Derived.Test.Qxb6617160aTimes
import Derived.ProofKit
import Derived.OpenShut
import Derived.ShutString
import Derived.ChangeOld
import Derived.Below
import Derived.Deep.Matrix
namespace Go.Proofs.Qxb6617160a
open Go.ChangeShapes Go.WideShapes Go.ChangeAt Go.RowKit Go.Deep
set_option linter.unusedVariables false

theorem spot_none {w : World} {a : Addr} {v : Value} (h : w.cell? (a.add 0) = some v) : a.spot = none := by
  simpa [Addr.add] using World.cell?_spot h

section
variable {H : Type} {enc : TypeId × Value → H} {P : Program} {w : World} {base : Nat} {held : Bool}

theorem open_row {t e : TypeId} {k : IntKind} {fuel : Nat} {cs : List Value} {x : DataW H × List MemPlace} {a : Option Addr} {len cap : Nat} (ht : P.underlying t = some (.slice e)) (he : P.underlying e = some (.int k)) (hc : P.cellsOf e = 1)
    (h : DataW.trod enc P w base (fun _ => true) held fuel t cs = some x) (hcs : cs = [.slice a len cap]) :
    ∃ (xb xo : Nat) (Z : Nat → Int), RowV k w a len xb xo Z ∧ (a = none → len = 0 ∧ cap = 0) ∧ ∀ i, i < len → (Lit.int k (Z i)).wf = true := by
  subst hcs
  rcases open_ints ht he hc h with ⟨hcs, _⟩ | ⟨y, l, c, zs, hcs, _, hl, hm, hz, _, hcell, hwz⟩
  · simp at hcs
    obtain ⟨rfl, rfl, rfl⟩ := hcs
    exact ⟨0, 0, fun _ => 0, ⟨fun h => by omega, fun i hi => by omega⟩, fun _ => ⟨rfl, rfl⟩, fun i hi => by omega⟩
  · simp at hcs
    obtain ⟨rfl, rfl, rfl⟩ := hcs
    simp only [if_true] at hz
    refine ⟨y.block, y.off, fun i => zs.getD i 0, ⟨fun hp => ?_, fun i hi => ?_⟩, fun hh => (by cases hh), fun i hi => ?_⟩
    · have := spot_none (hcell 0 (by omega))
      cases y; simp at this; subst this; rfl
    · have hsp := spot_none (hcell 0 (by omega))
      have := hcell i (by omega)
      cases y with
      | mk b o s =>
        simp at hsp
        subst hsp
        rw [add_plain] at this
        exact this
    · show (Lit.int k (zs.getD i 0)).wf = true
      rw [List.getD_eq_getElem?_getD, List.getElem?_eq_getElem (by omega)]
      exact hwz _ (List.getElem_mem _)

theorem open_mat {t e q : TypeId} {k : IntKind} {fuel : Nat} {cs : List Value} {x : DataW H × List MemPlace} {a : Option Addr} {len cap : Nat} (ht : P.underlying t = some (.slice e)) (he : P.underlying e = some (.slice q)) (hq : P.underlying q = some (.int k))
    (ce : P.cellsOf e = 1) (cq : P.cellsOf q = 1) (h : DataW.trod enc P w base (fun _ => true) held fuel t cs = some x) (hcs : cs = [.slice a len cap]) :
    ∃ (gb go : Nat) (A : Nat → Option Addr) (L C RB RO : Nat → Nat) (Z : Nat → Nat → Int), MatV k w a len gb go A L C RB RO Z ∧ (a = none → len = 0 ∧ cap = 0) ∧ ∀ r, r < len → ∀ i, i < L r → (Lit.int k (Z r i)).wf = true := by
  subst hcs
  rcases open_int_rows ht he hq ce cq h with ⟨hcs, _⟩ | ⟨y, l, c, A, L, C, Z, hcs, _, hl, hm, _, hx⟩
  · simp at hcs
    obtain ⟨rfl, rfl, rfl⟩ := hcs
    exact ⟨0, 0, fun _ => none, fun _ => 0, fun _ => 0, fun _ => 0, fun _ => 0, fun _ _ => 0, ⟨fun h => by omega, fun r hr => by omega, fun r hr => by omega⟩, fun _ => ⟨rfl, rfl⟩, fun r hr => by omega⟩
  · simp at hcs
    obtain ⟨rfl, rfl, rfl⟩ := hcs
    refine ⟨y.block, y.off, A, L, C, fun r => match A r with | some z => z.block | none => 0, fun r => match A r with | some z => z.off | none => 0, fun r i => (Z r).getD i 0, ⟨fun hp => ?_, fun r hr => ?_, fun r hr i hi => ?_⟩, fun hh => (by cases hh), fun r hr i hi => ?_⟩
    · have := spot_none (hx 0 (by omega)).1
      cases y; simp at this; subst this; rfl
    · have hsp := spot_none (hx 0 (by omega)).1
      have := (hx r (by omega)).1
      cases y with
      | mk b o s =>
        simp at hsp
        subst hsp
        rw [add_plain] at this
        exact this
    · obtain ⟨_, q1, q2, q3, q4, q5, q6⟩ := hx r (by omega)
      cases hA : A r with
      | none => have := q5 hA; omega
      | some z =>
        have hsp := spot_none ((q6 z hA).2 0 (by omega))
        have hcell := (q6 z hA).2 i (by omega)
        cases z with
        | mk b o s =>
          simp at hsp
          subst hsp
          rw [add_plain] at hcell
          exact ⟨rfl, hcell⟩
    · obtain ⟨_, q1, q2, q3, q4, q5, q6⟩ := hx r (by omega)
      show (Lit.int k ((Z r).getD i 0)).wf = true
      rw [List.getD_eq_getElem?_getD, List.getElem?_eq_getElem (by omega)]
      exact q4 _ (List.getElem_mem _)
end

theorem own : ownKnob Try.prog.godebug = none := by kernel_rfl
theorem laidOut : laidOutB Try.prog = true := by kernel_rfl
theorem Try.cells2 : Try.prog.cellsOf 2 = 1 := by kernel_rfl
theorem Try.cells3 : Try.prog.cellsOf 3 = 1 := by kernel_rfl
theorem Try.cells21 : Try.prog.cellsOf 21 = 1 := by kernel_rfl
theorem Try.cells41 : Try.prog.cellsOf 41 = 1 := by kernel_rfl
theorem Try.cells42 : Try.prog.cellsOf 42 = 1 := by kernel_rfl
theorem Try.cells43 : Try.prog.cellsOf 43 = 1 := by kernel_rfl
end Go.Proofs.Qxb6617160a
