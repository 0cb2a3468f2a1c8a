/-
  SEAT b6617261a: WORDS OF MY OWN: 'Kept S w w'': every block that was there and is not in S is as it was. No dump.
-/
import Derived.WalkKit
import Derived.Deep.LoopGhost
import Derived.Deep.OwnRows
import Derived.Deep.Light
import Derived.Deep.QuietTactic
import Derived.BigQuiet
import Derived.Deep.DeepCutAuto
namespace Go.Proofs.Qxb6617261a
open Go.RowKit Go.Deep

/-- Every block of w that is not in S is as it was; no block has gone; the streams are as they were. -/
structure Kept (S : Nat → Prop) (w w' : World) : Prop where
  os : w'.os = w.os
  tape : w'.tape = w.tape
  output : w'.output = w.output
  size : w.heap.size ≤ w'.heap.size
  block : ∀ k, k < w.heap.size → ¬ S k → w'.heap[k]? = w.heap[k]?

namespace Kept
variable {S T : Nat → Prop} {w w' w'' : World}

theorem refl (S : Nat → Prop) (w : World) : Kept S w w := ⟨rfl, rfl, rfl, Nat.le_refl _, fun _ _ _ => rfl⟩

theorem trans (h : Kept S w w') (k : Kept T w' w'') (hT : ∀ b, b < w.heap.size → T b → S b) : Kept S w w'' :=
  ⟨k.os.trans h.os, k.tape.trans h.tape, k.output.trans h.output, Nat.le_trans h.size k.size,
    fun i hi hs => (k.block i (Nat.lt_of_lt_of_le hi h.size) (fun t => hs (hT i hi t))).trans (h.block i hi hs)⟩

theorem mono (h : Kept S w w') (hT : ∀ b, b < w.heap.size → S b → T b) : Kept T w w' := (refl T w).trans h hT

theorem drew (h : Kept S w w') : Kept S w w'.drew := ⟨h.os, h.tape, h.output, h.size, h.block⟩

theorem drewN (h : Kept S w w') (n : Nat) : Kept S w (w'.drewN n) := ⟨h.os, h.tape, h.output, h.size, h.block⟩

theorem alloc (h : Kept S w w') (o : Obj) : Kept S w (w'.alloc o) :=
  h.trans (T := S) ⟨rfl, rfl, rfl, by rw [nblk_alloc]; omega, fun k hk _ => blk_alloc_lt _ _ _ hk⟩ (fun _ _ t => t)

theorem setCell (h : Kept S w w') {a : Addr} (ha : S a.block ∨ w.heap.size ≤ a.block) (v : Value) : Kept S w (w'.setCell a v) :=
  h.trans (T := fun b => b = a.block) ⟨rfl, rfl, rfl, by rw [nblk_setCell]; exact Nat.le_refl _, fun k _ hn => blk_setCell_other _ _ _ _ hn⟩
    (fun b hb e => by rcases ha with ha | ha; (· rw [e]; exact ha); (· omega))

theorem cell (h : Kept S w w') {a : Addr} (ha : a.block < w.heap.size) (hs : ¬ S a.block) : w'.cell? a = w.cell? a := World.cell?_of_block (w := w) (h.block _ ha hs)

theorem cellv (h : Kept S w w') {a : Addr} {v : Value} (hv : w.cell? a = some v) (hs : ¬ S a.block) : w'.cell? a = some v :=
  (h.cell (World.block_lt_of_cell? _ _ hv) hs).trans hv

theorem row (h : Kept S w w') {b : Nat} {t : TypeId} {n : Nat} {f : Nat → Value} (hr : w.rowIs b t n f) (hs : ¬ S b) : w'.rowIs b t n f :=
  hr.of_block (h.block b hr.lt hs)

theorem below (h : Kept S w w') {B : Nat} (hB : B ≤ w.heap.size) (hs : ∀ b, b < B → ¬ S b) : Below B w w' :=
  ⟨h.os, h.tape, h.output, h.size, fun k hk => h.block k (by omega) (hs k hk)⟩

end Kept
end Go.Proofs.Qxb6617261a
