/-
  SEAT b6617160a: waiting, ZZWaiting, lastMovesAt.
-/
import Derived.Test.Qxb6617160aNew
import Derived.Test.Qxb6617160aExpect
namespace Go.Proofs.Qxb6617160a
open Go.RowKit Go.Deep
set_option linter.unusedVariables false
attribute [local go_sem] eq23

/-- waiting's flag of a partition whose last move counts from m. -/
def hrs (m now : Int) : Int := IntKind.u64.wrap ((IntKind.u64.wrap (IntKind.u64.wrap now - IntKind.u64.wrap m)).tdiv 3600)
def wt (m now h : Int) : Bool := m != 0 && decide (hrs m now < IntKind.u64.wrap h)

/-- A builder at block b, its fields read off. -/
structure Bld (w : World) (b : Nat) (pp h : Int) (vd vt vm : Value) : Prop where
  row : w.rowIs b 56 9 (bf pp h vd vt vm)
namespace Bld
variable {w : World} {b : Nat} {pp h : Int} {vd vt vm : Value}
theorem c0 (x : Bld w b pp h vd vt vm) : w.cell? ⟨b, 0, none⟩ = some (.int .i64 pp) := x.row.cell (i := 0) (by omega)
theorem c2 (x : Bld w b pp h vd vt vm) : w.cell? ⟨b, 2, none⟩ = some (.int .i64 h) := x.row.cell (i := 2) (by omega)
theorem c3 (x : Bld w b pp h vd vt vm) : w.cell? ⟨b, 3, none⟩ = some vd := x.row.cell (i := 3) (by omega)
theorem c7 (x : Bld w b pp h vd vt vm) : w.cell? ⟨b, 7, none⟩ = some vt := x.row.cell (i := 7) (by omega)
theorem c8 (x : Bld w b pp h vd vt vm) : w.cell? ⟨b, 8, none⟩ = some vm := x.row.cell (i := 8) (by omega)
theorem lt (x : Bld w b pp h vd vt vm) : b < w.heap.size := x.row.lt
theorem of {w' : World} (x : Bld w b pp h vd vt vm) {S : Nat → Prop} (k : Kept S w w') (hs : ¬ S b) : Bld w' b pp h vd vt vm := ⟨k.row x.row hs⟩
end Bld

theorem cloned_step' {t : TypeId} {w wr : World} {n i : Nat} {z v : Value} {f : Nat → Value} (h : Cloned t w wr n (Filled z f i)) (hv : v = f i) :
    Cloned t w (wr.setCell ⟨w.heap.size, i, none⟩ v) n (Filled z f (i + 1)) := by rw [hv]; exact cloned_step h

theorem wait_zero (b : Nat) (pp : Int) (vd : Value) (at' am : Option Addr) (nt ct nm cm : Nat) (now : Int) (w : World) (hb : Bld w b pp 0 vd (.slice at' nt ct) (.slice am nm cm)) :
    Calls Try.prog 22 #[.pointer (some ⟨b, 0, none⟩), .int .i64 now] w fun e w' => e = .returned (.slice none 0 0) ∧ w' = w := by
  have h2 := hb.c2
  have h7 := hb.c7
  go_enter Try.func22, Try.ntmps22
  go_wp2
  go_ret
  exact ⟨rfl, rfl⟩

theorem wait_first (b : Nat) (pp h : Int) (vd : Value) (am : Option Addr) (nt ct nm cm : Nat) (now : Int) (w : World) (hb : Bld w b pp h vd (.slice none nt ct) (.slice am nm cm)) :
    Calls Try.prog 22 #[.pointer (some ⟨b, 0, none⟩), .int .i64 now] w fun e w' => e = .returned (.slice none 0 0) ∧ w' = w := by
  have h2 := hb.c2
  have h7 := hb.c7
  by_cases hh : h = 0
  · subst hh
    exact wait_zero b pp vd none am nt ct nm cm now w hb
  · have hz : (h == 0) = false := by simp [hh]
    go_enter Try.func22, Try.ntmps22
    go_wp2
    go_ret
    exact ⟨rfl, rfl⟩

set_option maxHeartbeats 800000 in
set_option maxRecDepth 1000000 in
theorem wait_27 (b mb mo : Nat) (pp h : Int) (vd : Value) (x : Addr) (am : Option Addr) (nt ct nm cm : Nat) (now : Int) (M : Nat → Int) (w : World) (hh : (h == 0) = false) (hnm : nm ≤ 65536)
    (hb : Bld w b pp h vd (.slice (some x) nt ct) (.slice am nm cm)) (hM : RowV .i64 w am nm mb mo M) :
    Calls Try.prog 27 #[.pointer (some ⟨b, 0, none⟩), .int .i64 now] w fun e w' => e = .returned (.slice (some ⟨w.heap.size, 0, none⟩) nm nm) ∧ Cloned 4 w w' nm (fun p => .bool (wt (lm (M p) now h) now h)) := by
  have hmk := run_make_row' (P := Try.prog) 26 4 (.bool false) 1 Try.underlying26 Try.info4 rfl .i64 .i64 nm (by omega) (by omega)
  have h2 := hb.c2
  have h7 := hb.c7
  have h8 := hb.c8
  have hbl := hb.lt
  have h8a : ∀ o, (w.alloc o).cell? ⟨b, 8, none⟩ = some (.slice am nm cm) := fun o => by rw [World.cell?_alloc_old _ _ _ (by show b ≠ w.heap.size; omega)]; exact h8
  go_enter Try.func27, Try.ntmps27
  go_wp2
  clear hmk h8a
  go_loopg [31] nm (fun g i wr => ∃ k : Nat, k ≤ nm ∧ g = nm - k ∧ i = .int .i64 k ∧ Cloned 4 w wr nm (Filled (.bool false) (fun p => .bool (wt (lm (M p) now h) now h)) k))
  case atStart => exact ⟨0, Nat.zero_le _, rfl, rfl, cloned_start w 4 nm _ _⟩
  case round =>
    obtain ⟨k, hk, rfl, rfl, hC⟩ := hrel
    by_cases hlt : k < nm
    · obtain rfl := hM.ha (by omega)
      have hltz : (k : Int) < (nm : Int) := by omega
      have hb' := hb.of hC.kept (fun h => h)
      have g2 := hb'.c2
      have g8 := hb'.c8
      have g9 : wr.cell? ⟨mb, mo + k, none⟩ = some (.int .i64 (M k)) := hC.kept.cellv (hM.cel k hlt) (fun h => h)
      have t1 : wr.cell? ⟨w.heap.size, k, none⟩ = some (.bool false) := by simpa [Filled] using hC.row.cell hlt
      have t2 : wr.frozen? ⟨w.heap.size, k, none⟩ = false := hC.row.frozen k
      generalize hl : lm (M k) now h = m
      have Hl : Hid (lm (M k) now h = m) := hl
      clear hl
      by_cases hm0 : m = 0
      · subst hm0
        go_wp2_with (go_at_call 28; refine (lm_any _ _ _ _ _ _ _ _ _ _ hlt hnm g8 g2 g9).mono ?_; rintro e w' ⟨rfl, rfl⟩; rw [Hl.out])
        go_roundg (nm - (k + 1))
        case measure => go_light; omega
        case rel => go_light; exact ⟨k + 1, by omega, rfl, by simp, cloned_step' hC (by show _ = Value.bool (wt (lm (M k) now h) now h); rw [Hl.out]; rfl)⟩
      · have hmb : (m != 0) = true := by simp [hm0]
        go_wp2_with (go_at_call 28; refine (lm_any _ _ _ _ _ _ _ _ _ _ hlt hnm g8 g2 g9).mono ?_; rintro e w' ⟨rfl, rfl⟩; rw [Hl.out])
        go_roundg (nm - (k + 1))
        case measure => go_light; omega
        case rel => go_light; exact ⟨k + 1, by omega, rfl, by simp, cloned_step' hC (by show _ = Value.bool (wt (lm (M k) now h) now h); rw [Hl.out, wt, hmb]; rfl)⟩
    · have hltz : ¬ ((k : Int) < (nm : Int)) := by omega
      go_wp2
      go_ret
      obtain rfl : k = nm := by omega
      exact ⟨rfl, cloned_end hC⟩

theorem wait_any (b mb mo : Nat) (pp h : Int) (vd : Value) (x : Addr) (am : Option Addr) (nt ct nm cm : Nat) (now : Int) (M : Nat → Int) (w : World) (hh : (h == 0) = false) (hnm : nm ≤ 65536)
    (hb : Bld w b pp h vd (.slice (some x) nt ct) (.slice am nm cm)) (hM : RowV .i64 w am nm mb mo M) :
    Calls Try.prog 22 #[.pointer (some ⟨b, 0, none⟩), .int .i64 now] w fun e w' => e = .returned (.slice (some ⟨w.heap.size, 0, none⟩) nm nm) ∧ Cloned 4 w w' nm (fun p => .bool (wt (lm (M p) now h) now h)) := by
  go_enter Try.func22, Try.ntmps22
  go_wp2_with (go_at_call 27; refine (wait_27 b mb mo pp h vd x am nt ct nm cm now M w hh hnm hb hM).mono ?_; rintro e w' ⟨rfl, hC⟩)
  go_ret
  exact ⟨rfl, hC⟩

/-- The times, 0 where there are none. -/
def mvOf (nm : Nat) (M : Nat → Int) (p : Nat) : Int := if p < nm then M p else 0

/-- What lastMovesAt leaves: new blocks, the last of the rows at l. -/
def LmAt (w : World) (P : Nat) (f : Nat → Value) (e : Ending) (w' : World) : Prop :=
  ∃ l, e = .returned (.slice (some ⟨l, 0, none⟩) P P) ∧ w.heap.size ≤ l ∧ Kept (fun _ => False) w w' ∧ w'.rowIs l 2 P f

set_option maxHeartbeats 1600000 in
set_option maxRecDepth 1000000 in
theorem lastMovesAt_any (pp h : Int) (P nm cm mb mo : Nat) (am : Option Addr) (now : Int) (M : Nat → Int) (w : World) (h0 : 0 ≤ pp) (h1 : pp ≤ 16) (hP : wrap64 (2 ^ pp.toNat) = (P : Int)) (hP2 : P ≤ 65536)
    (hm : nm = 0 ∨ nm = P) (hM : RowV .i64 w am nm mb mo M) :
    Calls Try.prog 16 #[.int .i64 pp, .int .i64 h, .slice am nm cm, .int .i64 now] w fun e w' => LmAt w P (fun p => .int .i64 (lm (mvOf nm M p) now h)) e w' := by
  have hmk := run_make_row' (P := Try.prog) 24 2 (.int .i64 0) 8 Try.underlying24 Try.info2 rfl .i64 .i64 P (by omega) (by omega)
  go_enter Try.func16, Try.ntmps16
  go_wp2
  rw [hP]
  have HP : Hid (wrap64 (2 ^ pp.toNat) = (P : Int)) := hP
  clear hP
  go_loopg [11] nm (fun g i wr => ∃ k : Nat, k ≤ nm ∧ g = nm - k ∧ i = .int .i64 k ∧ Cloned 2 w wr P (Filled (.int .i64 0) (fun p => .int .i64 (M p)) k))
  case atStart => exact ⟨0, Nat.zero_le _, rfl, rfl, cloned_start w 2 P _ _⟩
  case round =>
    obtain ⟨k, hk, rfl, rfl, hC⟩ := hrel
    by_cases hlt : k < nm
    · obtain rfl := hM.ha (by omega)
      obtain rfl : nm = P := by omega
      clear hm
      have hltz : (k : Int) < (nm : Int) := by omega
      have hr : wr.cell? ⟨mb, mo + k, none⟩ = some (.int .i64 (M k)) := hC.kept.cellv (hM.cel k hlt) (fun h => h)
      have t1 : wr.cell? ⟨w.heap.size, k, none⟩ = some (.int .i64 0) := by simpa [Filled] using hC.row.cell hlt
      have t2 : wr.frozen? ⟨w.heap.size, k, none⟩ = false := hC.row.frozen k
      clear hmk
      go_wp2
      go_roundg (nm - (k + 1))
      case measure => go_light; omega
      case rel => go_light; exact ⟨k + 1, by omega, rfl, by simp, cloned_step hC⟩
    · have hltz : ¬ ((k : Int) < (nm : Int)) := by omega
      obtain rfl : k = nm := by omega
      have Hm : Hid (k = 0 ∨ k = P) := hm
      clear hm
      go_wp2_with fail
      refine (newb_nil _ _ _ _ _ _ _ _ (fun _ => 0) _).mono ?_
      rintro e w2 ⟨b, dao, db, rfl, hB⟩
      have hbl : Bld w2 b pp h (.slice dao 0 0) (.slice none 0 0) (.slice (some ⟨w.heap.size, 0, none⟩) P P) := ⟨hB.row⟩
      have hm2 : w2.rowIs w.heap.size 2 P (Filled (.int .i64 0) (fun p => .int .i64 (M p)) k) := hB.kept.row hC.row (fun h => h)
      have hk2 : Kept (fun _ => False) w w2 := hC.kept.trans hB.kept (fun _ _ h => h)
      clear hB hC
      go_wp2
      clear hmk
      go_loopg [14] P (fun g i wr => ∃ q : Nat, q ≤ P ∧ g = P - q ∧ i = .int .i64 q ∧ Cloned 2 w2 wr P (Filled (.int .i64 0) (fun p => .int .i64 (lm (mvOf k M p) now h)) q))
      case atStart => exact ⟨0, Nat.zero_le _, rfl, rfl, cloned_start w2 2 P _ _⟩
      case round =>
        obtain ⟨q, hq, rfl, rfl, hC⟩ := hrel
        by_cases hlq : q < P
        · have hlqz : (q : Int) < (P : Int) := by omega
          have hb' := hbl.of hC.kept (fun h => h)
          have g2 := hb'.c2
          have g8 := hb'.c8
          have g9 : wr.cell? ⟨w.heap.size, 0 + q, none⟩ = some (.int .i64 (mvOf k M q)) := by
            rw [Nat.zero_add, (hC.kept.row hm2 (fun h => h)).cell hlq]
            simp only [Filled, mvOf]
            split <;> rfl
          have t1 : wr.cell? ⟨w2.heap.size, q, none⟩ = some (.int .i64 0) := by simpa [Filled] using hC.row.cell hlq
          have t2 : wr.frozen? ⟨w2.heap.size, q, none⟩ = false := hC.row.frozen q
          go_wp2_with fail
          refine (zlm_any _ _ _ _ _ _ _ _ _ _ hlq hP2 g8 g2 g9).mono ?_
          rintro e w' ⟨rfl, rfl⟩
          clear g9 g8 g2
          go_wp2
          go_roundg (P - (q + 1))
          case measure => go_light; omega
          case rel => go_light; exact ⟨q + 1, by omega, rfl, by simp, cloned_step hC⟩
        · have hlqz : ¬ ((q : Int) < (P : Int)) := by omega
          obtain rfl : q = P := by omega
          go_wp2
          go_ret
          exact ⟨w2.heap.size, rfl, hk2.size, hk2.trans hC.kept (fun _ _ h => h), (cloned_end hC).row⟩
end Go.Proofs.Qxb6617160a
