/-
  SEAT b6617160a: cloneRows16, cloneRows32.
-/
import Derived.Test.Qxb6617160aSmall
namespace Go.Proofs.Qxb6617160a
open Go.RowKit Go.Deep
set_option linter.unusedVariables false
attribute [local go_sem] eq23 eq25 ne41 ne43

/-- How many of the first r rows are not nil. -/
def cnt (A : Nat → Option Addr) : Nat → Nat
  | 0 => 0
  | r + 1 => cnt A r + if (A r).isSome then 1 else 0

/-- What a clone's outer row holds at j. -/
def topv (N : Nat) (A : Nat → Option Addr) (L : Nat → Nat) (j : Nat) : Value :=
  if (A j).isSome then .slice (some ⟨N + 1 + cnt A j, 0, none⟩) (L j) (L j) else .slice none 0 0

theorem cnt_le (A : Nat → Option Addr) {i j : Nat} (h : i ≤ j) : cnt A i ≤ cnt A j := by
  induction j with
  | zero => obtain rfl : i = 0 := by omega
            exact Nat.le_refl _
  | succ j ih =>
    by_cases e : i = j + 1
    · subst e; exact Nat.le_refl _
    · exact Nat.le_trans (ih (by omega)) (by simp [cnt])

theorem cnt_lt (A : Nat → Option Addr) {i j : Nat} (h : i < j) (hi : (A i).isSome = true) : cnt A i < cnt A j := by
  have h1 : cnt A (i + 1) ≤ cnt A j := cnt_le A h
  have h2 : cnt A (i + 1) = cnt A i + 1 := by simp [cnt, hi]
  omega

/-- THE OUTER LOOP's STATE, r rows cloned. -/
structure Out (t1 t0 : TypeId) (k : IntKind) (w wr : World) (R r : Nat) (A : Nat → Option Addr) (L : Nat → Nat) (Z : Nat → Nat → Int) : Prop where
  kept : Kept (fun _ => False) w wr
  size : wr.heap.size = w.heap.size + 1 + cnt A r
  top : wr.rowIs w.heap.size t1 R (fun j => if j < r then topv w.heap.size A L j else .slice none 0 0)
  done : ∀ j, j < r → (A j).isSome = true → wr.rowIs (w.heap.size + 1 + cnt A j) t0 (L j) (fun i => .int k (Z j i))

/-- THE INNER LOOP's: row r is made, c of its cells are filled. -/
structure Inn (t1 t0 : TypeId) (k : IntKind) (w wr : World) (R r c : Nat) (A : Nat → Option Addr) (L : Nat → Nat) (Z : Nat → Nat → Int) : Prop where
  kept : Kept (fun _ => False) w wr
  size : wr.heap.size = w.heap.size + 1 + cnt A r + 1
  top : wr.rowIs w.heap.size t1 R (fun j => if j < r then topv w.heap.size A L j else .slice none 0 0)
  done : ∀ j, j < r → (A j).isSome = true → wr.rowIs (w.heap.size + 1 + cnt A j) t0 (L j) (fun i => .int k (Z j i))
  cur : wr.rowIs (w.heap.size + 1 + cnt A r) t0 (L r) (Filled (.int k 0) (fun i => .int k (Z r i)) c)

section
variable {t1 t0 : TypeId} {k : IntKind} {w wr : World} {R r c : Nat} {A : Nat → Option Addr} {L : Nat → Nat} {Z : Nat → Nat → Int}

theorem out_start (w : World) (t1 t0 : TypeId) (k : IntKind) (R : Nat) (A : Nat → Option Addr) (L : Nat → Nat) (Z : Nat → Nat → Int) :
    Out t1 t0 k w (w.alloc (.cells (madeCells #[.slice none 0 0] R) t1)) R 0 A L Z :=
  ⟨(Kept.refl _ _).alloc _, by simp [cnt], (World.rowIs_made w _ R t1).congr (fun j _ => by simp), fun j hj => absurd hj (Nat.not_lt_zero _)⟩

theorem out_nil (h : Out t1 t0 k w wr R r A L Z) (hA : A r = none) : Out t1 t0 k w wr R (r + 1) A L Z := by
  refine ⟨h.kept, by rw [h.size]; simp [cnt, hA], h.top.congr (fun j _ => ?_), fun j hj hs => ?_⟩
  · by_cases e : j = r
    · subst e; simp [topv, hA]
    · by_cases hlt : j < r
      · rw [if_pos hlt, if_pos (by omega)]
      · rw [if_neg hlt, if_neg (by omega)]
  · by_cases e : j = r
    · subst e; rw [hA] at hs; simp at hs
    · exact h.done j (by omega) hs

theorem inn_start (h : Out t1 t0 k w wr R r A L Z) : Inn t1 t0 k w (wr.alloc (.cells (madeCells #[.int k 0] (L r)) t0)) R r 0 A L Z := by
  have hnew := World.rowIs_made wr (.int k 0) (L r) t0
  rw [h.size] at hnew
  exact ⟨h.kept.alloc _, by simp [h.size], h.top.alloc _, fun j hj hs => (h.done j hj hs).alloc _, hnew.congr (fun i _ => by simp [Filled])⟩

theorem inn_step (h : Inn t1 t0 k w wr R r c A L Z) : Inn t1 t0 k w (wr.setCell ⟨w.heap.size + 1 + cnt A r, c, none⟩ (.int k (Z r c))) R r (c + 1) A L Z := by
  refine ⟨h.kept.setCell (Or.inr (by show w.heap.size ≤ w.heap.size + 1 + cnt A r; omega)) _, by simp [h.size], h.top.setOther (by show w.heap.size ≠ w.heap.size + 1 + cnt A r; omega) _,
    fun j hj hs => (h.done j hj hs).setOther (by show w.heap.size + 1 + cnt A j ≠ w.heap.size + 1 + cnt A r; have := cnt_lt A hj hs; omega) _, (h.cur.set c _).congr (fun i _ => ?_)⟩
  simp only [Filled]
  by_cases e : i = c
  · subst e; simp
  · rw [if_neg e]
    by_cases hlt : i < c
    · rw [if_pos hlt, if_pos (by omega)]
    · rw [if_neg hlt, if_neg (by omega)]

theorem inn_done (h : Inn t1 t0 k w wr R r (L r) A L Z) (hs : (A r).isSome = true) :
    Out t1 t0 k w (wr.setCell ⟨w.heap.size, r, none⟩ (.slice (some ⟨w.heap.size + 1 + cnt A r, 0, none⟩) (L r) (L r))) R (r + 1) A L Z := by
  refine ⟨h.kept.setCell (Or.inr (Nat.le_refl _)) _, by simp [h.size, cnt, hs]; omega, (h.top.set r _).congr (fun j _ => ?_), fun j hj hs' => ?_⟩
  · by_cases e : j = r
    · subst e; simp [topv, hs]
    · rw [if_neg e]
      by_cases hlt : j < r
      · rw [if_pos hlt, if_pos (by omega)]
      · rw [if_neg hlt, if_neg (by omega)]
  · by_cases e : j = r
    · subst e
      exact (h.cur.setOther (by show w.heap.size + 1 + cnt A j ≠ w.heap.size; omega) _).congr (fun i hi => by simp [Filled, hi])
    · exact (h.done j (by omega) hs').setOther (by show w.heap.size + 1 + cnt A j ≠ w.heap.size; omega) _

end

theorem cloneRows16_nil (w : World) : Calls Try.prog 11 #[.slice none 0 0] w fun e w' => e = .returned (.slice none 0 0) ∧ w' = w := by
  go_enter Try.func11, Try.ntmps11
  go_wp2
  go_ret
  exact ⟨rfl, rfl⟩

set_option maxHeartbeats 800000 in
theorem cloneRows16_any (x : Addr) (gb go R Rc : Nat) (A : Nat → Option Addr) (L C RB RO : Nat → Nat) (Z : Nat → Nat → Int) (w : World) (hx : 0 < R → x = ⟨gb, go, none⟩) (hR : R ≤ 1048576) (hL : ∀ r, r < R → L r ≤ 1048576)
    (hrow : ∀ r, r < R → w.cell? ⟨gb, go + r, none⟩ = some (.slice (A r) (L r) (C r)))
    (hA : ∀ r, r < R → ∀ c, c < L r → A r = some ⟨RB r, RO r, none⟩ ∧ w.cell? ⟨RB r, RO r + c, none⟩ = some (.int .u16 (Z r c))) :
    Calls Try.prog 11 #[.slice (some x) R Rc] w fun e w' => e = .returned (.slice (some ⟨w.heap.size, 0, none⟩) R R) ∧ Out 41 42 .u16 w w' R R A L Z := by
  have hmk := run_make_row' (P := Try.prog) 23 41 (.slice none 0 0) 24 Try.underlying23 Try.info41 rfl .i64 .i64 R (by omega) (by omega)
  go_enter Try.func11, Try.ntmps11
  go_wp2
  clear hmk
  go_loopg [4] R (fun g i wr => ∃ r : Nat, r ≤ R ∧ g = R - r ∧ i = .int .i64 r ∧ Out 41 42 .u16 w wr R r A L Z)
  case atStart => exact ⟨0, Nat.zero_le _, rfl, rfl, out_start w 41 42 .u16 R A L Z⟩
  case round =>
    obtain ⟨r, hr, rfl, rfl, hO⟩ := hrel
    by_cases hlt : r < R
    · obtain rfl := hx (by omega)
      have hltz : (r : Int) < (R : Int) := by omega
      have hLr := hL r hlt
      have g0 : wr.cell? ⟨gb, go + r, none⟩ = some (.slice (A r) (L r) (C r)) := hO.kept.cellv (hrow r hlt) (fun h => h)
      have gb1 : gb < w.heap.size := World.block_lt_of_cell? _ _ (hrow r hlt)
      rcases hAr : A r with _ | y
      · rw [hAr] at g0
        go_wp2
        go_roundg (R - (r + 1))
        case measure => go_light; omega
        case rel => go_light; exact ⟨r + 1, by omega, rfl, by simp, out_nil hO hAr⟩
      · rw [hAr] at g0
        have hs : (A r).isSome = true := by rw [hAr]; rfl
        have Hr : Hid (A r = some y) := hAr
        clear hAr
        have hmk2 := run_make_row' (P := Try.prog) 41 42 (.int .u16 0) 2 Try.underlying41 Try.info42 rfl .i64 .i64 (L r) (by omega) (by omega)
        have hsz := hO.size
        go_wp2
        have hI0 := inn_start hO
        clear hmk2 hsz g0
        go_loopg [6] (L r) (fun g i wi => ∃ c : Nat, c ≤ L r ∧ g = L r - c ∧ i = .int .i64 c ∧ Inn 41 42 .u16 w wi R r c A L Z)
        case atStart => exact ⟨0, Nat.zero_le _, rfl, rfl, hI0⟩
        case round =>
          obtain ⟨c, hc, rfl, rfl, hI⟩ := hrel
          clear hI0 hO
          have g0 : wr.cell? ⟨gb, go + r, none⟩ = some (.slice (some y) (L r) (C r)) := by rw [← Hr.out]; exact hI.kept.cellv (hrow r hlt) (fun h => h)
          by_cases hlc : c < L r
          · have hlcz : (c : Int) < (L r : Int) := by omega
            obtain ⟨e1, e2⟩ := hA r hlt c hlc
            rw [Hr.out] at e1
            obtain rfl : y = ⟨RB r, RO r, none⟩ := by simpa using e1
            clear e1
            have t0 : wr.cell? ⟨RB r, RO r + c, none⟩ = some (.int .u16 (Z r c)) := hI.kept.cellv e2 (fun h => h)
            have t1 : wr.cell? ⟨w.heap.size + 1 + cnt A r, c, none⟩ = some (.int .u16 0) := by simpa [Filled] using hI.cur.cell hlc
            have t2 : wr.frozen? ⟨w.heap.size + 1 + cnt A r, c, none⟩ = false := hI.cur.frozen c
            clear e2
            go_wp2
            go_roundg (L r - (c + 1))
            case measure => go_light; omega
            case rel => go_light; exact ⟨c + 1, by omega, rfl, by simp, inn_step hI⟩
          · obtain rfl : c = L r := by omega
            have hlcz : ¬ ((L r : Int) < (L r : Int)) := by omega
            have t1 : ∃ v, wr.cell? ⟨w.heap.size, r, none⟩ = some v := ⟨_, hI.top.cell hlt⟩
            obtain ⟨v, t1⟩ := t1
            have t2 : wr.frozen? ⟨w.heap.size, r, none⟩ = false := hI.top.frozen r
            go_wp2
            go_roundg (R - (r + 1))
            case measure => go_light; omega
            case rel => go_light; exact ⟨r + 1, by omega, rfl, by simp, inn_done hI hs⟩
    · have hltz : ¬ ((r : Int) < (R : Int)) := by omega
      go_wp2
      go_ret
      obtain rfl : r = R := by omega
      exact ⟨rfl, hO⟩
theorem cloneRows32_nil (w : World) : Calls Try.prog 13 #[.slice none 0 0] w fun e w' => e = .returned (.slice none 0 0) ∧ w' = w := by
  go_enter Try.func13, Try.ntmps13
  go_wp2
  go_ret
  exact ⟨rfl, rfl⟩

set_option maxHeartbeats 800000 in
theorem cloneRows32_any (x : Addr) (gb go R Rc : Nat) (A : Nat → Option Addr) (L C RB RO : Nat → Nat) (Z : Nat → Nat → Int) (w : World) (hx : 0 < R → x = ⟨gb, go, none⟩) (hR : R ≤ 1048576) (hL : ∀ r, r < R → L r ≤ 1048576)
    (hrow : ∀ r, r < R → w.cell? ⟨gb, go + r, none⟩ = some (.slice (A r) (L r) (C r)))
    (hA : ∀ r, r < R → ∀ c, c < L r → A r = some ⟨RB r, RO r, none⟩ ∧ w.cell? ⟨RB r, RO r + c, none⟩ = some (.int .i32 (Z r c))) :
    Calls Try.prog 13 #[.slice (some x) R Rc] w fun e w' => e = .returned (.slice (some ⟨w.heap.size, 0, none⟩) R R) ∧ Out 43 21 .i32 w w' R R A L Z := by
  have hmk := run_make_row' (P := Try.prog) 25 43 (.slice none 0 0) 24 Try.underlying25 Try.info43 rfl .i64 .i64 R (by omega) (by omega)
  go_enter Try.func13, Try.ntmps13
  go_wp2
  clear hmk
  go_loopg [4] R (fun g i wr => ∃ r : Nat, r ≤ R ∧ g = R - r ∧ i = .int .i64 r ∧ Out 43 21 .i32 w wr R r A L Z)
  case atStart => exact ⟨0, Nat.zero_le _, rfl, rfl, out_start w 43 21 .i32 R A L Z⟩
  case round =>
    obtain ⟨r, hr, rfl, rfl, hO⟩ := hrel
    by_cases hlt : r < R
    · obtain rfl := hx (by omega)
      have hltz : (r : Int) < (R : Int) := by omega
      have hLr := hL r hlt
      have g0 : wr.cell? ⟨gb, go + r, none⟩ = some (.slice (A r) (L r) (C r)) := hO.kept.cellv (hrow r hlt) (fun h => h)
      have gb1 : gb < w.heap.size := World.block_lt_of_cell? _ _ (hrow r hlt)
      rcases hAr : A r with _ | y
      · rw [hAr] at g0
        go_wp2
        go_roundg (R - (r + 1))
        case measure => go_light; omega
        case rel => go_light; exact ⟨r + 1, by omega, rfl, by simp, out_nil hO hAr⟩
      · rw [hAr] at g0
        have hs : (A r).isSome = true := by rw [hAr]; rfl
        have Hr : Hid (A r = some y) := hAr
        clear hAr
        have hmk2 := run_make_row' (P := Try.prog) 43 21 (.int .i32 0) 4 Try.underlying43 Try.info21 rfl .i64 .i64 (L r) (by omega) (by omega)
        have hsz := hO.size
        go_wp2
        have hI0 := inn_start hO
        clear hmk2 hsz g0
        go_loopg [6] (L r) (fun g i wi => ∃ c : Nat, c ≤ L r ∧ g = L r - c ∧ i = .int .i64 c ∧ Inn 43 21 .i32 w wi R r c A L Z)
        case atStart => exact ⟨0, Nat.zero_le _, rfl, rfl, hI0⟩
        case round =>
          obtain ⟨c, hc, rfl, rfl, hI⟩ := hrel
          clear hI0 hO
          have g0 : wr.cell? ⟨gb, go + r, none⟩ = some (.slice (some y) (L r) (C r)) := by rw [← Hr.out]; exact hI.kept.cellv (hrow r hlt) (fun h => h)
          by_cases hlc : c < L r
          · have hlcz : (c : Int) < (L r : Int) := by omega
            obtain ⟨e1, e2⟩ := hA r hlt c hlc
            rw [Hr.out] at e1
            obtain rfl : y = ⟨RB r, RO r, none⟩ := by simpa using e1
            clear e1
            have t0 : wr.cell? ⟨RB r, RO r + c, none⟩ = some (.int .i32 (Z r c)) := hI.kept.cellv e2 (fun h => h)
            have t1 : wr.cell? ⟨w.heap.size + 1 + cnt A r, c, none⟩ = some (.int .i32 0) := by simpa [Filled] using hI.cur.cell hlc
            have t2 : wr.frozen? ⟨w.heap.size + 1 + cnt A r, c, none⟩ = false := hI.cur.frozen c
            clear e2
            go_wp2
            go_roundg (L r - (c + 1))
            case measure => go_light; omega
            case rel => go_light; exact ⟨c + 1, by omega, rfl, by simp, inn_step hI⟩
          · obtain rfl : c = L r := by omega
            have hlcz : ¬ ((L r : Int) < (L r : Int)) := by omega
            have t1 : ∃ v, wr.cell? ⟨w.heap.size, r, none⟩ = some v := ⟨_, hI.top.cell hlt⟩
            obtain ⟨v, t1⟩ := t1
            have t2 : wr.frozen? ⟨w.heap.size, r, none⟩ = false := hI.top.frozen r
            go_wp2
            go_roundg (R - (r + 1))
            case measure => go_light; omega
            case rel => go_light; exact ⟨r + 1, by omega, rfl, by simp, inn_done hI hs⟩
    · have hltz : ¬ ((r : Int) < (R : Int)) := by omega
      go_wp2
      go_ret
      obtain rfl : r = R := by omega
      exact ⟨rfl, hO⟩
end Go.Proofs.Qxb6617160a
