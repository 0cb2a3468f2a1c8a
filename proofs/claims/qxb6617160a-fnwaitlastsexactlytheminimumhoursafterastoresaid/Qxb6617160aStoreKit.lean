/-
  SEAT b6617160a: store: THE STATES OF ITS MEMORY, and what each write does to them. No walk.
-/
import Derived.Test.Qxb6617160aWait
namespace Go.Proofs.Qxb6617160a
open Go.RowKit Go.Deep
set_option linter.unusedVariables false

/-- Blocks of different element types are different blocks. -/
theorem rowIs_ne {w : World} {b b' : Nat} {t t' : TypeId} {n n' : Nat} {f f' : Nat → Value} (h : w.rowIs b t n f) (h' : w.rowIs b' t' n' f') (ht : t ≠ t') : b ≠ b' := by
  intro e
  subst e
  obtain ⟨c, hc, _, _⟩ := h
  obtain ⟨c', hc', _, _⟩ := h'
  rw [hc] at hc'
  simp at hc'
  exact ht hc'.2

namespace Bld
variable {w : World} {b : Nat} {pp h : Int} {vd vt vm : Value}
theorem frozen (x : Bld w b pp h vd vt vm) (i : Nat) : w.frozen? ⟨b, i, none⟩ = false := x.row.frozen i
theorem alloc (x : Bld w b pp h vd vt vm) (o : Obj) : Bld (w.alloc o) b pp h vd vt vm := ⟨x.row.alloc o⟩
theorem drew (x : Bld w b pp h vd vt vm) : Bld w.drew b pp h vd vt vm := ⟨x.row.drew⟩
theorem other (x : Bld w b pp h vd vt vm) {a : Addr} (ha : b ≠ a.block) (v : Value) : Bld (w.setCell a v) b pp h vd vt vm := ⟨x.row.setOther ha v⟩
theorem set8 (x : Bld w b pp h vd vt vm) (v : Value) : Bld (w.setCell ⟨b, 8, none⟩ v) b pp h vd vt v :=
  ⟨(x.row.set 8 v).congr (fun i hi => by
    match i, hi with
    | 0, _ => rfl
    | 1, _ => rfl
    | 2, _ => rfl
    | 3, _ => rfl
    | 4, _ => rfl
    | 5, _ => rfl
    | 6, _ => rfl
    | 7, _ => rfl
    | 8, _ => rfl)⟩
theorem set7 (x : Bld w b pp h vd vt vm) (v : Value) : Bld (w.setCell ⟨b, 7, none⟩ v) b pp h vd v vm :=
  ⟨(x.row.set 7 v).congr (fun i hi => by
    match i, hi with
    | 0, _ => rfl
    | 1, _ => rfl
    | 2, _ => rfl
    | 3, _ => rfl
    | 4, _ => rfl
    | 5, _ => rfl
    | 6, _ => rfl
    | 7, _ => rfl
    | 8, _ => rfl)⟩
end Bld

/-- What the first part of store writes of the old memory. -/
def SB (b : Nat) (am : Option Addr) (mb0 : Nat) : Nat → Prop := fun k => k = b ∨ (am.isSome = true ∧ k = mb0)

/-- THE STATE TILL THE TIMES ARE RENEWED: the times lie in block mb and hold Mv. -/
structure StB (w wx : World) (b mb0 mb : Nat) (am : Option Addr) (pp h : Int) (vd vt : Value) (P : Nat) (Mv : Nat → Int) : Prop where
  kept : Kept (SB b am mb0) w wx
  bld : Bld wx b pp h vd vt (.slice (some ⟨mb, 0, none⟩) P P)
  mov : wx.rowIs mb 2 P (fun p => .int .i64 (Mv p))
  mbw : (am.isSome = true ∧ mb = mb0) ∨ w.heap.size ≤ mb

theorem stB_made {w : World} {b mb0 : Nat} {am : Option Addr} {pp h : Int} {vd vt vm : Value} (P : Nat) {nm : Nat} {M : Nat → Int} (hb : Bld w b pp h vd vt vm) (hn : nm = 0) :
    StB w ((w.setCell ⟨b, 8, none⟩ (.slice (some ⟨w.heap.size, 0, none⟩) P P)).alloc (.cells (madeCells #[.int .i64 0] P) 2)) b mb0 w.heap.size am pp h vd vt P (mvOf nm M) := by
  have hnew := World.rowIs_made (w.setCell ⟨b, 8, none⟩ (.slice (some ⟨w.heap.size, 0, none⟩) P P)) (.int .i64 0) P 2
  rw [nblk_setCell] at hnew
  exact ⟨((Kept.refl _ _).setCell (Or.inl (Or.inl rfl)) _).alloc _, (hb.set8 _).alloc _, hnew.congr (fun i _ => by subst hn; simp [mvOf]), Or.inr (Nat.le_refl _)⟩

theorem stB_had {w : World} {b mb0 : Nat} {am : Option Addr} {pp h : Int} {vd vt : Value} {P nm : Nat} {M : Nat → Int} (hb : Bld w b pp h vd vt (.slice (some ⟨mb0, 0, none⟩) P P)) (hs : am.isSome = true)
    (hm : w.rowIs mb0 2 P (fun p => .int .i64 (M p))) (hn : nm = P) : StB w w b mb0 mb0 am pp h vd vt P (mvOf nm M) :=
  ⟨Kept.refl _ _, hb, hm.congr (fun i hi => by subst hn; simp [mvOf, hi]), Or.inl ⟨hs, rfl⟩⟩

/-- .. with k of the times renewed. -/
def lmTo (M : Nat → Int) (now h : Int) (k p : Nat) : Int := if p < k then lm (M p) now h else M p

theorem stB_step {w wx : World} {b mb0 mb : Nat} {am : Option Addr} {pp h now : Int} {vd vt : Value} {P k : Nat} {M : Nat → Int} (s : StB w wx b mb0 mb am pp h vd vt P (lmTo M now h k)) :
    StB w (wx.setCell ⟨mb, k, none⟩ (.int .i64 (lm (M k) now h))).drew b mb0 mb am pp h vd vt P (lmTo M now h (k + 1)) := by
  refine ⟨(s.kept.setCell (by rcases s.mbw with ⟨h1, h2⟩ | h1; (· exact Or.inl (Or.inr ⟨h1, h2⟩)); (· exact Or.inr h1)) _).drew, (s.bld.other (rowIs_ne s.bld.row s.mov (by decide)) _).drew, ((s.mov.set k _).congr (fun i _ => ?_)).drew, s.mbw⟩
  simp only [lmTo]
  by_cases e : i = k
  · subst e; simp
  · rw [if_neg e]
    by_cases hlt : i < k
    · rw [if_pos hlt, if_pos (by omega)]
    · rw [if_neg hlt, if_neg (by omega)]

theorem lmTo_zero (M : Nat → Int) (now h : Int) : lmTo M now h 0 = M := by funext p; simp [lmTo]

/-- THE STATE WHILE A NEW TABLE IS MADE, r of its rows made, upon the world w1. -/
structure SC (w1 wx : World) (b mb : Nat) (pp h : Int) (vd : Value) (R r P : Nat) (Mv : Nat → Int) : Prop where
  kept : Kept (fun k => k = b) w1 wx
  bld : Bld wx b pp h vd (.slice (some ⟨w1.heap.size, 0, none⟩) R R) (.slice (some ⟨mb, 0, none⟩) P P)
  mov : wx.rowIs mb 2 P (fun p => .int .i64 (Mv p))
  size : wx.heap.size = w1.heap.size + 1 + r
  top : wx.rowIs w1.heap.size 41 R (fun j => if j < r then .slice (some ⟨w1.heap.size + 1 + j, 0, none⟩) P P else .slice none 0 0)
  done : ∀ j, j < r → wx.rowIs (w1.heap.size + 1 + j) 42 P (fun _ => .int .u16 0)

theorem sC_start {w1 : World} {b mb : Nat} {pp h : Int} {vd vt : Value} {P : Nat} {Mv : Nat → Int} (R : Nat) (hb : Bld w1 b pp h vd vt (.slice (some ⟨mb, 0, none⟩) P P)) (hm : w1.rowIs mb 2 P (fun p => .int .i64 (Mv p))) :
    SC w1 ((w1.setCell ⟨b, 7, none⟩ (.slice (some ⟨w1.heap.size, 0, none⟩) R R)).alloc (.cells (madeCells #[.slice none 0 0] R) 41)) b mb pp h vd R 0 P Mv := by
  have hnew := World.rowIs_made (w1.setCell ⟨b, 7, none⟩ (.slice (some ⟨w1.heap.size, 0, none⟩) R R)) (.slice none 0 0) R 41
  rw [nblk_setCell] at hnew
  exact ⟨((Kept.refl (fun k => k = b) _).setCell (Or.inl rfl) _).alloc _, (hb.set7 _).alloc _, (hm.setOther (rowIs_ne hm hb.row (by decide)) _).alloc _, by simp, hnew.congr (fun i _ => by simp), fun j hj => absurd hj (Nat.not_lt_zero _)⟩

theorem sC_step {w1 wx : World} {b mb : Nat} {pp h : Int} {vd : Value} {R r P : Nat} {Mv : Nat → Int} (s : SC w1 wx b mb pp h vd R r P Mv) :
    SC w1 ((wx.setCell ⟨w1.heap.size, r, none⟩ (.slice (some ⟨w1.heap.size + 1 + r, 0, none⟩) P P)).alloc (.cells (madeCells #[.int .u16 0] P) 42)).drew b mb pp h vd R (r + 1) P Mv := by
  have hnew := World.rowIs_made (wx.setCell ⟨w1.heap.size, r, none⟩ (.slice (some ⟨w1.heap.size + 1 + r, 0, none⟩) P P)) (.int .u16 0) P 42
  rw [nblk_setCell, s.size] at hnew
  refine ⟨((s.kept.setCell (Or.inr (Nat.le_refl _)) _).alloc _).drew, ((s.bld.other (rowIs_ne s.bld.row s.top (by decide)) _).alloc _).drew, ((s.mov.setOther (rowIs_ne s.mov s.top (by decide)) _).alloc _).drew, by simp [s.size]; omega,
    (((s.top.set r _).congr (fun j _ => ?_)).alloc _).drew, fun j hj => ?_⟩
  · by_cases e : j = r
    · subst e; simp
    · rw [if_neg e]
      by_cases hlt : j < r
      · rw [if_pos hlt, if_pos (by omega)]
      · rw [if_neg hlt, if_neg (by omega)]
  · by_cases e : j = r
    · subst e; exact hnew.drew
    · exact (((s.done j (by omega)).setOther (rowIs_ne (s.done j (by omega)) s.top (by decide)) _).alloc _).drew

theorem sC_step2 {w1 wx : World} {b mb : Nat} {pp h : Int} {vd : Value} {R r P : Nat} {Mv : Nat → Int} (s : SC w1 wx b mb pp h vd R r P Mv) :
    SC w1 ((wx.alloc (.cells (madeCells #[.int .u16 0] P) 42)).setCell ⟨w1.heap.size, r, none⟩ (.slice (some ⟨w1.heap.size + 1 + r, 0, none⟩) P P)).drew b mb pp h vd R (r + 1) P Mv := by
  rw [World.setCell_alloc_past _ _ _ _ (by rw [s.size]; omega)]
  exact sC_step s

/-- THE TABLE: its row of rows at tb, row r at block G r, holding Tv r. -/
structure Tab (wx : World) (tb RT P : Nat) (G : Nat → Nat) (Tv : Nat → Nat → Int) : Prop where
  top : wx.rowIs tb 41 RT (fun r => .slice (some ⟨G r, 0, none⟩) P P)
  rows : ∀ r, r < RT → wx.rowIs (G r) 42 P (fun p => .int .u16 (Tv r p))
  inj : ∀ i j, i < j → j < RT → G i < G j

theorem Tab.of {w w' : World} {tb RT P : Nat} {G : Nat → Nat} {Tv : Nat → Nat → Int} {S : Nat → Prop} (x : Tab w tb RT P G Tv) (k : Kept S w w') (h1 : ¬ S tb) (h2 : ∀ r, r < RT → ¬ S (G r)) : Tab w' tb RT P G Tv :=
  ⟨k.row x.top h1, fun r hr => k.row (x.rows r hr) (h2 r hr), x.inj⟩
theorem Tab.other {w : World} {tb RT P : Nat} {G : Nat → Nat} {Tv : Nat → Nat → Int} (x : Tab w tb RT P G Tv) {a : Addr} (h1 : tb ≠ a.block) (h2 : ∀ r, r < RT → G r ≠ a.block) (v : Value) : Tab (w.setCell a v) tb RT P G Tv :=
  ⟨x.top.setOther h1 v, fun r hr => (x.rows r hr).setOther (h2 r hr) v, x.inj⟩

/-- THE STATE OF THE LAST PART: the builder, the times, the table, the held flags. -/
structure SD (Sw : Nat → Prop) (w wx : World) (b mb tb hb : Nat) (hasH : Bool) (pp h : Int) (vd : Value) (RT P : Nat) (G : Nat → Nat) (Mv : Nat → Int) (Tv : Nat → Nat → Int) (Hv : Nat → Bool) : Prop where
  kept : Kept Sw w wx
  bld : Bld wx b pp h vd (.slice (some ⟨tb, 0, none⟩) RT RT) (.slice (some ⟨mb, 0, none⟩) P P)
  mov : wx.rowIs mb 2 P (fun p => .int .i64 (Mv p))
  tab : Tab wx tb RT P G Tv
  hel : hasH = true → wx.rowIs hb 4 P (fun p => .bool (Hv p))
  mbw : Sw mb ∨ w.heap.size ≤ mb
  gw : ∀ r, r < RT → Sw (G r) ∨ w.heap.size ≤ G r
  hw : hasH = true → Sw hb

/-- The table as it was; zeros where there was none. -/
def tOld (first : Bool) (T : Nat → Nat → Int) (r p : Nat) : Int := if first then 0 else T r p

section
variable {Sw : Nat → Prop} {w wx : World} {b mb tb hb : Nat} {hasH : Bool} {pp h : Int} {vd : Value} {RT P : Nat} {G : Nat → Nat} {Mv Mv' : Nat → Int} {Tv Tv' : Nat → Nat → Int} {Hv Hv' : Nat → Bool}

theorem SD.congr (s : SD Sw w wx b mb tb hb hasH pp h vd RT P G Mv Tv Hv) (e1 : ∀ p, p < P → Mv p = Mv' p) (e2 : ∀ r, r < RT → ∀ p, p < P → Tv r p = Tv' r p) (e3 : ∀ p, p < P → Hv p = Hv' p) :
    SD Sw w wx b mb tb hb hasH pp h vd RT P G Mv' Tv' Hv' :=
  ⟨s.kept, s.bld, s.mov.congr (fun p hp => by rw [e1 p hp]), ⟨s.tab.top, fun r hr => (s.tab.rows r hr).congr (fun p hp => by rw [e2 r hr p hp]), s.tab.inj⟩, fun hh => (s.hel hh).congr (fun p hp => by rw [e3 p hp]), s.mbw, s.gw, s.hw⟩

theorem SD.setMov (s : SD Sw w wx b mb tb hb hasH pp h vd RT P G Mv Tv Hv) (p : Nat) (x : Int) :
    SD Sw w (wx.setCell ⟨mb, p, none⟩ (.int .i64 x)) b mb tb hb hasH pp h vd RT P G (fun q => if q = p then x else Mv q) Tv Hv :=
  ⟨s.kept.setCell s.mbw _, s.bld.other (rowIs_ne s.bld.row s.mov (by decide)) _, (s.mov.set p _).congr (fun q _ => by split <;> rfl),
    s.tab.other (rowIs_ne s.tab.top s.mov (by decide)) (fun r hr => rowIs_ne (s.tab.rows r hr) s.mov (by decide)) _, fun hh => (s.hel hh).setOther (rowIs_ne (s.hel hh) s.mov (by decide)) _, s.mbw, s.gw, s.hw⟩

theorem SD.setHel (s : SD Sw w wx b mb tb hb hasH pp h vd RT P G Mv Tv Hv) (hh : hasH = true) (p : Nat) (x : Bool) :
    SD Sw w (wx.setCell ⟨hb, p, none⟩ (.bool x)) b mb tb hb hasH pp h vd RT P G Mv Tv (fun q => if q = p then x else Hv q) :=
  ⟨s.kept.setCell (Or.inl (s.hw hh)) _, s.bld.other (rowIs_ne s.bld.row (s.hel hh) (by decide)) _, s.mov.setOther (rowIs_ne s.mov (s.hel hh) (by decide)) _,
    s.tab.other (rowIs_ne s.tab.top (s.hel hh) (by decide)) (fun r hr => rowIs_ne (s.tab.rows r hr) (s.hel hh) (by decide)) _, fun _ => ((s.hel hh).set p _).congr (fun q _ => by split <;> rfl), s.mbw, s.gw, s.hw⟩

theorem SD.setTab (s : SD Sw w wx b mb tb hb hasH pp h vd RT P G Mv Tv Hv) (r : Nat) (hr : r < RT) (p : Nat) (x : Int) :
    SD Sw w (wx.setCell ⟨G r, p, none⟩ (.int .u16 x)) b mb tb hb hasH pp h vd RT P G Mv (fun i q => if i = r ∧ q = p then x else Tv i q) Hv := by
  refine ⟨s.kept.setCell (s.gw r hr) _, s.bld.other (rowIs_ne s.bld.row (s.tab.rows r hr) (by decide)) _, s.mov.setOther (rowIs_ne s.mov (s.tab.rows r hr) (by decide)) _,
    ⟨s.tab.top.setOther (rowIs_ne s.tab.top (s.tab.rows r hr) (by decide)) _, fun i hi => ?_, s.tab.inj⟩, fun hh => (s.hel hh).setOther (rowIs_ne (s.hel hh) (s.tab.rows r hr) (by decide)) _, s.mbw, s.gw, s.hw⟩
  by_cases e : i = r
  · subst e
    refine ((s.tab.rows i hi).set p _).congr (fun q _ => ?_)
    by_cases eq : q = p
    · subst eq; simp
    · simp [eq]
  · have hne : G i ≠ G r := by
      rcases Nat.lt_or_ge i r with h1 | h1
      · have := s.tab.inj i r h1 hr; omega
      · have := s.tab.inj r i (by omega) hi; omega
    exact ((s.tab.rows i hi).setOther hne _).congr (fun q _ => by simp [e])
end

/-- From the renewed times to the last part's state: THERE WAS A TABLE. -/
theorem sD_had {Sw : Nat → Prop} {w wx : World} {b mb0 mb tb hb : Nat} {am : Option Addr} {hasH : Bool} {pp h : Int} {vd : Value} {P nt : Nat} {G : Nat → Nat} {Mv : Nat → Int} {T : Nat → Nat → Int} {H : Nat → Bool} {f0 : Nat → Value}
    (s : StB w wx b mb0 mb am pp h vd (.slice (some ⟨tb, 0, none⟩) nt nt) P Mv) (hbl : w.rowIs b 56 9 f0) (hmw : am.isSome = true → (∃ f, w.rowIs mb0 2 P f) ∧ Sw mb0) (hwb : Sw b)
    (ht : Tab w tb nt P G T) (hg : ∀ r, r < nt → Sw (G r)) (hh : hasH = true → w.rowIs hb 4 P (fun p => .bool (H p)) ∧ Sw hb) : SD Sw w wx b mb tb hb hasH pp h vd nt P G Mv (tOld false T) H := by
  have nsb : ∀ {k : Nat} {t : TypeId} {n : Nat} {f : Nat → Value}, w.rowIs k t n f → t ≠ 56 → t ≠ 2 → ¬ SB b am mb0 k := by
    intro k t n f hk h1 h2 hs
    rcases hs with rfl | ⟨ha, rfl⟩
    · exact rowIs_ne hk hbl h1 rfl
    · obtain ⟨⟨f', hf⟩, _⟩ := hmw ha
      exact rowIs_ne hk hf h2 rfl
  refine ⟨s.kept.mono (fun k _ hs => ?_), s.bld, s.mov, ht.of s.kept (nsb ht.top (by decide) (by decide)) (fun r hr => nsb (ht.rows r hr) (by decide) (by decide)), fun hH => s.kept.row (hh hH).1 (nsb (hh hH).1 (by decide) (by decide)), ?_, fun r hr => Or.inl (hg r hr), fun hH => (hh hH).2⟩
  · rcases hs with rfl | ⟨ha, rfl⟩
    · exact hwb
    · exact (hmw ha).2
  · rcases s.mbw with ⟨ha, rfl⟩ | h1
    · exact Or.inl (hmw ha).2
    · exact Or.inr h1

/-- .. THERE WAS NONE: the new one is made. -/
theorem sD_made {Sw : Nat → Prop} {w w1 wx : World} {b mb0 mb hb : Nat} {am : Option Addr} {hasH : Bool} {pp h : Int} {vd vt : Value} {P R : Nat} {Mv : Nat → Int} {T : Nat → Nat → Int} {H : Nat → Bool} {f0 : Nat → Value}
    (s : StB w w1 b mb0 mb am pp h vd vt P Mv) (c : SC w1 wx b mb pp h vd R R P Mv) (hbl : w.rowIs b 56 9 f0) (hmw : am.isSome = true → (∃ f, w.rowIs mb0 2 P f) ∧ Sw mb0) (hwb : Sw b)
    (hh : hasH = true → w.rowIs hb 4 P (fun p => .bool (H p)) ∧ Sw hb) : SD Sw w wx b mb w1.heap.size hb hasH pp h vd R P (fun r => w1.heap.size + 1 + r) Mv (tOld true T) H := by
  have nsb : ∀ {k : Nat} {t : TypeId} {n : Nat} {f : Nat → Value}, w.rowIs k t n f → t ≠ 56 → t ≠ 2 → ¬ SB b am mb0 k := by
    intro k t n f hk h1 h2 hs
    rcases hs with rfl | ⟨ha, rfl⟩
    · exact rowIs_ne hk hbl h1 rfl
    · obtain ⟨⟨f', hf⟩, _⟩ := hmw ha
      exact rowIs_ne hk hf h2 rfl
  have hsz := s.kept.size
  refine ⟨(s.kept.mono (fun k _ hs => ?_)).trans c.kept (fun k _ e => by rw [e]; exact hwb), c.bld, c.mov,
    ⟨c.top.congr (fun j hj => by rw [if_pos hj]), fun r hr => (c.done r hr).congr (fun _ _ => by simp [tOld]), fun i j hij _ => by omega⟩,
    fun hH => c.kept.row (s.kept.row (hh hH).1 (nsb (hh hH).1 (by decide) (by decide))) (fun e => rowIs_ne (hh hH).1 hbl (by decide) e), ?_, fun r hr => Or.inr (by show w.heap.size ≤ w1.heap.size + 1 + r; omega), fun hH => (hh hH).2⟩
  · rcases hs with rfl | ⟨ha, rfl⟩
    · exact hwb
    · exact (hmw ha).2
  · rcases s.mbw with ⟨ha, rfl⟩ | h1
    · exact Or.inl (hmw ha).2
    · exact Or.inr h1

/-! ### the last part's loops: at slot (r, p) -/
def mvAt (c : Nat → Nat → Bool) (L : Nat → Nat) (now : Int) (B : Nat → Int) (r p q : Nat) : Int := if flp c L r p q then now else B q
def helAt (c : Nat → Nat → Bool) (L : Nat → Nat) (H : Nat → Bool) (r p q : Nat) : Bool := H q && !flp c L r p q
def tabAt (D T : Nat → Nat → Int) (L : Nat → Nat) (r p i q : Nat) : Int := if (i < r ∧ q < L i) ∨ (i = r ∧ q < p) then D i q else T i q

theorem tabAt_here (D T : Nat → Nat → Int) (L : Nat → Nat) (r p : Nat) : tabAt D T L r p r p = T r p := by
  rw [tabAt, if_neg (by omega)]

theorem tabAt_step (D T : Nat → Nat → Int) (L : Nat → Nat) (r p i q : Nat) : (if i = r ∧ q = p then D r p else tabAt D T L r p i q) = tabAt D T L r (p + 1) i q := by
  by_cases e : i = r ∧ q = p
  · obtain ⟨rfl, rfl⟩ := e
    rw [if_pos ⟨rfl, rfl⟩, tabAt, if_pos (Or.inr ⟨rfl, by omega⟩)]
  · rw [if_neg e]
    simp only [tabAt]
    by_cases h1 : (i < r ∧ q < L i) ∨ (i = r ∧ q < p)
    · rw [if_pos h1, if_pos (by omega)]
    · rw [if_neg h1, if_neg (by omega)]

theorem tabAt_end (D T : Nat → Nat → Int) (L : Nat → Nat) (r i q : Nat) : tabAt D T L r (L r) i q = tabAt D T L (r + 1) 0 i q := by
  simp only [tabAt]
  by_cases h1 : (i < r ∧ q < L i) ∨ (i = r ∧ q < L r)
  · rw [if_pos h1, if_pos]
    rcases h1 with h1 | ⟨rfl, h1⟩
    · exact Or.inl ⟨by omega, h1.2⟩
    · exact Or.inl ⟨by omega, h1⟩
  · rw [if_neg h1, if_neg]
    rintro (⟨h2, h3⟩ | ⟨h2, h3⟩)
    · by_cases e : i = r
      · subst e; exact h1 (Or.inr ⟨rfl, h3⟩)
      · exact h1 (Or.inl ⟨by omega, h3⟩)
    · omega

section
variable {Sw : Nat → Prop} {w wx : World} {b mb tb hb : Nat} {hasH : Bool} {pp h now : Int} {vd : Value} {RT P : Nat} {G : Nat → Nat} {B : Nat → Int} {D T : Nat → Nat → Int} {H : Nat → Bool} {c : Nat → Nat → Bool} {L : Nat → Nat} {r p : Nat}

/-- THE LAST PART AT SLOT (r, p). -/
def At (Sw : Nat → Prop) (w wx : World) (b mb tb hb : Nat) (hasH : Bool) (pp h now : Int) (vd : Value) (RT P : Nat) (G : Nat → Nat) (B : Nat → Int) (D T : Nat → Nat → Int) (H : Nat → Bool) (c : Nat → Nat → Bool) (L : Nat → Nat) (r p : Nat) : Prop :=
  SD Sw w wx b mb tb hb hasH pp h vd RT P G (mvAt c L now B r p) (tabAt D T L r p) (helAt c L H r p)

theorem at_start (s : SD Sw w wx b mb tb hb hasH pp h vd RT P G B T H) : At Sw w wx b mb tb hb hasH pp h now vd RT P G B D T H c L 0 0 :=
  s.congr (fun q _ => by simp [mvAt, flp, fl]) (fun i _ q _ => by rw [tabAt, if_neg (by omega)]) (fun q _ => by simp [helAt, flp, fl])

theorem at_row (s : At Sw w wx b mb tb hb hasH pp h now vd RT P G B D T H c L r (L r)) : At Sw w wx b mb tb hb hasH pp h now vd RT P G B D T H c L (r + 1) 0 :=
  SD.congr s (fun q _ => by rw [mvAt, mvAt, flp_end, flp_zero]) (fun i _ q _ => tabAt_end D T L r i q) (fun q _ => by rw [helAt, helAt, flp_end, flp_zero])

/-- The slot is written and flags nothing. -/
theorem at_plain (s : At Sw w wx b mb tb hb hasH pp h now vd RT P G B D T H c L r p) (hr : r < RT) (hc : c r p = false) {x : Int} (hx : x = D r p) :
    At Sw w (wx.setCell ⟨G r, p, none⟩ (.int .u16 x)) b mb tb hb hasH pp h now vd RT P G B D T H c L r (p + 1) :=
  (SD.setTab s r hr p x).congr (fun q _ => by rw [mvAt, mvAt, flp_no hc]) (fun i _ q _ => by rw [hx]; exact tabAt_step D T L r p i q) (fun q _ => by rw [helAt, helAt, flp_no hc])

/-- The slot is written and flags its partition; nothing is held. -/
theorem at_flag (s : At Sw w wx b mb tb hb false pp h now vd RT P G B D T H c L r p) (hr : r < RT) (hc : c r p = true) {x : Int} (hx : x = D r p) :
    At Sw w ((wx.setCell ⟨mb, p, none⟩ (.int .i64 now)).setCell ⟨G r, p, none⟩ (.int .u16 x)) b mb tb hb false pp h now vd RT P G B D T H c L r (p + 1) := by
  have s2 := (SD.setMov s p now).setTab r hr p x
  exact ⟨s2.kept, s2.bld, s2.mov.congr (fun q _ => by rw [mvAt, mvAt, flp_yes hc]; by_cases e : q = p <;> simp [e]),
    ⟨s2.tab.top, fun i hi => (s2.tab.rows i hi).congr (fun q _ => by rw [hx, tabAt_step D T L r p i q]), s2.tab.inj⟩, fun hh => by simp at hh, s2.mbw, s2.gw, fun hh => by simp at hh⟩

/-- .. and its held flag is cleared. -/
theorem at_held (s : At Sw w wx b mb tb hb true pp h now vd RT P G B D T H c L r p) (hr : r < RT) (hc : c r p = true) {x : Int} (hx : x = D r p) :
    At Sw w (((wx.setCell ⟨mb, p, none⟩ (.int .i64 now)).setCell ⟨hb, p, none⟩ (.bool false)).setCell ⟨G r, p, none⟩ (.int .u16 x)) b mb tb hb true pp h now vd RT P G B D T H c L r (p + 1) := by
  have s2 := ((SD.setMov s p now).setHel rfl p false).setTab r hr p x
  exact s2.congr (fun q _ => by rw [mvAt, mvAt, flp_yes hc]; by_cases e : q = p <;> simp [e]) (fun i _ q _ => by rw [hx]; exact tabAt_step D T L r p i q)
    (fun q _ => by rw [helAt, helAt, flp_yes hc]; by_cases e : q = p <;> simp [e])
end
end Go.Proofs.Qxb6617160a
