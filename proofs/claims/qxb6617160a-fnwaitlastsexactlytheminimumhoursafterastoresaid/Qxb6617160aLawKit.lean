/-
  SEAT b6617160a: THE CALLEES' CONTRACTS IN ONE FORM FOR nil AND ANY OTHER SLICE, as the laws use them.
-/
import Derived.Test.Qxb6617160aStore
import Derived.Test.Qxb6617160aRowsCl
import Derived.Deep.QuietTactic
import Derived.BigQuiet
namespace Go.Proofs.Qxb6617160a
open Go.RowKit Go.Deep
set_option linter.unusedVariables false

theorem RowV.of {k : IntKind} {w w' : World} {a : Option Addr} {n xb xo : Nat} {Z : Nat → Int} (h : RowV k w a n xb xo Z) (q : Kept (fun _ => False) w w') : RowV k w' a n xb xo Z :=
  ⟨h.ha, fun i hi => q.cellv (h.cel i hi) (fun f => f)⟩
theorem MatV.of {k : IntKind} {w w' : World} {a : Option Addr} {R gb go : Nat} {A : Nat → Option Addr} {L C RB RO : Nat → Nat} {Z : Nat → Nat → Int} (h : MatV k w a R gb go A L C RB RO Z) (q : Kept (fun _ => False) w w') :
    MatV k w' a R gb go A L C RB RO Z :=
  ⟨h.ha, fun r hr => q.cellv (h.row r hr) (fun f => f), fun r hr c hc => ⟨(h.cel r hr c hc).1, q.cellv (h.cel r hr c hc).2 (fun f => f)⟩⟩

/-- A ROW CLONED: nil, or a new block x. -/
structure RowN (t : TypeId) (ai a' : Option Addr) (x : Nat) (w w' : World) (n : Nat) (f : Nat → Value) : Prop where
  kept : Kept (fun _ => False) w w'
  nil : a'.isNone = ai.isNone
  got : (a' = none ∧ n = 0) ∨ (a' = some ⟨x, 0, none⟩ ∧ w.heap.size ≤ x ∧ w'.rowIs x t n f)

def NewRow (t : TypeId) (ai : Option Addr) (w : World) (n : Nat) (f : Nat → Value) (e : Ending) (w' : World) : Prop :=
  ∃ a' x, e = .returned (.slice a' n n) ∧ RowN t ai a' x w w' n f

theorem RowN.rowV {t : TypeId} {ai a' : Option Addr} {x : Nat} {w w' : World} {n : Nat} {k : IntKind} {Z : Nat → Int} (h : RowN t ai a' x w w' n (fun i => .int k (Z i))) : RowV k w' a' n x 0 Z := by
  rcases h.got with ⟨e1, e2⟩ | ⟨e1, _, e2⟩
  · exact ⟨fun hh => by omega, fun i hi => by omega⟩
  · exact ⟨fun _ => e1, fun i hi => by rw [Nat.zero_add]; exact e2.cell hi⟩

theorem newRow_nil {t : TypeId} {w : World} {f : Nat → Value} : NewRow t none w 0 f (.returned (.slice none 0 0)) w := ⟨none, 0, rfl, Kept.refl _ _, rfl, Or.inl ⟨rfl, rfl⟩⟩
theorem newRow_some {t : TypeId} {x : Addr} {w w' : World} {n : Nat} {f : Nat → Value} (h : Cloned t w w' n f) : NewRow t (some x) w n f (.returned (.slice (some ⟨w.heap.size, 0, none⟩) n n)) w' :=
  ⟨_, _, rfl, h.kept, rfl, Or.inr ⟨rfl, Nat.le_refl _, h.row⟩⟩

theorem cloneInts_u (ai : Option Addr) (ni ci ib io : Nat) (I : Nat → Int) (w : World) (hn : ni ≤ 1048576) (hnil : ai = none → ni = 0 ∧ ci = 0) (hI : RowV .i64 w ai ni ib io I) :
    Calls Try.prog 10 #[.slice ai ni ci] w fun e w' => NewRow 3 ai w ni (fun i => .int .i64 (I i)) e w' := by
  cases ai with
  | none =>
    obtain ⟨rfl, rfl⟩ := hnil rfl
    refine (cloneInts_nil w).mono ?_
    rintro e w' ⟨rfl, rfl⟩
    exact newRow_nil
  | some x =>
    refine (cloneInts_any x ib io ni ci I w (fun h => by simpa using hI.ha h) hn hI.cel).mono ?_
    rintro e w' ⟨rfl, h⟩
    exact newRow_some h

theorem cloneI64_u (ai : Option Addr) (ni ci ib io : Nat) (I : Nat → Int) (w : World) (hn : ni ≤ 1048576) (hnil : ai = none → ni = 0 ∧ ci = 0) (hI : RowV .i64 w ai ni ib io I) :
    Calls Try.prog 12 #[.slice ai ni ci] w fun e w' => NewRow 2 ai w ni (fun i => .int .i64 (I i)) e w' := by
  cases ai with
  | none =>
    obtain ⟨rfl, rfl⟩ := hnil rfl
    refine (cloneI64_nil w).mono ?_
    rintro e w' ⟨rfl, rfl⟩
    exact newRow_nil
  | some x =>
    refine (cloneI64_any x ib io ni ci I w (fun h => by simpa using hI.ha h) hn hI.cel).mono ?_
    rintro e w' ⟨rfl, h⟩
    exact newRow_some h

/-- THE TABLE CLONED. -/
structure TabN (at' a' : Option Addr) (tb : Nat) (G : Nat → Nat) (w w' : World) (nt P : Nat) (T : Nat → Nat → Int) : Prop where
  kept : Kept (fun _ => False) w w'
  nil : a'.isNone = at'.isNone
  got : (a' = none ∧ nt = 0) ∨ (a' = some ⟨tb, 0, none⟩ ∧ w.heap.size ≤ tb ∧ (∀ r, r < nt → w.heap.size ≤ G r) ∧ Tab w' tb nt P G T)

def NewTab (at' : Option Addr) (w : World) (nt P : Nat) (T : Nat → Nat → Int) (e : Ending) (w' : World) : Prop :=
  ∃ a' tb G, e = .returned (.slice a' nt nt) ∧ TabN at' a' tb G w w' nt P T

theorem tab_matV {w : World} {a' : Option Addr} {tb nt P : Nat} {G : Nat → Nat} {T : Nat → Nat → Int} (h : (a' = none ∧ nt = 0) ∨ (a' = some ⟨tb, 0, none⟩ ∧ Tab w tb nt P G T)) :
    MatV .u16 w a' nt tb 0 (fun r => some ⟨G r, 0, none⟩) (fun _ => P) (fun _ => P) G (fun _ => 0) T := by
  rcases h with ⟨e1, e2⟩ | ⟨e1, e2⟩
  · exact ⟨fun hh => by omega, fun r hr => by omega, fun r hr => by omega⟩
  · exact ⟨fun _ => e1, fun r hr => by rw [Nat.zero_add]; exact e2.top.cell hr, fun r hr c hc => ⟨rfl, by rw [Nat.zero_add]; exact (e2.rows r hr).cell hc⟩⟩

theorem cloneRows16_u (at' : Option Addr) (nt ct tb tg P : Nat) (tA : Nat → Option Addr) (tL tC tRB tRO : Nat → Nat) (T : Nat → Nat → Int) (w : World) (hn : nt ≤ 1048576) (hP : P ≤ 65536) (hP1 : 1 ≤ P) (hnil : at' = none → nt = 0 ∧ ct = 0)
    (hlen : at' ≠ none → ∀ r, r < nt → tL r = P) (hT : MatV .u16 w at' nt tb tg tA tL tC tRB tRO T) :
    Calls Try.prog 11 #[.slice at' nt ct] w fun e w' => NewTab at' w nt P T e w' := by
  cases at' with
  | none =>
    obtain ⟨rfl, rfl⟩ := hnil rfl
    refine (cloneRows16_nil w).mono ?_
    rintro e w' ⟨rfl, rfl⟩
    exact ⟨none, 0, fun _ => 0, rfl, Kept.refl _ _, rfl, Or.inl ⟨rfl, rfl⟩⟩
  | some x =>
    have hl := hlen (by simp)
    refine (cloneRows16_any x tb tg nt ct tA tL tC tRB tRO T w (fun h => by simpa using hT.ha h) hn (fun r hr => by rw [hl r hr]; omega) hT.row hT.cel).mono ?_
    rintro e w' ⟨rfl, h⟩
    have hs : ∀ r, r < nt → (tA r).isSome = true := fun r hr => by rw [(hT.cel r hr 0 (by rw [hl r hr]; omega)).1]; rfl
    refine ⟨_, w.heap.size, fun r => w.heap.size + 1 + cnt tA r, rfl, h.kept, rfl, Or.inr ⟨rfl, Nat.le_refl _, fun r _ => by omega, ?_, fun r hr => ?_, fun i j hij hj => ?_⟩⟩
    · exact h.top.congr (fun r hr => by rw [if_pos hr, topv, if_pos (hs r hr), hl r hr])
    · have := h.done r hr (hs r hr)
      rw [hl r hr] at this
      exact this
    · have := cnt_lt tA hij (hs i (by omega))
      show w.heap.size + 1 + cnt tA i < w.heap.size + 1 + cnt tA j
      omega

/-- THE SLOTS CLONED. -/
structure MatN (a' : Option Addr) (sb : Nat) (A : Nat → Option Addr) (C RB : Nat → Nat) (w w' : World) (nS : Nat) (L : Nat → Nat) (S : Nat → Nat → Int) : Prop where
  kept : Kept (fun _ => False) w w'
  mat : MatV .i32 w' a' nS sb 0 A L C RB (fun _ => 0) S
  top : 0 < nS → w.heap.size ≤ sb ∧ ∃ f, w'.rowIs sb 43 nS f
  rows : ∀ r, r < nS → 0 < L r → w.heap.size ≤ RB r ∧ ∃ f, w'.rowIs (RB r) 21 (L r) f

def NewMat (w : World) (nS : Nat) (L : Nat → Nat) (S : Nat → Nat → Int) (e : Ending) (w' : World) : Prop :=
  ∃ a' sb A C RB, e = .returned (.slice a' nS nS) ∧ MatN a' sb A C RB w w' nS L S

theorem cloneRows32_u (aS : Option Addr) (nS cS sb sg P : Nat) (sA : Nat → Option Addr) (sL sC sRB sRO : Nat → Nat) (S : Nat → Nat → Int) (w : World) (hn : nS ≤ 1048576) (hP : P ≤ 65536) (hnil : aS = none → nS = 0 ∧ cS = 0)
    (hlen : ∀ r, r < nS → sL r ≤ P) (hS : MatV .i32 w aS nS sb sg sA sL sC sRB sRO S) :
    Calls Try.prog 13 #[.slice aS nS cS] w fun e w' => NewMat w nS sL S e w' := by
  cases aS with
  | none =>
    obtain ⟨rfl, rfl⟩ := hnil rfl
    refine (cloneRows32_nil w).mono ?_
    rintro e w' ⟨rfl, rfl⟩
    exact ⟨none, 0, fun _ => none, fun _ => 0, fun _ => 0, rfl, Kept.refl _ _, ⟨fun h => by omega, fun r hr => by omega, fun r hr => by omega⟩, fun h => by omega, fun r hr => by omega⟩
  | some x =>
    refine (cloneRows32_any x sb sg nS cS sA sL sC sRB sRO S w (fun h => by simpa using hS.ha h) hn (fun r hr => by have := hlen r hr; omega) hS.row hS.cel).mono ?_
    rintro e w' ⟨rfl, h⟩
    have hs : ∀ r, r < nS → 0 < sL r → (sA r).isSome = true := fun r hr h0 => by rw [(hS.cel r hr 0 h0).1]; rfl
    refine ⟨_, w.heap.size, fun r => if (sA r).isSome then some ⟨w.heap.size + 1 + cnt sA r, 0, none⟩ else none, fun r => if (sA r).isSome then sL r else 0, fun r => w.heap.size + 1 + cnt sA r, rfl, h.kept, ⟨fun _ => rfl, fun r hr => ?_, fun r hr c hc => ?_⟩,
      fun _ => ⟨Nat.le_refl _, _, h.top⟩, fun r hr h0 => ⟨by omega, _, h.done r hr (hs r hr h0)⟩⟩
    · rw [Nat.zero_add, h.top.cell hr, if_pos hr, topv]
      by_cases e : (sA r).isSome = true
      · simp [e]
      · have e0 : sL r = 0 := by
          rcases Nat.eq_zero_or_pos (sL r) with h1 | h1
          · exact h1
          · exact absurd (hs r hr h1) e
        simp [e, e0]
    · have hs1 := hs r hr (by omega)
      exact ⟨by simp [hs1], by rw [Nat.zero_add]; exact (h.done r hr hs1).cell hc⟩


/-- The old blocks that store writes. -/
def Sws (b mb hb nt : Nat) (G : Nat → Nat) (a2 a3 ah : Option Addr) : Nat → Prop := fun k =>
  k = b ∨ (a3.isSome = true ∧ k = mb) ∨ (ah.isSome = true ∧ k = hb) ∨ (a2.isSome = true ∧ ∃ r, r < nt ∧ k = G r)

theorem not_sws {b mb hb nt : Nat} {G : Nat → Nat} {a2 a3 ah : Option Addr} {k : Nat} (h1 : k ≠ b) (h2 : a3.isSome = true → k ≠ mb) (h3 : ah.isSome = true → k ≠ hb) (h4 : a2.isSome = true → ∀ r, r < nt → k ≠ G r) : ¬ Sws b mb hb nt G a2 a3 ah k := by
  rintro (e | ⟨e1, e2⟩ | ⟨e1, e2⟩ | ⟨e1, r, hr, e2⟩)
  · exact h1 e
  · exact h2 e1 e2
  · exact h3 e1 e2
  · exact h4 e1 r hr e2

/-- The time of partition q behind a store at now. -/
def mvF (fl : Nat → Bool) (now : Int) (B : Nat → Int) (q : Nat) : Int := if fl q then now else B q

/-- WHAT store LEAVES, as the laws use it. -/
structure Done (Sw : Nat → Prop) (W w' : World) (b mb tb hb RT P : Nat) (hasH : Bool) (pp h : Int) (vd : Value) (Mv : Nat → Int) (Hv : Nat → Bool) : Prop where
  kept : Kept Sw W w'
  bld : Bld w' b pp h vd (.slice (some ⟨tb, 0, none⟩) RT RT) (.slice (some ⟨mb, 0, none⟩) P P)
  mov : w'.rowIs mb 2 P (fun p => .int .i64 (Mv p))
  hel : hasH = true → w'.rowIs hb 4 P (fun p => .bool (Hv p))

def StoreU (Sw : Nat → Prop) (W : World) (b hb P : Nat) (hasH : Bool) (pp h : Int) (vd : Value) (count : Nat) (Mv : Nat → Int) (Hv : Nat → Bool) (e : Ending) (w' : World) : Prop :=
  ∃ mb tb RT, e = .returned (.int .i64 count) ∧ Done Sw W w' b mb tb hb RT P hasH pp h vd Mv Hv

theorem store_u (W5 W6 W : World) (b mb tb hb db : Nat) (pp h now : Int) (P : Nat) (dao a2 a3 ah aS : Option Addr) (ni nm nt nS nH : Nat) (G : Nat → Nat) (I M : Nat → Int) (T : Nat → Nat → Int) (H : Nat → Bool)
    (sb : Nat) (sA : Nat → Option Addr) (sL sC sRB : Nat → Nat) (S : Nat → Nat → Int)
    (h0 : 0 ≤ pp) (h1 : pp ≤ 16) (hP : wrap64 (2 ^ pp.toNat) = (P : Int)) (hP2 : P ≤ 65536) (hni : ni ≤ 131072) (hnt : nt ≤ 43690) (hnS : nS ≤ 43690)
    (hB : Built W5 W6 b pp h dao ni (.slice a2 nt nt) (.slice a3 nm nm) I db) (hK : Kept (fun _ => False) W6 W)
    (hm : (a3 = none ∧ nm = 0) ∨ (a3 = some ⟨mb, 0, none⟩ ∧ nm = P ∧ W5.rowIs mb 2 P (fun p => .int .i64 (M p))))
    (ht : (a2 = none ∧ nt = 0) ∨ (a2 = some ⟨tb, 0, none⟩ ∧ nS ≤ nt ∧ Tab W5 tb nt P G T))
    (hh : ah = none ∨ (ah = some ⟨hb, 0, none⟩ ∧ nH = P ∧ W6.heap.size ≤ hb ∧ W.rowIs hb 4 P (fun p => .bool (H p))))
    (hS : MatV .i32 W5 aS nS sb 0 sA sL sC sRB (fun _ => 0) S) (hSt : 0 < nS → ∃ f, W5.rowIs sb 43 nS f) (hSr : ∀ r, r < nS → 0 < sL r → ∃ f, W5.rowIs (sRB r) 21 (sL r) f)
    (hlen : ∀ r, r < nS → sL r ≤ P) (hidx : ∀ r, r < nS → ∀ p, p < sL r → 0 ≤ S r p ∧ S r p < ni) :
    Calls Try.prog 18 #[.pointer (some ⟨b, 0, none⟩), .slice aS nS nS, .int .i64 now, .slice ah nH nH] W fun e w' =>
      StoreU (Sws b mb hb nt G a2 a3 ah) W b hb P ah.isSome pp h (.slice dao ni ni) (cAll (cn a2.isNone T (idOf I S)) sL nS)
        (mvF (fl (ch a2.isNone T (idOf I S)) sL nS) now (fun q => lm (mvOf nm M q) now h)) (fun q => H q && !fl (ch a2.isNone T (idOf I S)) sL nS q) e w' := by
  have k5 : Kept (fun _ => False) W5 W := hB.kept.trans hK (fun _ _ f => f)
  have z5 := hB.kept.size
  have hb6 : b < W6.heap.size := hB.row.lt
  have hbl : Bld W b pp h (.slice dao ni ni) (.slice a2 nt nt) (.slice a3 nm nm) := ⟨hK.row hB.row (fun f => f)⟩
  -- which blocks are none of those that are written
  have no : ∀ k, k < W5.heap.size → (a3.isSome = true → k ≠ mb) → (a2.isSome = true → ∀ r, r < nt → k ≠ G r) → ¬ Sws b mb hb nt G a2 a3 ah k := fun k hk q1 q2 =>
    not_sws (by have := hB.ge; omega) q1 (fun ha => by
      rcases hh with rfl | ⟨rfl, _, hz, _⟩
      · simp at ha
      · omega) q2
  have mbT : a3.isSome = true → W5.rowIs mb 2 P (fun p => .int .i64 (M p)) := fun ha => by
    rcases hm with ⟨rfl, _⟩ | ⟨rfl, _, hr⟩
    · simp at ha
    · exact hr
  have gT : a2.isSome = true → ∀ r, r < nt → W5.rowIs (G r) 42 P (fun p => .int .u16 (T r p)) := fun ha => by
    rcases ht with ⟨rfl, _⟩ | ⟨rfl, _, hr⟩
    · simp at ha
    · exact hr.rows
  refine (store_any b mb tb hb db pp h now P dao a3 a2 ah aS ni nm nt nS nS nH G I M T H sb 0 sA sL sC sRB (fun _ => 0) S (Sws b mb hb nt G a2 a3 ah) W h0 h1 hP hP2 hni hnt hnS hbl (fun hn => (hB.dev hn).1) (fun i hi => hK.cellv (hB.ids i hi) (fun f => f)) ?_ ?_ ?_ (hS.of k5) hlen hidx (Or.inl rfl) ?_ ?_ ?_).mono ?_
  · rcases hm with hm | ⟨rfl, e2, e3⟩
    · exact Or.inl hm
    · exact Or.inr ⟨rfl, e2, k5.row e3 (fun f => f), Or.inr (Or.inl ⟨rfl, rfl⟩)⟩
  · rcases ht with ht | ⟨rfl, e2, e3⟩
    · exact Or.inl ht
    · exact Or.inr ⟨rfl, e2, e3.of k5 (fun f => f) (fun _ _ f => f), fun r hr => Or.inr (Or.inr (Or.inr ⟨rfl, r, hr, rfl⟩))⟩
  · rcases hh with hh | ⟨rfl, e2, e3, e4⟩
    · exact Or.inl hh
    · exact Or.inr ⟨rfl, e2, e4, Or.inr (Or.inr (Or.inl ⟨rfl, rfl⟩))⟩
  · intro hn
    obtain ⟨_, d1, d2⟩ := hB.dev hn
    refine not_sws (by omega) (fun ha => ?_) (fun ha => ?_) (fun ha r hr => ?_)
    · have := (mbT ha).lt; omega
    · rcases hh with rfl | ⟨rfl, _, hz, _⟩
      · simp at ha
      · omega
    · have := (gT ha r hr).lt; omega
  · intro hn
    obtain ⟨f, hf⟩ := hSt hn
    exact no sb hf.lt (fun ha => rowIs_ne hf (mbT ha) (by decide)) (fun ha r hr => rowIs_ne hf (gT ha r hr) (by decide))
  · intro r hr hl
    obtain ⟨f, hf⟩ := hSr r hr hl
    exact no _ hf.lt (fun ha => rowIs_ne hf (mbT ha) (by decide)) (fun ha r' hr' => rowIs_ne hf (gT ha r' hr') (by decide))
  · rintro e w' ⟨mb', tb', RT, G', rfl, hA⟩
    exact ⟨mb', tb', RT, rfl, SD.kept hA, SD.bld hA, (SD.mov hA).congr (fun q hq => by rw [mvAt, flp_zero, mvF, lmTo, if_pos hq]), fun ha => (SD.hel hA ha).congr (fun q _ => by rw [helAt, flp_zero])⟩

theorem law_below {Sw : Nat → Prop} {w W w' w'' : World} (k1 : Kept (fun _ => False) w W) (k2 : Kept Sw W w') (k3 : Kept (fun _ => False) w' w'') (hS : ∀ k, k < w.heap.size → ¬ Sw k) : Below w.heap.size w w'' :=
  ((((k1.mono (T := Sw) (fun _ _ f => f.elim)).trans k2 (fun _ _ t => t)).trans k3 (fun _ _ f => f.elim))).below (Nat.le_refl _) hS

theorem Kept.drewN {S : Nat → Prop} {w w' : World} (h : Kept S w w') (n : Nat) : Kept S w (w'.drewN n) := ⟨h.os, h.tape, h.output, h.size, h.block⟩

theorem rowV_of {k : IntKind} {w : World} {x t n : Nat} {Z : Nat → Int} (h : w.rowIs x t n (fun p => .int k (Z p))) : RowV k w (some ⟨x, 0, none⟩) n x 0 Z :=
  ⟨fun _ => rfl, fun i hi => by rw [Nat.zero_add]; exact h.cell hi⟩
end Go.Proofs.Qxb6617160a
