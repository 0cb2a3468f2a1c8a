/-
  SEAT b6617160a: THE WALK OF FnHeldAndWaitingAcrossAStore.
-/
import Derived.Test.Qxb6617160aLawKit
import Derived.Test.Qxb6617160aTimes
namespace Go.Proofs.Qxb6617160a
open Go.RowKit Go.Deep
set_option linter.unusedVariables false
attribute [local go_sem] eq24 eq26 ne23

set_option maxHeartbeats 1600000 in
set_option maxRecDepth 1000000 in
theorem held_walk (pp h now : Int) (ai at' am aS : Option Addr) (ni ci nt ct nm cm nS cS : Nat) (ib io tb tg mb mo sb sg : Nat) (tA sA : Nat → Option Addr) (tL tC tRB tRO sL sC sRB sRO : Nat → Nat) (I M : Nat → Int) (T S : Nat → Nat → Int) (w : World)
    (hh : I64 h) (hn : I64 now)
    (ni0 : ai = none → ni = 0 ∧ ci = 0) (nt0 : at' = none → nt = 0 ∧ ct = 0) (nm0 : am = none → nm = 0 ∧ cm = 0) (nS0 : aS = none → nS = 0 ∧ cS = 0)
    (hI : RowV .i64 w ai ni ib io I) (hT : MatV .u16 w at' nt tb tg tA tL tC tRB tRO T) (hM : RowV .i64 w am nm mb mo M) (hS : MatV .i32 w aS nS sb sg sA sL sC sRB sRO S)
    (bS : ∀ r, r < nS → ∀ p, p < sL r → -2147483648 ≤ S r p ∧ S r p ≤ 2147483647) :
    Calls Try.prog 4 #[.int .i64 pp, .int .i64 h, .slice ai ni ci, .slice at' nt ct, .slice am nm cm, .slice aS nS cS, .int .i64 now] w fun e w' => e = .returned (.bool true) ∧ Below w.heap.size w w' := by
  have HbS : Hid (∀ r, r < nS → ∀ p, p < sL r → -2147483648 ≤ S r p ∧ S r p ≤ 2147483647) := bS
  have Hnil : Hid ((ai = none → ni = 0 ∧ ci = 0) ∧ (at' = none → nt = 0 ∧ ct = 0) ∧ (am = none → nm = 0 ∧ cm = 0) ∧ (aS = none → nS = 0 ∧ cS = 0)) := ⟨ni0, nt0, nm0, nS0⟩
  have Hh : Hid (I64 h ∧ I64 now) := ⟨hh, hn⟩
  clear bS ni0 nt0 nm0 nS0 hh hn
  go_enter Try.func4, Try.ntmps4
  go_wp2_with fail
  refine (bytes21 _ _ _ _ _ _ _ _ _ _ _ _ _ _ _ _ _ _ _ _ _ _ _ _ _ _ _ _ _ _ _ _ hT hS).mono ?_
  rintro e w' ⟨⟨b1, rfl, -⟩, hw⟩
  obtain rfl := hw.symm
  cases b1
  · go_wp2
    go_ret
    exact ⟨rfl, Below.refl _ _⟩
  go_wp2_with fail
  refine (tooBig_any _ _ _ _ _ _ _ _ _ _ _ _ _ _ _ _ _ _ _ _ _ _ _ _ _ _ _ _ _ _ hT hS).mono ?_
  rintro e w' ⟨⟨b1, rfl, hfit⟩, hw⟩
  obtain rfl := hw.symm
  cases b1
  case true =>
    go_wp2
    go_ret
    exact ⟨rfl, Below.refl _ _⟩
  have F := hfit rfl
  clear hfit
  obtain ⟨p1, p2⟩ := pow_bd pp F.p0 F.p1
  obtain ⟨P, hP⟩ : ∃ P : Nat, wrap64 (2 ^ pp.toNat) = (P : Int) := ⟨(wrap64 (2 ^ pp.toNat)).toNat, by omega⟩
  rw [hP] at p1 p2
  have hP1 : 1 ≤ P := by omega
  have hP2 : P ≤ 65536 := by omega
  clear p1 p2
  have h0 := F.p0
  have h1 := F.p1
  go_wp2_with fail
  rw [hP]
  refine (shapeOK_any P hP2 ai at' am aS ni ci nt ct nm cm nS cS tb tg sb sg tA sA tL tC tRB tRO sL sC sRB sRO T S w F.ids F.table F.moved F.slots HbS.out hT hS).mono ?_
  rintro e w' ⟨⟨b1, rfl, hsh⟩, hw⟩
  obtain rfl := hw.symm
  clear hw
  cases b1
  · go_wp2
    go_ret
    exact ⟨rfl, Below.refl _ _⟩
  have Sh := hsh rfl
  clear hsh
  go_upto_region 8 with fail
  go_cut [54] (fun s54 wx => s54 = .bool (at'.isSome && am.isNone) ∧ w = wx)
  case first =>
    by_cases c1 : at'.isSome = true
    · go_wp2
      go_meet
      exact ⟨by rw [c1]; rfl, rfl⟩
    · have c2 : at'.isSome = false := by simpa using c1
      go_wp2
      go_meet
      exact ⟨by rw [c2]; rfl, rfl⟩
  case rest =>
    obtain ⟨rfl, rfl⟩ := hcut
    by_cases c1 : (at'.isSome && am.isNone) = true
    · rw [c1]
      go_wp2
      go_ret
      exact ⟨rfl, Below.refl _ _⟩
    have c2 : (at'.isSome && am.isNone) = false := eq_false_of_ne_true c1
    rw [c2]
    have Hc : Hid ((at'.isSome && am.isNone) = false) := c2
    clear c1 c2
    have hP' : Hid (wrap64 (2 ^ pp.toNat) = (P : Int)) := hP
    clear hP
    go_wp2_with fail
    refine (cloneInts_u ai ni ci ib io I w (by have := F.ids; omega) Hnil.out.1 hI).mono ?_
    rintro e w1 ⟨a1, x1, rfl, N1⟩
    go_wp2_with fail
    refine (cloneRows16_u at' nt ct tb tg P tA tL tC tRB tRO T w1 (by have := F.table; omega) hP2 hP1 Hnil.out.2.1 Sh.tab (hT.of N1.kept)).mono ?_
    rintro e w2 ⟨a2, x2, G, rfl, N2⟩
    go_wp2_with fail
    refine (cloneI64_u am nm cm mb mo M w2 (by have := F.moved; omega) Hnil.out.2.2.1 ((hM.of N1.kept).of N2.kept)).mono ?_
    rintro e w3 ⟨a3, x3, rfl, N3⟩
    go_wp2_with fail
    refine (cloneRows32_u aS nS cS sb sg P sA sL sC sRB sRO S w3 (by have := F.slots; omega) hP2 Hnil.out.2.2.2 Sh.len (((hS.of N1.kept).of N2.kept).of N3.kept)).mono ?_
    rintro e w4 ⟨a4, x4, A4, C4, R4, rfl, N4⟩
    go_wp2_with fail
    have r1 : RowV .i64 w4 a1 ni x1 0 I := ((N1.rowV.of N2.kept).of N3.kept).of N4.kept
    have t4 : (a2 = none ∧ nt = 0) ∨ (a2 = some ⟨x2, 0, none⟩ ∧ Tab w4 x2 nt P G T) := by
      rcases N2.got with g | ⟨g1, _, _, g2⟩
      · exact Or.inl g
      · exact Or.inr ⟨g1, (g2.of N3.kept (fun f => f) (fun _ _ f => f)).of N4.kept (fun f => f) (fun _ _ f => f)⟩
    have nn2 : a2 ≠ none → at' ≠ none := fun q e => q (by have := N2.nil; rw [e] at this; simpa using this)
    have nn3 : a3 ≠ none → am ≠ none := fun q e => q (by have := N3.nil; rw [e] at this; simpa using this)
    have Sh2 : Shape P ni nt nm nS a2 a3 (fun _ => P) sL S := ⟨fun q => Sh.rows (nn2 q), fun _ _ _ => rfl, fun q => Sh.mov (nn3 q), Sh.len, Sh.idx⟩
    refine (expect_any P hP2 a1 a2 a3 a4 ni ni nt nt nm nS nS x1 0 x2 0 x4 0 (fun r => some ⟨G r, 0, none⟩) A4 (fun _ => P) (fun _ => P) G (fun _ => 0) sL C4 R4 (fun _ => 0) I T S w4 F.slots Sh2 F.ids F.table r1 (tab_matV t4) N4.mat).mono ?_
    rintro e w5 ⟨rfl, C5⟩
    go_wp2_with fail
    have k15 : Kept (fun _ => False) w w5 := (((N1.kept.trans N2.kept (fun _ _ f => f)).trans N3.kept (fun _ _ f => f)).trans N4.kept (fun _ _ f => f)).trans C5.kept (fun _ _ f => f)
    have e1 : a1 = none → ni = 0 ∧ ni = 0 := fun e => by
      rcases N1.got with ⟨_, g⟩ | ⟨g, _, _⟩
      · exact ⟨g, g⟩
      · rw [e] at g; cases g
    refine (newb_any pp h a1 a2 a3 ni ni nt nt nm nm x1 0 I w5 F.ids e1 (r1.of C5.kept)).mono ?_
    rintro e w6 ⟨b, dao, db, rfl, B⟩
    -- what store will want
    have m5 : (a3 = none ∧ nm = 0) ∨ (a3 = some ⟨x3, 0, none⟩ ∧ nm = P ∧ w5.rowIs x3 2 P (fun p => .int .i64 (M p))) := by
      rcases N3.got with g | ⟨g1, _, g2⟩
      · exact Or.inl g
      · have hq : nm = P := Sh2.mov (by rw [g1]; simp)
        have := C5.kept.row (N4.kept.row g2 (fun f => f)) (fun f => f)
        rw [hq] at this
        exact Or.inr ⟨g1, hq, this⟩
    have t5 : (a2 = none ∧ nt = 0) ∨ (a2 = some ⟨x2, 0, none⟩ ∧ nS ≤ nt ∧ Tab w5 x2 nt P G T) := by
      rcases t4 with g | ⟨g1, g2⟩
      · exact Or.inl g
      · exact Or.inr ⟨g1, Sh2.rows (by rw [g1]; simp), g2.of C5.kept (fun f => f) (fun _ _ f => f)⟩
    have s5 := N4.mat.of C5.kept
    have s5t : 0 < nS → ∃ f, w5.rowIs x4 43 nS f := fun q => by obtain ⟨_, f, hf⟩ := N4.top q; exact ⟨f, C5.kept.row hf (fun f => f)⟩
    have s5r : ∀ r, r < nS → 0 < sL r → ∃ f, w5.rowIs (R4 r) 21 (sL r) f := fun r hr q => by obtain ⟨_, f, hf⟩ := N4.rows r hr q; exact ⟨f, C5.kept.row hf (fun f => f)⟩
    have z1 := N1.kept.size
    have z2 := N2.kept.size
    have z3 := N3.kept.size
    have z4 := N4.kept.size
    have z5 := C5.kept.size
    have z6 := B.kept.size
    have zb := B.ge
    -- nothing that was there is among what is written
    have old : ∀ hb (ah : Option Addr), (ah.isSome = true → w.heap.size ≤ hb) → ∀ k, k < w.heap.size → ¬ Sws b x3 hb nt G a2 a3 ah k := fun hb ah q k hk => by
      refine not_sws (by omega) (fun ha => ?_) (fun ha => by have := q ha; omega) (fun ha r hr => ?_)
      · rcases N3.got with ⟨g, _⟩ | ⟨_, g, _⟩
        · rw [g] at ha; simp at ha
        · omega
      · rcases N2.got with ⟨g, _⟩ | ⟨_, _, g, _⟩
        · rw [g] at ha; simp at ha
        · have := g r hr; omega
    go_wp2_with fail
    by_cases hz : h = 0
    · subst hz
      refine (wait_zero b pp _ a2 a3 nt nt nm nm now w6 ⟨B.row⟩).mono ?_
      rintro e w7 ⟨rfl, hw⟩
      obtain rfl := hw.symm
      go_wp2_with fail
      refine (cloneBools_nil w6).mono ?_
      rintro e w7 ⟨rfl, hw⟩
      obtain rfl := hw.symm
      go_wp2_with fail
      refine (store_u w5 w6 w6 b x3 x2 0 db pp 0 now P dao a2 a3 none a4 ni nm nt nS 0 G I M T (fun _ => false) x4 A4 sL C4 R4 S h0 h1 hP'.out hP2 F.ids F.table F.slots B (Kept.refl _ _) m5 t5 (Or.inl rfl) s5 s5t s5r Sh.len Sh.idx).mono ?_
      rintro e w9 ⟨mb', tb', RT, rfl, Dn⟩
      go_wp2_with fail
      refine (wait_zero b pp _ _ _ _ _ _ _ now w9 Dn.bld).mono ?_
      rintro e w10 ⟨rfl, hw⟩
      obtain rfl := hw.symm
      go_wp2
      go_ret
      exact ⟨rfl, law_below (k15.trans B.kept (fun _ _ f => f)) Dn.kept (Kept.refl _ _) (old 0 none (fun q => by simp at q))⟩
    have hzb : (h == 0) = false := by simp [hz]
    have Hz : Hid (h ≠ 0) := hz
    clear hz
    rcases t5 with ⟨rfl, rfl⟩ | ⟨rfl, t51, t52⟩
    · refine (wait_first b pp h _ a3 0 0 nm nm now w6 ⟨B.row⟩).mono ?_
      rintro e w7 ⟨rfl, hw⟩
      obtain rfl := hw.symm
      go_wp2_with fail
      refine (cloneBools_nil w6).mono ?_
      rintro e w7 ⟨rfl, hw⟩
      obtain rfl := hw.symm
      go_wp2_with fail
      refine (store_u w5 w6 w6 b x3 x2 0 db pp h now P dao none a3 none a4 ni nm 0 nS 0 G I M T (fun _ => false) x4 A4 sL C4 R4 S h0 h1 hP'.out hP2 F.ids F.table F.slots B (Kept.refl _ _) m5 (Or.inl ⟨rfl, rfl⟩) (Or.inl rfl) s5 s5t s5r Sh.len Sh.idx).mono ?_
      rintro e w9 ⟨mb', tb', RT, rfl, Dn⟩
      go_wp2_with fail
      refine (wait_any b mb' 0 pp h _ ⟨tb', 0, none⟩ (some ⟨mb', 0, none⟩) RT RT P P now _ w9 hzb hP2 Dn.bld (rowV_of Dn.mov)).mono ?_
      rintro e w10 ⟨rfl, C10⟩
      go_wp2
      go_ret
      exact ⟨rfl, law_below (k15.trans B.kept (fun _ _ f => f)) Dn.kept C10.kept (old 0 none (fun q => by simp at q))⟩
    · have g3 : ∃ y, a3 = some y := by
        have q1 := N2.nil
        have q2 := N3.nil
        have q3 := Hc.out
        cases a3 with
        | some y => exact ⟨y, rfl⟩
        | none =>
          exfalso
          have q4 : am.isNone = true := by rw [← q2]; rfl
          have q5 : at'.isSome = true := by cases at' <;> simp_all
          rw [q4, q5] at q3
          simp at q3
      rcases m5 with ⟨q, _⟩ | ⟨rfl, q1, m52⟩
      · obtain ⟨y, hy⟩ := g3
        rw [q] at hy
        cases hy
      obtain rfl : P = nm := q1.symm
      clear g3 q1
      refine (wait_any b x3 0 pp h _ ⟨x2, 0, none⟩ (some ⟨x3, 0, none⟩) nt nt P P now M w6 hzb hP2 ⟨B.row⟩ (rowV_of (B.kept.row m52 (fun f => f)))).mono ?_
      rintro e w7 ⟨rfl, C7⟩
      go_wp2_with fail
      refine (cloneBools_any ⟨w6.heap.size, 0, none⟩ w6.heap.size 0 P P (fun p => wt (lm (M p) now h) now h) w7 (fun _ => rfl) (by omega) (fun i hi => by rw [Nat.zero_add]; exact C7.row.cell hi)).mono ?_
      rintro e w8 ⟨rfl, C8⟩
      go_wp2_with fail
      have k68 : Kept (fun _ => False) w6 w8 := C7.kept.trans C8.kept (fun _ _ f => f)
      refine (store_u w5 w6 w8 b x3 x2 w6.heap.size db pp h now P dao (some ⟨x2, 0, none⟩) (some ⟨x3, 0, none⟩) (some ⟨w6.heap.size, 0, none⟩) a4 ni P nt nS P G I M T (fun p => wt (lm (M p) now h) now h) x4 A4 sL C4 R4 S h0 h1 hP'.out hP2 F.ids F.table F.slots B k68 (Or.inr ⟨rfl, rfl, m52⟩) (Or.inr ⟨rfl, t51, t52⟩) (Or.inr ⟨rfl, rfl, Nat.le_refl _, C8.kept.row C7.row (fun f => f)⟩) s5 s5t s5r Sh.len Sh.idx).mono ?_
      rintro e w9 ⟨mb', tb', RT, rfl, Dn⟩
      go_wp2_with fail
      refine (wait_any b mb' 0 pp h _ ⟨tb', 0, none⟩ (some ⟨mb', 0, none⟩) RT RT P P now _ w9 hzb hP2 Dn.bld (rowV_of Dn.mov)).mono ?_
      rintro e w10 ⟨rfl, C10⟩
      have z7 : w6.heap.size < w7.heap.size := by rw [C7.size]; omega
      have z8 := C8.kept.size
      -- the four rows in the last world
      have R1 : w10.rowIs w6.heap.size 4 P (fun p => .bool (wt (lm (M p) now h) now h && !fl (ch (some (⟨x2, 0, none⟩ : Addr)).isNone T (idOf I S)) sL nS p)) := C10.kept.row (Dn.hel rfl) (fun f => f)
      have ns : ∀ k, k = w4.heap.size ∨ k = w7.heap.size → ∀ {n f}, w8.rowIs k 4 n f → ¬ Sws b x3 w6.heap.size nt G (some ⟨x2, 0, none⟩) (some ⟨x3, 0, none⟩) (some ⟨w6.heap.size, 0, none⟩) k := fun k hk n f hr => by
        have m8 := k68.row (B.kept.row m52 (fun f => f)) (fun f => f)
        have b8 := k68.row B.row (fun f => f)
        refine not_sws (rowIs_ne hr b8 (by decide)) (fun _ => rowIs_ne hr m8 (by decide)) (fun _ => ?_) (fun _ r hrr => rowIs_ne hr (k68.row (B.kept.row (t52.rows r hrr) (fun f => f)) (fun f => f)) (by decide))
        have := C5.size
        omega
      have R2 : w10.rowIs w7.heap.size 4 P (fun p => .bool (wt (lm (M p) now h) now h)) := C10.kept.row (Dn.kept.row C8.row (ns _ (Or.inr rfl) C8.row)) (fun f => f)
      have c58 : w8.rowIs w4.heap.size 4 P (fun q => .bool (fl (ch (some (⟨x2, 0, none⟩ : Addr)).isNone T (idOf I S)) sL nS q)) := k68.row (B.kept.row C5.row (fun f => f)) (fun f => f)
      have R3 : w10.rowIs w4.heap.size 4 P (fun q => .bool (fl (ch (some (⟨x2, 0, none⟩ : Addr)).isNone T (idOf I S)) sL nS q)) := C10.kept.row (Dn.kept.row c58 (ns _ (Or.inl rfl) c58)) (fun f => f)
      have R4 := C10.row
      have Bel : Below w.heap.size w w10 := law_below ((k15.trans B.kept (fun _ _ f => f)).trans k68 (fun _ _ f => f)) Dn.kept C10.kept (old _ _ (fun _ => by omega))
      have A1 : ∀ p, p < P → fl (ch (some (⟨x2, 0, none⟩ : Addr)).isNone T (idOf I S)) sL nS p = true →
          wt (lm (mvF (fl (ch (some (⟨x2, 0, none⟩ : Addr)).isNone T (idOf I S)) sL nS) now (fun q => lm (mvOf P M q) now h) p) now h) now h = (now != 0) := fun p hp e => by
        rw [mvF, if_pos e]; exact wt_now now h Hh.out.2 Hh.out.1 Hz.out
      have A2 : ∀ p, p < P → fl (ch (some (⟨x2, 0, none⟩ : Addr)).isNone T (idOf I S)) sL nS p = false → 0 ≤ now →
          wt (lm (mvF (fl (ch (some (⟨x2, 0, none⟩ : Addr)).isNone T (idOf I S)) sL nS) now (fun q => lm (mvOf P M q) now h) p) now h) now h = wt (lm (M p) now h) now h := fun p hp e h0 => by
        rw [mvF, if_neg (by rw [e]; simp), lm_twice _ _ _ h0, mvOf, if_pos hp]
      have HA : Hid ((∀ p, p < P → fl (ch (some (⟨x2, 0, none⟩ : Addr)).isNone T (idOf I S)) sL nS p = true →
          wt (lm (mvF (fl (ch (some (⟨x2, 0, none⟩ : Addr)).isNone T (idOf I S)) sL nS) now (fun q => lm (mvOf P M q) now h) p) now h) now h = (now != 0)) ∧
          (∀ p, p < P → fl (ch (some (⟨x2, 0, none⟩ : Addr)).isNone T (idOf I S)) sL nS p = false → 0 ≤ now →
          wt (lm (mvF (fl (ch (some (⟨x2, 0, none⟩ : Addr)).isNone T (idOf I S)) sL nS) now (fun q => lm (mvOf P M q) now h) p) now h) now h = wt (lm (M p) now h) now h)) := ⟨A1, A2⟩
      clear A1 A2 ns c58
      go_wp2
      clear z1 z2 z3 z4 z5 z6 zb z7 z8 k68 Dn C10 C8 C7 m52 t51 t52 old s5 s5t s5r Sh2 k15 B C5 N1 N2 N3 N4 r1 t4 nn2 nn3 e1
      go_loopg [24] P (fun g i wr => ∃ k : Nat, k ≤ P ∧ g = P - k ∧ i = .int .i64 k ∧ Kept (fun _ => False) w10 wr)
      case atStart => exact ⟨0, Nat.zero_le _, rfl, rfl, Kept.refl _ _⟩
      case round =>
        obtain ⟨k, hk, rfl, rfl, hK⟩ := hrel
        by_cases hlt : k < P
        · have hltz : (k : Int) < (P : Int) := by omega
          have u1 := (hK.row R1 (fun f => f)).cell hlt
          have u2 := (hK.row R2 (fun f => f)).cell hlt
          have u3 := (hK.row R3 (fun f => f)).cell hlt
          have u4 := (hK.row R4 (fun f => f)).cell hlt
          have B1 := HA.out.1 k hlt
          have B2 := HA.out.2 k hlt
          clear R1 R2 R3 R4 HA
          generalize fl (ch (some (⟨x2, 0, none⟩ : Addr)).isNone T (idOf I S)) sL nS k = Fk at u1 u2 u3 u4 B1 B2
          generalize wt (lm (mvF (fl (ch (some (⟨x2, 0, none⟩ : Addr)).isNone T (idOf I S)) sL nS) now (fun q => lm (mvOf P M q) now h) k) now h) now h = Ak at u4 B1 B2
          generalize wt (lm (M k) now h) now h = Hk at u1 u2 B2
          cases Fk
          · by_cases hn0 : 0 ≤ now
            · obtain rfl := B2 rfl hn0
              clear B1 B2
              cases Ak
              all_goals
                go_wp2_with fail
                go_quiet (fail)
                go_wp2
                go_quiet (fail)
                go_wp2
                go_roundg (P - (k + 1))
                case measure => go_light; omega
                case rel => go_light; exact ⟨k + 1, by omega, rfl, by simp, hK.drewN _⟩
            · clear B1 B2
              have hn1 : decide (0 ≤ now) = false := by simpa using hn0
              cases Hk
              all_goals
                go_wp2_with fail
                go_quiet (fail)
                go_wp2
                go_quiet (fail)
                go_wp2
                go_roundg (P - (k + 1))
                case measure => go_light; omega
                case rel => go_light; exact ⟨k + 1, by omega, rfl, by simp, hK.drewN _⟩
          · obtain rfl := B1 rfl
            clear B1 B2
            cases Hk
            all_goals
              go_wp2_with fail
              go_quiet (fail)
              go_wp2
              go_roundg (P - (k + 1))
              case measure => go_light; omega
              case rel => go_light; exact ⟨k + 1, by omega, rfl, by simp, hK.drewN _⟩
        · have hltz : ¬ ((k : Int) < (P : Int)) := by omega
          go_wp2
          go_ret
          exact ⟨rfl, Bel.trans (hK.below (Nat.le_trans Bel.size (Nat.le_refl _)) (fun _ _ f => f))⟩
end Go.Proofs.Qxb6617160a
