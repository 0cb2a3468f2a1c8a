/-
  SEAT b6617160a: THE WALK OF FnWaitLastsExactlyTheMinimumHoursAfterAStore.
-/
import Derived.Test.Qxb6617160aLawKit
import Derived.Test.Qxb6617160aTimes
namespace Go.Proofs.Qxb6617160a
open Go.RowKit Go.Deep
set_option linter.unusedVariables false
attribute [local go_sem] eq24 eq26 ne23

set_option maxHeartbeats 1600000 in
set_option maxRecDepth 1000000 in
theorem waits_walk (pp h now : Int) (ai at' am aS : Option Addr) (ni ci nt ct nm cm nS cS : Nat) (ib io tb tg mb mo sb sg : Nat) (tA sA : Nat → Option Addr) (tL tC tRB tRO sL sC sRB sRO : Nat → Nat) (I M : Nat → Int) (T S : Nat → Nat → Int) (w : World)
    (hh : I64 h) (hn : I64 now)
    (ni0 : ai = none → ni = 0 ∧ ci = 0) (nt0 : at' = none → nt = 0 ∧ ct = 0) (nm0 : am = none → nm = 0 ∧ cm = 0) (nS0 : aS = none → nS = 0 ∧ cS = 0)
    (hI : RowV .i64 w ai ni ib io I) (hT : MatV .u16 w at' nt tb tg tA tL tC tRB tRO T) (hM : RowV .i64 w am nm mb mo M) (hS : MatV .i32 w aS nS sb sg sA sL sC sRB sRO S)
    (bS : ∀ r, r < nS → ∀ p, p < sL r → -2147483648 ≤ S r p ∧ S r p ≤ 2147483647) (bM : ∀ i, i < nm → I64 (M i)) :
    Calls Try.prog 6 #[.int .i64 pp, .int .i64 h, .slice ai ni ci, .slice at' nt ct, .slice am nm cm, .slice aS nS cS, .int .i64 now] w fun e w' => e = .returned (.bool true) ∧ Below w.heap.size w w' := by
  have HbS : Hid (∀ r, r < nS → ∀ p, p < sL r → -2147483648 ≤ S r p ∧ S r p ≤ 2147483647) := bS
  have Hnil : Hid ((ai = none → ni = 0 ∧ ci = 0) ∧ (at' = none → nt = 0 ∧ ct = 0) ∧ (am = none → nm = 0 ∧ cm = 0) ∧ (aS = none → nS = 0 ∧ cS = 0)) := ⟨ni0, nt0, nm0, nS0⟩
  have Hh : Hid (I64 h ∧ I64 now ∧ ∀ i, i < nm → I64 (M i)) := ⟨hh, hn, bM⟩
  clear bS ni0 nt0 nm0 nS0 hh hn bM
  go_enter Try.func6, Try.ntmps6
  go_wp2_with fail
  refine (bytes25 _ _ _ _ _ _ _ _ _ _ _ _ _ _ _ _ _ _ _ _ _ _ _ _ _ _ _ _ _ _ _ _ hT hS).mono ?_
  rintro e w' ⟨⟨b1, rfl, -⟩, hw⟩
  obtain rfl := hw.symm
  cases b1
  · go_wp2
    go_ret
    exact ⟨rfl, Below.refl _ _⟩
  go_wp2_with fail
  refine (tooBig_any _ _ _ _ _ _ _ _ _ _ _ _ _ _ _ _ _ _ _ _ _ _ _ _ _ _ _ _ _ _ hT hS).mono ?_
  rintro e w' ⟨⟨b1, rfl, hfit⟩, hw⟩
  obtain rfl := hw.symm
  cases b1
  case true =>
    go_wp2
    go_ret
    exact ⟨rfl, Below.refl _ _⟩
  have F := hfit rfl
  clear hfit
  obtain ⟨p1, p2⟩ := pow_bd pp F.p0 F.p1
  obtain ⟨P, hP⟩ : ∃ P : Nat, wrap64 (2 ^ pp.toNat) = (P : Int) := ⟨(wrap64 (2 ^ pp.toNat)).toNat, by omega⟩
  rw [hP] at p1 p2
  have hP1 : 1 ≤ P := by omega
  have hP2 : P ≤ 65536 := by omega
  clear p1 p2
  have h0 := F.p0
  have h1 := F.p1
  go_wp2_with fail
  rw [hP]
  refine (shapeOK_any P hP2 ai at' am aS ni ci nt ct nm cm nS cS tb tg sb sg tA sA tL tC tRB tRO sL sC sRB sRO T S w F.ids F.table F.moved F.slots HbS.out hT hS).mono ?_
  rintro e w' ⟨⟨b1, rfl, hsh⟩, hw⟩
  obtain rfl := hw.symm
  clear hw
  cases b1
  · go_wp2
    go_ret
    exact ⟨rfl, Below.refl _ _⟩
  have Sh := hsh rfl
  clear hsh
  by_cases c1 : now < 0
  · go_wp2
    go_ret
    exact ⟨rfl, Below.refl _ _⟩
  by_cases c2 : h < 0
  · go_wp2
    go_ret
    exact ⟨rfl, Below.refl _ _⟩
  have b1 : now ≤ 9223372036854775807 := Hh.out.2.1.2
  have b2 : h ≤ 9223372036854775807 := Hh.out.1.2
  have hP' : Hid (wrap64 (2 ^ pp.toNat) = (P : Int)) := hP
  clear hP
  go_wp2_with fail
  · go_ret
    exact ⟨rfl, Below.refl _ _⟩
  have n0 : 0 ≤ now := by omega
  have q0 : 0 ≤ h := by omega
  have q1 : h ≤ (9223372036854775807 - now) / 3600 := by assumption
  have hend : now + h * 3600 ≤ 9223372036854775807 := by omega
  clear q1 c1 c2
  refine (cloneInts_u ai ni ci ib io I w (by have := F.ids; omega) Hnil.out.1 hI).mono ?_
  rintro e w1 ⟨a1, x1, rfl, N1⟩
  go_wp2_with fail
  refine (cloneRows16_u at' nt ct tb tg P tA tL tC tRB tRO T w1 (by have := F.table; omega) hP2 hP1 Hnil.out.2.1 Sh.tab (hT.of N1.kept)).mono ?_
  rintro e w2 ⟨a2, x2, G, rfl, N2⟩
  go_wp2_with fail
  refine (cloneI64_u am nm cm mb mo M w2 (by have := F.moved; omega) Hnil.out.2.2.1 ((hM.of N1.kept).of N2.kept)).mono ?_
  rintro e w3 ⟨a3, x3, rfl, N3⟩
  go_wp2_with fail
  refine (cloneRows32_u aS nS cS sb sg P sA sL sC sRB sRO S w3 (by have := F.slots; omega) hP2 Hnil.out.2.2.2 Sh.len (((hS.of N1.kept).of N2.kept).of N3.kept)).mono ?_
  rintro e w4 ⟨a4, x4, A4, C4, R4, rfl, N4⟩
  go_wp2_with fail
  have r1 : RowV .i64 w4 a1 ni x1 0 I := ((N1.rowV.of N2.kept).of N3.kept).of N4.kept
  have t4 : (a2 = none ∧ nt = 0) ∨ (a2 = some ⟨x2, 0, none⟩ ∧ Tab w4 x2 nt P G T) := by
    rcases N2.got with g | ⟨g1, _, _, g2⟩
    · exact Or.inl g
    · exact Or.inr ⟨g1, (g2.of N3.kept (fun f => f) (fun _ _ f => f)).of N4.kept (fun f => f) (fun _ _ f => f)⟩
  have nn2 : a2 ≠ none → at' ≠ none := fun q e => q (by have := N2.nil; rw [e] at this; simpa using this)
  have nn3 : a3 ≠ none → am ≠ none := fun q e => q (by have := N3.nil; rw [e] at this; simpa using this)
  have Sh2 : Shape P ni nt nm nS a2 a3 (fun _ => P) sL S := ⟨fun q => Sh.rows (nn2 q), fun _ _ _ => rfl, fun q => Sh.mov (nn3 q), Sh.len, Sh.idx⟩
  refine (expect_any P hP2 a1 a2 a3 a4 ni ni nt nt nm nS nS x1 0 x2 0 x4 0 (fun r => some ⟨G r, 0, none⟩) A4 (fun _ => P) (fun _ => P) G (fun _ => 0) sL C4 R4 (fun _ => 0) I T S w4 F.slots Sh2 F.ids F.table r1 (tab_matV t4) N4.mat).mono ?_
  rintro e w5 ⟨rfl, C5⟩
  go_wp2_with fail
  have k15 : Kept (fun _ => False) w w5 := (((N1.kept.trans N2.kept (fun _ _ f => f)).trans N3.kept (fun _ _ f => f)).trans N4.kept (fun _ _ f => f)).trans C5.kept (fun _ _ f => f)
  have m5 : (a3 = none ∧ nm = 0) ∨ (a3 = some ⟨x3, 0, none⟩ ∧ nm = P ∧ w5.rowIs x3 2 P (fun p => .int .i64 (M p))) := by
    rcases N3.got with g | ⟨g1, _, g2⟩
    · exact Or.inl g
    · have hq : nm = P := Sh2.mov (by rw [g1]; simp)
      have := C5.kept.row (N4.kept.row g2 (fun f => f)) (fun f => f)
      rw [hq] at this
      exact Or.inr ⟨g1, hq, this⟩
  have mP : nm = 0 ∨ nm = P := by
    rcases m5 with ⟨_, g⟩ | ⟨_, g, _⟩
    · exact Or.inl g
    · exact Or.inr g
  refine (lastMovesAt_any pp h P nm nm x3 0 a3 now M w5 h0 h1 hP'.out hP2 mP ((N3.rowV.of N4.kept).of C5.kept)).mono ?_
  rintro e w5b ⟨l, rfl, zl, kl, Lr⟩
  have HmP : Hid (nm = 0 ∨ nm = P) := mP
  clear mP
  go_wp2_with fail
  have e1 : a1 = none → ni = 0 ∧ ni = 0 := fun e => by
    rcases N1.got with ⟨_, g⟩ | ⟨g, _, _⟩
    · exact ⟨g, g⟩
    · rw [e] at g; cases g
  refine (newb_any pp h a1 a2 a3 ni ni nt nt nm nm x1 0 I w5b F.ids e1 ((r1.of C5.kept).of kl)).mono ?_
  rintro e w6 ⟨b, dao, db, rfl, B⟩
  have k5b : Kept (fun _ => False) w4 w5b := C5.kept.trans kl (fun _ _ f => f)
  have m5b : (a3 = none ∧ nm = 0) ∨ (a3 = some ⟨x3, 0, none⟩ ∧ nm = P ∧ w5b.rowIs x3 2 P (fun p => .int .i64 (M p))) := by
    rcases m5 with g | ⟨g1, g2, g3⟩
    · exact Or.inl g
    · exact Or.inr ⟨g1, g2, kl.row g3 (fun f => f)⟩
  have t5 : (a2 = none ∧ nt = 0) ∨ (a2 = some ⟨x2, 0, none⟩ ∧ nS ≤ nt ∧ Tab w5b x2 nt P G T) := by
    rcases t4 with g | ⟨g1, g2⟩
    · exact Or.inl g
    · exact Or.inr ⟨g1, Sh2.rows (by rw [g1]; simp), g2.of k5b (fun f => f) (fun _ _ f => f)⟩
  have s5 := N4.mat.of k5b
  have s5t : 0 < nS → ∃ f, w5b.rowIs x4 43 nS f := fun q => by obtain ⟨_, f, hf⟩ := N4.top q; exact ⟨f, k5b.row hf (fun f => f)⟩
  have s5r : ∀ r, r < nS → 0 < sL r → ∃ f, w5b.rowIs (R4 r) 21 (sL r) f := fun r hr q => by obtain ⟨_, f, hf⟩ := N4.rows r hr q; exact ⟨f, k5b.row hf (fun f => f)⟩
  have z1 := N1.kept.size
  have z2 := N2.kept.size
  have z3 := N3.kept.size
  have z4 := N4.kept.size
  have z5 := C5.kept.size
  have z5b := kl.size
  have z6 := B.kept.size
  have zb := B.ge
  -- nothing that was there is among what is written
  have old : ∀ k, k < w.heap.size → ¬ Sws b x3 0 nt G a2 a3 none k := fun k hk => by
    refine not_sws (by omega) (fun ha => ?_) (fun ha => by simp at ha) (fun ha r hr => ?_)
    · rcases N3.got with ⟨g, _⟩ | ⟨_, g, _⟩
      · rw [g] at ha; simp at ha
      · omega
    · rcases N2.got with ⟨g, _⟩ | ⟨_, _, g, _⟩
      · rw [g] at ha; simp at ha
      · have := g r hr; omega
  go_wp2_with fail
  refine (store_u w5b w6 w6 b x3 x2 0 db pp h now P dao a2 a3 none a4 ni nm nt nS 0 G I M T (fun _ => false) x4 A4 sL C4 R4 S h0 h1 hP'.out hP2 F.ids F.table F.slots B (Kept.refl _ _) m5b t5 (Or.inl rfl) s5 s5t s5r Sh.len Sh.idx).mono ?_
  rintro e w7 ⟨mb', tb', RT, rfl, Dn⟩
  have kw6 : Kept (fun _ => False) w w6 := (k15.trans kl (fun _ _ f => f)).trans B.kept (fun _ _ f => f)
  by_cases hz : h = 0
  · subst hz
    go_wp2_with fail
    refine (wait_zero b pp _ _ _ _ _ _ _ _ w7 Dn.bld).mono ?_
    rintro e w8 ⟨rfl, hw⟩
    obtain rfl := hw.symm
    go_wp2_with fail
    refine (wait_zero b pp _ _ _ _ _ _ _ _ w7 Dn.bld).mono ?_
    rintro e w8 ⟨rfl, hw⟩
    obtain rfl := hw.symm
    go_wp2
    go_ret
    exact ⟨rfl, law_below kw6 Dn.kept (Kept.refl _ _) old⟩
  · have hzb : (h == 0) = false := by simp [hz]
    go_wp2_with fail
    refine (wait_any b mb' 0 pp h _ ⟨tb', 0, none⟩ (some ⟨mb', 0, none⟩) RT RT P P (now + h * 3600 - 1) _ w7 hzb hP2 Dn.bld (rowV_of Dn.mov)).mono ?_
    rintro e w8 ⟨rfl, C8⟩
    go_wp2_with fail
    refine (wait_any b mb' 0 pp h _ ⟨tb', 0, none⟩ (some ⟨mb', 0, none⟩) RT RT P P (now + h * 3600) _ w8 hzb hP2 (Dn.bld.of C8.kept (fun f => f)) (rowV_of (C8.kept.row Dn.mov (fun f => f)))).mono ?_
    rintro e w9 ⟨rfl, C9⟩
    have z8 : w7.heap.size < w8.heap.size := by rw [C8.size]; omega
    have z7 := Dn.kept.size
    have k79 : Kept (fun _ => False) w7 w9 := C8.kept.trans C9.kept (fun _ _ f => f)
    -- the four rows in the last world
    have R1 := C9.kept.row C8.row (fun f => f)
    have R2 := C9.row
    have c6 : w6.rowIs w4.heap.size 4 P (fun q => .bool (fl (ch a2.isNone T (idOf I S)) sL nS q)) := B.kept.row (kl.row C5.row (fun f => f)) (fun f => f)
    have l6 : w6.rowIs l 2 P (fun p => .int .i64 (lm (mvOf nm M p) now h)) := B.kept.row Lr (fun f => f)
    have g6 : a2.isSome = true → ∀ r, r < nt → w6.rowIs (G r) 42 P (fun p => .int .u16 (T r p)) := fun ha r hr => by
      rcases t5 with ⟨g, _⟩ | ⟨_, _, g⟩
      · rw [g] at ha; simp at ha
      · exact B.kept.row (g.rows r hr) (fun f => f)
    have m6 : a3.isSome = true → w6.rowIs x3 2 P (fun p => .int .i64 (M p)) ∧ x3 < w5.heap.size := fun ha => by
      rcases m5 with ⟨g, _⟩ | ⟨_, _, g⟩
      · rw [g] at ha; simp at ha
      · exact ⟨B.kept.row (kl.row g (fun f => f)) (fun f => f), g.lt⟩
    have nc : ¬ Sws b x3 0 nt G a2 a3 none w4.heap.size := not_sws (rowIs_ne c6 B.row (by decide)) (fun ha => rowIs_ne c6 (m6 ha).1 (by decide)) (fun ha => by simp at ha) (fun ha r hr => rowIs_ne c6 (g6 ha r hr) (by decide))
    have nl : ¬ Sws b x3 0 nt G a2 a3 none l := not_sws (rowIs_ne l6 B.row (by decide)) (fun ha => by have := (m6 ha).2; omega) (fun ha => by simp at ha) (fun ha r hr => rowIs_ne l6 (g6 ha r hr) (by decide))
    have R3 := k79.row (Dn.kept.row c6 nc) (fun f => f)
    have R4 := k79.row (Dn.kept.row l6 nl) (fun f => f)
    have Bel : Below w.heap.size w w9 := law_below kw6 Dn.kept k79 old
    have hpos : 0 < h := by omega
    have X : ∀ p, p < P → I64 (mvF (fl (ch a2.isNone T (idOf I S)) sL nS) now (fun q => lm (mvOf nm M q) now h) p) ∧ mvF (fl (ch a2.isNone T (idOf I S)) sL nS) now (fun q => lm (mvOf nm M q) now h) p ≤ now := fun p hp => by
      have hb : I64 (mvOf nm M p) := by
        unfold mvOf
        split
        · exact Hh.out.2.2 p (by assumption)
        · unfold I64; omega
      unfold mvF
      split
      · exact ⟨Hh.out.2.1, Int.le_refl _⟩
      · exact ⟨lm_bd _ _ _ hb Hh.out.2.1, lm_not_after _ _ _ n0⟩
    have A2 : ∀ p, p < P → wt (lm (mvF (fl (ch a2.isNone T (idOf I S)) sL nS) now (fun q => lm (mvOf nm M q) now h) p) (now + h * 3600) h) (now + h * 3600) h = false := fun p hp =>
      wt_end _ now h (X p hp).1 (X p hp).2 n0 q0 hend
    have A1 : ∀ p, p < P → wt (lm (mvF (fl (ch a2.isNone T (idOf I S)) sL nS) now (fun q => lm (mvOf nm M q) now h) p) (now + h * 3600 - 1) h) (now + h * 3600 - 1) h = (now != 0 && (fl (ch a2.isNone T (idOf I S)) sL nS p || lm (mvOf nm M p) now h == now)) := fun p hp => by
      rw [wt_before _ now h (X p hp).1 (X p hp).2 n0 hpos hend, mvF]
      cases fl (ch a2.isNone T (idOf I S)) sL nS p <;> simp
    have HA : Hid ((∀ p, p < P → wt (lm (mvF (fl (ch a2.isNone T (idOf I S)) sL nS) now (fun q => lm (mvOf nm M q) now h) p) (now + h * 3600) h) (now + h * 3600) h = false) ∧
        (∀ p, p < P → wt (lm (mvF (fl (ch a2.isNone T (idOf I S)) sL nS) now (fun q => lm (mvOf nm M q) now h) p) (now + h * 3600 - 1) h) (now + h * 3600 - 1) h = (now != 0 && (fl (ch a2.isNone T (idOf I S)) sL nS p || lm (mvOf nm M p) now h == now)))) := ⟨A2, A1⟩
    clear A1 A2 X nc nl g6 m6
    go_wp2
    clear z1 z2 z3 z4 z5 z5b z6 z7 z8 zb zl Dn C9 C8 m5 m5b t5 old s5 s5t s5r Sh2 k15 kw6 k5b B C5 N1 N2 N3 N4 r1 t4 nn2 nn3 e1 c6 l6 Lr kl k79
    go_loopg [24] P (fun g i wr => ∃ k : Nat, k ≤ P ∧ g = P - k ∧ i = .int .i64 k ∧ Kept (fun _ => False) w9 wr)
    case atStart => exact ⟨0, Nat.zero_le _, rfl, rfl, Kept.refl _ _⟩
    case round =>
      obtain ⟨k, hk, rfl, rfl, hK⟩ := hrel
      by_cases hlt : k < P
      · have hltz : (k : Int) < (P : Int) := by omega
        have u1 := (hK.row R1 (fun f => f)).cell hlt
        have u2 := (hK.row R2 (fun f => f)).cell hlt
        have u3 := (hK.row R3 (fun f => f)).cell hlt
        have u4 := (hK.row R4 (fun f => f)).cell hlt
        have B2 := HA.out.1 k hlt
        have B1 := HA.out.2 k hlt
        rw [B2] at u2
        rw [B1] at u1
        clear R1 R2 R3 R4 HA B1 B2
        generalize fl (ch a2.isNone T (idOf I S)) sL nS k = Fk at u1 u3
        generalize lm (mvOf nm M k) now h = Lk at u1 u4
        by_cases hn0 : now = 0
        · have hb0 : (now != 0) = false := by simp [hn0]
          rw [hb0] at u1
          clear hn0
          go_wp2_with fail
          go_quiet (fail)
          go_wp2
          go_roundg (P - (k + 1))
          case measure => go_light; omega
          case rel => go_light; exact ⟨k + 1, by omega, rfl, by simp, hK.drewN _⟩
        · have hb0 : (now != 0) = true := by simp [hn0]
          rw [hb0] at u1
          clear hn0
          cases Fk
          · by_cases hL : Lk = now
            · have hLb : (Lk == now) = true := by simp [hL]
              rw [hLb] at u1
              clear hL
              go_wp2_with fail
              go_quiet (fail)
              go_wp2
              go_roundg (P - (k + 1))
              case measure => go_light; omega
              case rel => go_light; exact ⟨k + 1, by omega, rfl, by simp, hK.drewN _⟩
            · have hLb : (Lk == now) = false := by simp [hL]
              rw [hLb] at u1
              clear hL
              go_wp2_with fail
              go_quiet (fail)
              go_wp2
              go_roundg (P - (k + 1))
              case measure => go_light; omega
              case rel => go_light; exact ⟨k + 1, by omega, rfl, by simp, hK.drewN _⟩
          · go_wp2_with fail
            go_quiet (fail)
            go_wp2
            go_roundg (P - (k + 1))
            case measure => go_light; omega
            case rel => go_light; exact ⟨k + 1, by omega, rfl, by simp, hK.drewN _⟩
      · have hltz : ¬ ((k : Int) < (P : Int)) := by omega
        go_wp2
        go_ret
        exact ⟨rfl, Bel.trans (hK.below (Nat.le_trans Bel.size (Nat.le_refl _)) (fun _ _ f => f))⟩
end Go.Proofs.Qxb6617160a
