/-
  SEAT b6617237a: number.
-/
import Derived.Test.Qxb6617237aSmall
import Derived.Deep.RegionWith
namespace Go.Proofs.Qxb6617237a
open Go.RowKit Go.Deep
set_option linter.unusedVariables false

def NumPost (w : World) (b : Nat) (fi s : ByteArray) (off : Nat) (h : Bool) (e : Ending) (w' : World) : Prop :=
  ∃ (k : Int) (en : Nat), e = .returned (.int .i64 k) ∧ Num s off k en ∧ en ≤ s.size ∧ Lx w' b fi s en h ∧ Kept (fun x => x = b) w w'

set_option maxHeartbeats 1600000 in
set_option maxRecDepth 1000000 in
theorem number_any (b : Nat) (fi s : ByteArray) (off : Nat) (h : Bool) (w : World) (hs : s.size ≤ 1048576) (hoff : off < s.size) (hsg : sgn (pk s off) = true → off + 1 < s.size) (hL : Lx w b fi s off h) :
    Calls Try.prog 12 #[.pointer (some ⟨b, 0, none⟩)] w fun e w' => NumPost w b fi s off h e w' := by
  have c1 := hL.c1
  have c2 := hL.c2
  have f2 := hL.f2
  have hoz : (off : Int) < (s.size : Int) := by omega
  have HP : Hid (pk s off = (s[off].toNat : Int)) := pk_in s off hoff
  go_enter Try.func12, Try.ntmps12
  go_wp2
  go_quiet (fail)
  go_upto_region 2 with fail
  go_cut [24] (fun s24 wx => s24 = .bool (sgn (pk s off)) ∧ ∃ m, wx = w.drewN m)
  case first =>
    as_aux_lemma =>
      by_cases h1 : (s[off].toNat : Int) = 43
      · have h1b : ((s[off].toNat : Int) == 43) = true := by simp [h1]
        have HS : Hid (sgn (pk s off) = true) := by show sgn (pk s off) = true; rw [HP.out, sgn, h1b]; rfl
        clear h1 hsg
        go_wp2
        go_meet
        exact ⟨by rw [HS.out], _, rfl⟩
      · have h1b : ((s[off].toNat : Int) == 43) = false := by simp [h1]
        have HS : Hid (sgn (pk s off) = ((s[off].toNat : Int) == 45)) := by show sgn (pk s off) = _; rw [HP.out, sgn, h1b]; rfl
        clear h1 hsg
        go_wp2
        go_meet
        exact ⟨by rw [HS.out], _, rfl⟩
  case rest =>
    obtain ⟨rfl, m, rfl⟩ := hcut
    have hL1 := hL.drewN m
    have k1 : Kept (fun x => x = b) w (w.drewN m) := (Kept.refl _ _).drewN m
    obtain ⟨w1, hw1⟩ : ∃ w1, w1 = w.drewN m := ⟨_, rfl⟩
    rw [← hw1] at hL1 k1 ⊢
    clear hw1 c1 c2 f2
    have c2 := hL1.c2
    have f2 := hL1.f2
    go_upto_if 24 with fail
    go_cut [] (fun wx => past s off < s.size ∧ Lx wx b fi s (past s off) h ∧ Kept (fun x => x = b) w wx)
    case first =>
      as_aux_lemma =>
        cases hS : sgn (pk s off)
        · go_wp2
          go_meet
          have e : past s off = off := by rw [past, hS]; rfl
          rw [e]
          exact ⟨hoff, hL1, k1⟩
        · have HO : Hid (off + 1 < s.size) := hsg hS
          go_wp2
          go_meet
          have e : past s off = off + 1 := by rw [past, hS]; rfl
          rw [e]
          exact ⟨HO.out, hL1.set _, k1.setCell (Or.inl rfl) _⟩
    case rest =>
      obtain ⟨ho, hL2, k2⟩ := hcut
      clear c2 f2 hL1 k1 HP
      generalize (s[off].toNat : Int) = v3
      clear hoz
      generalize hO : past s off = o at ho hL2
      have HO : Hid (past s off = o) := hO
      clear hO hsg
      have c1 := hL2.c1
      have c2 := hL2.c2
      have hoz : (o : Int) < (s.size : Int) := by omega
      have HP : Hid (pk s o = (s[o].toNat : Int)) := pk_in s o ho
      go_upto_region 4 with fail
      go_cut [59] (fun s59 wx => s59 = .bool (hexB s o) ∧ ∃ m, wx = wc.drewN m)
      case first =>
        as_aux_lemma =>
          by_cases h1 : (s[o].toNat : Int) = 48
          · have h1b : ((s[o].toNat : Int) == 48) = true := by simp [h1]
            by_cases h2 : pk s (o + 1) = 120
            · have h2b : (pk s (o + 1) == 120) = true := by simp [h2]
              have HS : Hid (hexB s o = isX (pk s (o + 2))) := by show hexB s o = _; rw [hexB, HP.out, h1b, h2b]; rfl
              clear h1 h2
              go_quiet (first | (go_at_call_of 16 (Value.int IntKind.i64 1); exact Calls.quiet_of (peek1 b fi s o h _ hs (by omega) (hL2.drewN _))) | (go_at_call_of 16 (Value.int IntKind.i64 2); exact Calls.quiet_of (peek2 b fi s o h _ hs (by omega) (hL2.drewN _))) | (go_at_call 17; exact Calls.quiet_of_same (isX_any _ _)))
              go_wp2
              go_meet
              exact ⟨by rw [HS.out], _, rfl⟩
            · have h2b : (pk s (o + 1) == 120) = false := by simp [h2]
              have HS : Hid (hexB s o = false) := by show hexB s o = _; rw [hexB, HP.out, h1b, h2b]; rfl
              clear h1 h2
              go_quiet (first | (go_at_call_of 16 (Value.int IntKind.i64 1); exact Calls.quiet_of (peek1 b fi s o h _ hs (by omega) (hL2.drewN _))))
              go_wp2
              go_meet
              exact ⟨by rw [HS.out], _, rfl⟩
          · have h1b : ((s[o].toNat : Int) == 48) = false := by simp [h1]
            have HS : Hid (hexB s o = false) := by show hexB s o = _; rw [hexB, HP.out, h1b]; rfl
            clear h1
            go_quiet (fail)
            go_wp2
            go_meet
            exact ⟨by rw [HS.out], _, rfl⟩
      case rest =>
        obtain ⟨rfl, m2, rfl⟩ := hcut
        have hL3 := hL2.drewN m2
        have k3 := k2.drewN m2
        obtain ⟨w3, hw3⟩ : ∃ w3, w3 = wc.drewN m2 := ⟨_, rfl⟩
        rw [← hw3] at hL3 k3 ⊢
        clear hw3 hL2 k2 c1 c2 HP
        cases hx : hexB s o
        · -- digits, a fraction, an exponent
          have HX : Hid (hexB s o = false) := hx
          clear hx
          go_wp2_with fail
          refine (skip_any b fi s o h w3 hs (by omega) hL3).mono ?_
          rintro e w4 ⟨rfl, d, hd1, hd2, hL4, k4⟩
          have k4' : Kept (fun x => x = b) w w4 := k3.trans k4 (fun _ _ t => t)
          clear k3 k4 hL3
          go_upto_region 11 with fail
          go_cut [119] (fun s119 wx => s119 = .bool (fracB s d) ∧ ∃ m, wx = w4.drewN m)
          case first =>
            as_aux_lemma =>
              by_cases h1 : pk s d = 46
              · have h1b : (pk s d == 46) = true := by simp [h1]
                have HS : Hid (fracB s d = isD (pk s (d + 1))) := by show fracB s d = _; rw [fracB, h1b]; rfl
                clear h1
                go_wp2_with fail
                refine (peek0 b fi s d h w4 hs hd2 hL4).mono ?_
                rintro e w5 ⟨rfl, m5, rfl⟩
                go_wp2_with fail
                refine (peek1 b fi s d h _ hs hd2 (hL4.drewN m5)).mono ?_
                rintro e w5 ⟨rfl, m6, rfl⟩
                go_wp2_with fail
                refine (isD_any _ _).mono ?_
                rintro e w5 ⟨rfl, rfl⟩
                go_wp2
                go_meet
                exact ⟨by rw [HS.out], _, rfl⟩
              · have h1b : (pk s d == 46) = false := by simp [h1]
                have HS : Hid (fracB s d = false) := by show fracB s d = _; rw [fracB, h1b]; rfl
                clear h1
                go_wp2_with fail
                refine (peek0 b fi s d h w4 hs hd2 hL4).mono ?_
                rintro e w5 ⟨rfl, m5, rfl⟩
                go_wp2
                go_meet
                exact ⟨by rw [HS.out], _, rfl⟩
          case rest =>
            obtain ⟨rfl, m5, rfl⟩ := hcut
            have hL5 := hL4.drewN m5
            have k5 := k4'.drewN m5
            obtain ⟨w5, hw5⟩ : ∃ w5, w5 = w4.drewN m5 := ⟨_, rfl⟩
            rw [← hw5] at hL5 k5 ⊢
            clear hw5 hL4 k4'
            go_upto_if 119 with fail
            go_cut [4] (fun s4 wx => ∃ (f : Nat) (kf : Int), s4 = .int .i64 kf ∧ Fr s d f kf ∧ f ≤ s.size ∧ Lx wx b fi s f h ∧ Kept (fun x => x = b) w wx)
            case first =>
              as_aux_lemma =>
                cases hf : fracB s d
                · go_wp2
                  go_meet
                  exact ⟨d, 2, rfl, Or.inr ⟨hf, rfl, rfl⟩, hd2, hL5, k5⟩
                · have h1 : isD (pk s (d + 1)) = true := by
                    rw [fracB] at hf
                    simp only [Bool.and_eq_true] at hf
                    exact hf.2
                  have h2 : d + 1 < s.size := by
                    by_cases e : d + 1 < s.size
                    · exact e
                    · rw [pk_out s _ e] at h1; simp [isD] at h1
                  have HF : Hid (fracB s d = true) := hf
                  have c2 := hL5.c2
                  have f2 := hL5.f2
                  clear h1
                  go_wp2_with fail
                  refine (skip_any b fi s (d + 1) h _ hs (by omega) (hL5.set _)).mono ?_
                  rintro e w6 ⟨rfl, f, hf1, hf2, hL6, k6⟩
                  go_wp2
                  go_meet
                  exact ⟨f, 3, rfl, Or.inl ⟨HF.out, rfl, hf1⟩, hf2, hL6, (k5.setCell (Or.inl rfl) _).trans k6 (fun _ _ t => t)⟩
            case rest =>
              obtain ⟨f, kf, rfl, hFr, hfs, hL6, k6⟩ := hcut
              clear hL5 k5
              go_wp2_with fail
              refine (peek0 b fi s f h wc hs hfs hL6).mono ?_
              rintro e w7 ⟨rfl, m7, rfl⟩
              have hL7 := hL6.drewN m7
              have k7 := k6.drewN m7
              obtain ⟨w7, hw7⟩ : ∃ w7, w7 = wc.drewN m7 := ⟨_, rfl⟩
              rw [← hw7] at hL7 k7 ⊢
              clear hw7 hL6 k6
              go_upto_region 16 with fail
              go_cut [142] (fun s142 wx => s142 = .bool (eB (pk s f)) ∧ w7 = wx)
              case first =>
                as_aux_lemma =>
                  by_cases h1 : pk s f = 101
                  · have h1b : (pk s f == 101) = true := by simp [h1]
                    have HS : Hid (eB (pk s f) = true) := by show eB (pk s f) = _; rw [eB, h1b]; rfl
                    clear h1
                    go_wp2
                    go_meet
                    exact ⟨by rw [HS.out], rfl⟩
                  · have h1b : (pk s f == 101) = false := by simp [h1]
                    have HS : Hid (eB (pk s f) = (pk s f == 69)) := by show eB (pk s f) = _; rw [eB, h1b]; rfl
                    clear h1
                    go_wp2
                    go_meet
                    exact ⟨by rw [HS.out], rfl⟩
              case rest =>
                obtain ⟨rfl, rfl⟩ := hcut
                have fin : ∀ k en, Ex s f kf en k → Num s off k en := fun k en hE => Or.inr ⟨by rw [HO.out]; exact HX.out, d, f, kf, by rw [HO.out]; exact hd1, hFr, hE⟩
                have Fin : Hid (∀ k en, Ex s f kf en k → Num s off k en) := fin
                clear fin hFr hd1
                cases he : eB (pk s f)
                · have HE : Hid (expB s f = false) := by show expB s f = false; rw [expB, he]; rfl
                  clear he
                  go_wp2
                  go_ret
                  exact ⟨kf, f, rfl, Fin.out _ _ (Or.inr ⟨HE.out, rfl, rfl⟩), hfs, hL7, k7⟩
                · have HE : Hid (expB s f = isD (pk s (f + expm s f))) := by show expB s f = _; rw [expB, he]; rfl
                  clear he
                  go_wp2_with fail
                  refine (peek1 b fi s f h w7 hs hfs hL7).mono ?_
                  rintro e w8 ⟨rfl, m8, rfl⟩
                  have hL8 := hL7.drewN m8
                  have k8 := k7.drewN m8
                  obtain ⟨w8, hw8⟩ : ∃ w8, w8 = w7.drewN m8 := ⟨_, rfl⟩
                  rw [← hw8] at hL8 k8 ⊢
                  clear hw8 hL7 k7
                  go_upto_region 19 with fail
                  go_cut [152] (fun s152 wx => s152 = .bool (sgn (pk s (f + 1))) ∧ w8 = wx)
                  case first =>
                    as_aux_lemma =>
                      by_cases h1 : pk s (f + 1) = 43
                      · have h1b : (pk s (f + 1) == 43) = true := by simp [h1]
                        have HS : Hid (sgn (pk s (f + 1)) = true) := by show sgn (pk s (f + 1)) = _; rw [sgn, h1b]; rfl
                        clear h1
                        go_wp2
                        go_meet
                        exact ⟨by rw [HS.out], rfl⟩
                      · have h1b : (pk s (f + 1) == 43) = false := by simp [h1]
                        have HS : Hid (sgn (pk s (f + 1)) = (pk s (f + 1) == 45)) := by show sgn (pk s (f + 1)) = _; rw [sgn, h1b]; rfl
                        clear h1
                        go_wp2
                        go_meet
                        exact ⟨by rw [HS.out], rfl⟩
                  case rest =>
                    obtain ⟨rfl, rfl⟩ := hcut
                    cases hg : sgn (pk s (f + 1))
                    · as_aux_lemma =>
                        have hm : expm s f = 1 := by rw [expm, hg]; rfl
                        have HM : Hid (expm s f = 1) := hm
                        rw [hm] at HE
                        clear hm hg
                        go_wp2_with fail
                        refine (peek1 b fi s f h w8 hs hfs hL8).mono ?_
                        rintro e w9 ⟨rfl, m9, rfl⟩
                        have hL9 := hL8.drewN m9
                        have k9 := k8.drewN m9
                        obtain ⟨w9, hw9⟩ : ∃ w9, w9 = w8.drewN m9 := ⟨_, rfl⟩
                        rw [← hw9] at hL9 k9 ⊢
                        clear hw9 hL8 k8
                        go_wp2_with fail
                        refine (isD_any _ _).mono ?_
                        rintro e w10 ⟨rfl, hw⟩
                        obtain rfl := hw.symm
                        cases hdg : isD (pk s (f + 1))
                        · have HE2 : Hid (expB s f = false) := by show expB s f = false; rw [HE.out, hdg]
                          clear HE hdg
                          go_wp2
                          go_ret
                          exact ⟨kf, f, rfl, Fin.out _ _ (Or.inr ⟨HE2.out, rfl, rfl⟩), hfs, hL9, k9⟩
                        · have HE2 : Hid (expB s f = true) := by show expB s f = true; rw [HE.out, hdg]
                          have h2 : f + 1 < s.size := by
                            by_cases e : f + 1 < s.size
                            · exact e
                            · rw [pk_out s _ e] at hdg; simp [isD] at hdg
                          have c2 := hL9.c2
                          have f2 := hL9.f2
                          clear HE hdg
                          go_wp2_with fail
                          refine (skip_any b fi s (f + 1) h _ hs (by omega) (hL9.set _)).mono ?_
                          rintro e w11 ⟨rfl, en, he1, he2, hL11, k11⟩
                          go_wp2
                          go_ret
                          exact ⟨3, en, rfl, Fin.out _ _ (Or.inl ⟨HE2.out, rfl, by rw [HM.out]; exact he1⟩), he2, hL11, (k9.setCell (Or.inl rfl) _).trans k11 (fun _ _ t => t)⟩
                    · as_aux_lemma =>
                        have hm : expm s f = 2 := by rw [expm, hg]; rfl
                        have HM : Hid (expm s f = 2) := hm
                        rw [hm] at HE
                        clear hm hg
                        go_wp2_with fail
                        refine (peek2 b fi s f h w8 hs hfs hL8).mono ?_
                        rintro e w9 ⟨rfl, m9, rfl⟩
                        have hL9 := hL8.drewN m9
                        have k9 := k8.drewN m9
                        obtain ⟨w9, hw9⟩ : ∃ w9, w9 = w8.drewN m9 := ⟨_, rfl⟩
                        rw [← hw9] at hL9 k9 ⊢
                        clear hw9 hL8 k8
                        go_wp2_with fail
                        refine (isD_any _ _).mono ?_
                        rintro e w10 ⟨rfl, hw⟩
                        obtain rfl := hw.symm
                        cases hdg : isD (pk s (f + 2))
                        · have HE2 : Hid (expB s f = false) := by show expB s f = false; rw [HE.out, hdg]
                          clear HE hdg
                          go_wp2
                          go_ret
                          exact ⟨kf, f, rfl, Fin.out _ _ (Or.inr ⟨HE2.out, rfl, rfl⟩), hfs, hL9, k9⟩
                        · have HE2 : Hid (expB s f = true) := by show expB s f = true; rw [HE.out, hdg]
                          have h2 : f + 2 < s.size := by
                            by_cases e : f + 2 < s.size
                            · exact e
                            · rw [pk_out s _ e] at hdg; simp [isD] at hdg
                          have c2 := hL9.c2
                          have f2 := hL9.f2
                          clear HE hdg
                          go_wp2_with fail
                          refine (skip_any b fi s (f + 2) h _ hs (by omega) (hL9.set _)).mono ?_
                          rintro e w11 ⟨rfl, en, he1, he2, hL11, k11⟩
                          go_wp2
                          go_ret
                          exact ⟨3, en, rfl, Fin.out _ _ (Or.inl ⟨HE2.out, rfl, by rw [HM.out]; exact he1⟩), he2, hL11, (k9.setCell (Or.inl rfl) _).trans k11 (fun _ _ t => t)⟩
        · -- hex digits
          as_aux_lemma =>
            have h1 : isX (pk s (o + 2)) = true := by
              rw [hexB] at hx
              simp only [Bool.and_eq_true] at hx
              exact hx.2
            have h2 : o + 2 < s.size := by
              by_cases e : o + 2 < s.size
              · exact e
              · rw [pk_out s _ e] at h1; simp [isX, isD] at h1
            have HX : Hid (hexB s o = true ∧ isX (pk s (o + 2)) = true) := ⟨hx, h1⟩
            have c2 := hL3.c2
            have f2 := hL3.f2
            clear hx h1
            go_wp2
            have hL4 : Lx (w3.setCell ⟨b, 2, none⟩ (.int .i64 ((o : Int) + 2))) b fi s ((o + 2 : Nat) : Int) h := hL3.set _
            have k4 : Kept (fun x => x = b) w (w3.setCell ⟨b, 2, none⟩ (.int .i64 ((o : Int) + 2))) := k3.setCell (Or.inl rfl) _
            clear c2 f2
            go_loopg [] (s.size - (o + 2)) (fun g wr => ∃ j : Nat, o + 2 ≤ j ∧ j ≤ s.size ∧ g = s.size - j ∧ (∀ k, o + 2 ≤ k → k < j → isX (pk s k) = true) ∧ Lx wr b fi s j h ∧ Kept (fun k => k = b) w wr)
            case atStart => exact ⟨o + 2, Nat.le_refl _, by omega, rfl, fun k q1 q2 => by omega, hL4, k4⟩
            case round =>
              obtain ⟨j, hij, hj, rfl, hall, hJ, hK⟩ := hrel
              have Hall : Hid (∀ k, o + 2 ≤ k → k < j → isX (pk s k) = true) := hall
              clear hall hL4 k4 hL3 k3
              have c1 := hJ.c1
              have c2 := hJ.c2
              have f2 := hJ.f2
              by_cases hlt : j < s.size
              · have hltz : (j : Int) < (s.size : Int) := by omega
                have HP : Hid (pk s j = (s[j].toNat : Int)) := pk_in s j hlt
                cases hd : isX (s[j].toNat : Int)
                · go_wp2_with fail
                  go_quiet ((go_at_call 17; exact Calls.quiet_of_same (isX_any _ _)))
                  go_wp2
                  go_ret
                  exact ⟨2, j, rfl, Or.inl ⟨by rw [HO.out]; exact HX.out.1, rfl, by rw [HO.out]; exact ⟨hij, Hall.out, by rw [HP.out]; exact hd⟩⟩, hj, hJ.drewN _, hK.drewN _⟩
                · go_wp2_with fail
                  go_quiet ((go_at_call 17; exact Calls.quiet_of_same (isX_any _ _)))
                  go_wp2
                  go_roundg (s.size - (j + 1))
                  case measure => go_light; omega
                  case rel =>
                    go_light
                    refine ⟨j + 1, by omega, by omega, rfl, fun k q1 q2 => ?_, (hJ.drewN _).set _, (hK.drewN _).setCell (Or.inl rfl) _⟩
                    by_cases e : k = j
                    · subst e; rw [HP.out]; exact hd
                    · exact Hall.out k q1 (by omega)
              · have hg : decide ((j : Int) < (s.size : Int)) = false := by simp; omega
                obtain rfl : j = s.size := by omega
                go_wp2_with fail
                go_quiet (fail)
                go_wp2
                go_ret
                exact ⟨2, s.size, rfl, Or.inl ⟨by rw [HO.out]; exact HX.out.1, rfl, by rw [HO.out]; exact ⟨hij, Hall.out, by rw [pk_out s _ (by omega)]; decide⟩⟩, hj, hJ.drewN _, hK.drewN _⟩
end Go.Proofs.Qxb6617237a
