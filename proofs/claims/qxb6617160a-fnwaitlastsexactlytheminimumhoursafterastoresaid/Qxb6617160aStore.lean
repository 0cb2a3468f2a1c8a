/-
  SEAT b6617160a: store: THE WALK.
-/
import Derived.Test.Qxb6617160aStoreKit
import Derived.Deep.RegionWith
namespace Go.Proofs.Qxb6617160a
open Go.RowKit Go.Deep
set_option linter.unusedVariables false
attribute [local go_sem] eq23 eq24 ne26

/-- WHAT store LEAVES: the count; and the builder, its times, its table, the held flags. -/
def Stored (Sw : Nat → Prop) (w : World) (b hb : Nat) (at' ah am : Option Addr) (pp h now : Int) (vd : Value) (nS P nm : Nat) (I M : Nat → Int) (T S : Nat → Nat → Int) (H : Nat → Bool) (L : Nat → Nat) (e : Ending) (w' : World) : Prop :=
  ∃ mb tb RT G, e = .returned (.int .i64 (cAll (cn at'.isNone T (idOf I S)) L nS)) ∧
    At Sw w w' b mb tb hb ah.isSome pp h now vd RT P G (lmTo (mvOf nm M) now h P) (idOf I S) (tOld at'.isNone T) H (ch at'.isNone T (idOf I S)) L nS 0

set_option maxHeartbeats 1600000 in
set_option maxRecDepth 1000000 in
theorem store_26 (b mb0 tb0 hb db : Nat) (pp h now : Int) (P : Nat) (dao am at' ah aS : Option Addr) (ni nm nt nS cS nH : Nat) (G0 : Nat → Nat) (I M : Nat → Int) (T : Nat → Nat → Int) (H : Nat → Bool)
    (sb sg : Nat) (sA : Nat → Option Addr) (sL sC sRB sRO : Nat → Nat) (S : Nat → Nat → Int) (Sw : Nat → Prop) (w : World)
    (h0 : 0 ≤ pp) (h1 : pp ≤ 16) (hP : wrap64 (2 ^ pp.toNat) = (P : Int)) (hP2 : P ≤ 65536) (hni : ni ≤ 131072) (hnt : nt ≤ 43690) (hnS : nS ≤ 43690)
    (hbl : Bld w b pp h (.slice dao ni ni) (.slice at' nt nt) (.slice am nm nm))
    (hdev : 0 < ni → dao = some ⟨db, 0, none⟩) (hids : ∀ i, i < ni → w.cell? ⟨db, i * 10, none⟩ = some (.int .i64 (I i)))
    (hm : (am = none ∧ nm = 0) ∨ (am = some ⟨mb0, 0, none⟩ ∧ nm = P ∧ w.rowIs mb0 2 P (fun p => .int .i64 (M p)) ∧ Sw mb0))
    (ht : (at' = none ∧ nt = 0) ∨ (at' = some ⟨tb0, 0, none⟩ ∧ nS ≤ nt ∧ Tab w tb0 nt P G0 T ∧ ∀ r, r < nt → Sw (G0 r)))
    (hh : ah = none ∨ (ah = some ⟨hb, 0, none⟩ ∧ nH = P ∧ w.rowIs hb 4 P (fun p => .bool (H p)) ∧ Sw hb))
    (hS : MatV .i32 w aS nS sb sg sA sL sC sRB sRO S) (hlen : ∀ r, r < nS → sL r ≤ P) (hidx : ∀ r, r < nS → ∀ p, p < sL r → 0 ≤ S r p ∧ S r p < ni)
    (hwb : Sw b) (hwd : 0 < ni → ¬ Sw db) (hws : 0 < nS → ¬ Sw sb) (hwr : ∀ r, r < nS → 0 < sL r → ¬ Sw (sRB r)) :
    Calls Try.prog 26 #[.pointer (some ⟨b, 0, none⟩), .slice aS nS cS, .int .i64 now, .slice ah nH nH] w fun e w' => Stored Sw w b hb at' ah am pp h now (.slice dao ni ni) nS P nm I M T S H sL e w' := by
  have hmw : am.isSome = true → (∃ f, w.rowIs mb0 2 P f) ∧ Sw mb0 := fun ha => by
    rcases hm with ⟨rfl, rfl⟩ | ⟨rfl, rfl, hm1, hm2⟩
    · simp at ha
    · exact ⟨⟨_, hm1⟩, hm2⟩
  have hH : ah.isSome = true → w.rowIs hb 4 P (fun p => .bool (H p)) ∧ Sw hb := fun ha => by
    rcases hh with rfl | ⟨rfl, hm0, hm1, hm2⟩
    · simp at ha
    · exact ⟨hm1, hm2⟩
  have Hmw : Hid (am.isSome = true → (∃ f, w.rowIs mb0 2 P f) ∧ Sw mb0) := hmw
  have HH : Hid (ah.isSome = true → w.rowIs hb 4 P (fun p => .bool (H p)) ∧ Sw hb) := hH
  clear hmw hH
  have g8 := hbl.c8
  have g0 := hbl.c0
  have gf := hbl.frozen 8
  have gb := hbl.lt
  have g8a : ∀ o, (w.alloc o).cell? ⟨b, 8, none⟩ = some (.slice am nm nm) := fun o => (hbl.alloc o).c8
  have gfa : ∀ o, (w.alloc o).frozen? ⟨b, 8, none⟩ = false := fun o => (hbl.alloc o).frozen 8
  have hmk := run_make_row' (P := Try.prog) 24 2 (.int .i64 0) 8 Try.underlying24 Try.info2 rfl .i64 .i64 P (by omega) (by omega)
  go_enter Try.func26, Try.ntmps26
  go_upto_if 23 with fail
  go_cut [] (fun wx => ∃ mb, StB w wx b mb0 mb am pp h (.slice dao ni ni) (.slice at' nt nt) P (mvOf nm M))
  case first =>
    rcases hm with ⟨rfl, rfl⟩ | ⟨rfl, rfl, hm1, hm2⟩
    · go_wp2_with (go_at_call 29; refine (parts_any _ _ P _ h0 h1 hP g0).mono ?_; rintro e w' ⟨rfl, rfl⟩)
      go_meet
      exact ⟨_, stB_made P hbl rfl⟩
    · go_wp2
      go_meet
      exact ⟨mb0, stB_had hbl rfl hm1 rfl⟩
  case rest =>
    obtain ⟨mb, hB0⟩ := hcut
    clear g8 g0 gf g8a gfa hmk
    have g8 := hB0.bld.c8
    go_wp2
    clear g8
    go_loopg [35] P (fun g i wr => ∃ k : Nat, k ≤ P ∧ g = P - k ∧ i = .int .i64 k ∧ StB w wr b mb0 mb am pp h (.slice dao ni ni) (.slice at' nt nt) P (lmTo (mvOf nm M) now h k))
    case atStart => exact ⟨0, Nat.zero_le _, rfl, rfl, by rw [lmTo_zero]; exact hB0⟩
    case round =>
      obtain ⟨k, hk, rfl, rfl, hB⟩ := hrel
      clear hB0
      by_cases hlt : k < P
      · have hltz : (k : Int) < (P : Int) := by omega
        have g8 := hB.bld.c8
        have g2 := hB.bld.c2
        have g9 : wr.cell? ⟨mb, k, none⟩ = some (.int .i64 (mvOf nm M k)) := by rw [hB.mov.cell hlt]; simp [lmTo]
        have gf : wr.frozen? ⟨mb, k, none⟩ = false := hB.mov.frozen k
        have hc := lm_any b mb 0 P P k (mvOf nm M k) now h wr.drew hlt hP2 g8 g2 (by rw [Nat.zero_add]; exact g9)
        go_wp2_with fail
        go_region_with (go_at_call 28; refine hc.mono ?_; rintro e w' ⟨rfl, rfl⟩)
        all_goals
          go_wp2
          go_roundg (P - (k + 1))
          case measure => go_light; omega
          case rel => go_light; exact ⟨k + 1, by omega, rfl, by simp, stB_step hB⟩
      · have hltz : ¬ ((k : Int) < (P : Int)) := by omega
        obtain rfl : k = P := by omega
        have g7 := hB.bld.c7
        go_upto_if 54 with fail
        go_cut [] (fun wx => ∃ (tb RT : Nat) (G : Nat → Nat), nS ≤ RT ∧ SD Sw w wx b mb tb hb ah.isSome pp h (.slice dao ni ni) RT k G (lmTo (mvOf nm M) now h k) (tOld at'.isNone T) H)
        case first =>
          rcases ht with ⟨rfl, rfl⟩ | ⟨rfl, ht1, ht2, ht3⟩
          · obtain ⟨w1, rfl⟩ : ∃ w1 : World, w1 = wr := ⟨_, rfl⟩
            have gf := hB.bld.frozen 7
            have gb1 := hB.bld.lt
            have hmk := run_make_row' (P := Try.prog) 23 41 (.slice none 0 0) 24 Try.underlying23 Try.info41 rfl .i64 .i64 nS (by omega) (by omega)
            have g7a : ∀ o, (w1.alloc o).cell? ⟨b, 7, none⟩ = some (.slice none 0 0) := fun o => (hB.bld.alloc o).c7
            have gfa : ∀ o, (w1.alloc o).frozen? ⟨b, 7, none⟩ = false := fun o => (hB.bld.alloc o).frozen 7
            go_wp2
            have hC0 := sC_start nS hB.bld hB.mov
            clear hmk g7a gfa gf g7
            have hmk2 := run_make_row' (P := Try.prog) 41 42 (.int .u16 0) 2 Try.underlying41 Try.info42 rfl .i64 .i64 k (by omega) (by omega)
            go_loopg [66] nS (fun g i wx => ∃ r : Nat, r ≤ nS ∧ g = nS - r ∧ i = .int .i64 r ∧ SC w1 wx b mb pp h (.slice dao ni ni) nS r k (lmTo (mvOf nm M) now h k))
            case atStart => exact ⟨0, Nat.zero_le _, rfl, rfl, hC0⟩
            case round =>
              obtain ⟨r, hr, rfl, rfl, hC⟩ := hrel
              clear hC0
              by_cases hlr : r < nS
              · have hlrz : (r : Int) < (nS : Int) := by omega
                have g7 := hC.bld.c7
                have g0 := hC.bld.c0
                have gz := hC.size
                have gz2 : w1.heap.size < wr.heap.size := by omega
                obtain ⟨v0, gt⟩ : ∃ v, wr.cell? ⟨w1.heap.size, r, none⟩ = some v := ⟨_, hC.top.cell hlr⟩
                have gf : wr.frozen? ⟨w1.heap.size, r, none⟩ = false := hC.top.frozen r
                have gta : ∀ o, (wr.alloc o).cell? ⟨w1.heap.size, r, none⟩ = some v0 := fun o => by rw [World.cell?_alloc_old _ _ _ (by show w1.heap.size ≠ wr.heap.size; omega)]; exact gt
                have gfa : ∀ o, (wr.alloc o).frozen? ⟨w1.heap.size, r, none⟩ = false := fun o => (hC.top.alloc o).frozen r
                have g7a : ∀ o, (wr.alloc o).cell? ⟨b, 7, none⟩ = some (.slice (some ⟨w1.heap.size, 0, none⟩) nS nS) := fun o => (hC.bld.alloc o).c7
                have hc := parts_any b pp k wr.drew h0 h1 hP g0
                go_wp2_with fail
                go_region_with (go_at_call 29; refine hc.mono ?_; rintro e w' ⟨rfl, rfl⟩)
                all_goals
                  go_wp2
                  go_roundg (nS - (r + 1))
                  case measure => go_light; omega
                  case rel => go_light; exact ⟨r + 1, by omega, rfl, by simp, sC_step2 hC⟩
              · have hlrz : ¬ ((r : Int) < (nS : Int)) := by omega
                obtain rfl : r = nS := by omega
                go_wp2
                go_meet
                exact ⟨w1.heap.size, r, _, Nat.le_refl _, sD_made hB hC hbl.row Hmw.out hwb HH.out⟩
          · go_wp2
            go_meet
            exact ⟨tb0, nt, G0, ht1, sD_had hB hbl.row Hmw.out hwb ht2 ht3 HH.out⟩
        case rest =>
          obtain ⟨tb, RT, G, hRT, hD0⟩ := hcut
          have hA0 : At Sw w wc b mb tb hb ah.isSome pp h now (.slice dao ni ni) RT k G (lmTo (mvOf nm M) now h k) (idOf I S) (tOld at'.isNone T) H (ch at'.isNone T (idOf I S)) sL 0 0 := at_start hD0
          clear hB g7 hD0
          go_wp2
          go_loopg [12, 81] nS (fun g c i wx => ∃ r : Nat, r ≤ nS ∧ g = nS - r ∧ i = .int .i64 r ∧ c = .int .i64 (cAll (cn at'.isNone T (idOf I S)) sL r) ∧
            At Sw w wx b mb tb hb ah.isSome pp h now (.slice dao ni ni) RT k G (lmTo (mvOf nm M) now h k) (idOf I S) (tOld at'.isNone T) H (ch at'.isNone T (idOf I S)) sL r 0)
          case atStart => exact ⟨0, Nat.zero_le _, rfl, rfl, rfl, hA0⟩
          case round =>
            obtain ⟨r, hr, rfl, rfl, rfl, hA⟩ := hrel
            clear hA0
            have hca := cAll_le (cn at'.isNone T (idOf I S)) sL k r (fun j hj => hlen j (by omega)) hP2
            by_cases hlr : r < nS
            · obtain rfl := hS.ha (by omega)
              have hlrz : (r : Int) < (nS : Int) := by omega
              have hrz2 : (r : Int) < (RT : Int) := by omega
              have hsl := hlen r hlr
              have kept0 := SD.kept hA
              obtain ⟨y, hy⟩ : ∃ y, y = sA r := ⟨_, rfl⟩
              have Hy : Hid (y = sA r) := hy
              have q0 : wr.cell? ⟨sb, sg + r, none⟩ = some (.slice y (sL r) (sC r)) := by rw [hy]; exact (SD.kept hA).cellv (hS.row r hlr) (hws (by omega))
              clear hy
              have q7 := (SD.bld hA).c7
              have q8 : wr.cell? ⟨tb, r, none⟩ = some (.slice (some ⟨G r, 0, none⟩) k k) := (SD.tab hA).top.cell (by omega)
              generalize hcc : cAll (cn at'.isNone T (idOf I S)) sL r = cc at hca ⊢
              have Hcc : Hid (cAll (cn at'.isNone T (idOf I S)) sL r = cc) := hcc
              clear hcc
              go_wp2
              clear q0 q7 q8 kept0
              go_loopg [12, 95] (sL r) (fun g c i wx => ∃ q : Nat, q ≤ sL r ∧ g = sL r - q ∧ i = .int .i64 q ∧ c = .int .i64 (cc + cRow (cn at'.isNone T (idOf I S)) r q : Nat) ∧
                At Sw w wx b mb tb hb ah.isSome pp h now (.slice dao ni ni) RT k G (lmTo (mvOf nm M) now h k) (idOf I S) (tOld at'.isNone T) H (ch at'.isNone T (idOf I S)) sL r q)
              case atStart => exact ⟨0, Nat.zero_le _, rfl, rfl, by simp [cRow], hA⟩
              case round =>
                obtain ⟨q, hq, rfl, rfl, rfl, hE⟩ := hrel
                clear hA
                have hcr := cRow_le (cn at'.isNone T (idOf I S)) r q
                generalize hcc : cRow (cn at'.isNone T (idOf I S)) r q = dd at hcr ⊢
                have Hdd : Hid (cRow (cn at'.isNone T (idOf I S)) r q = dd) := hcc
                clear hcc
                by_cases hlq : q < sL r
                · obtain ⟨e1, e2⟩ := hS.cel r hlr q hlq
                  obtain rfl : y = some ⟨sRB r, sRO r, none⟩ := Hy.out.trans e1
                  clear e1
                  have hlqz : (q : Int) < (sL r : Int) := by omega
                  have hqk : (q : Int) < (k : Int) := by omega
                  obtain ⟨b1, b2⟩ := hidx r hlr q hlq
                  obtain ⟨s, hs1⟩ : ∃ s : Nat, S r q = s := ⟨(S r q).toNat, by omega⟩
                  rw [hs1] at e2 b2
                  have HD : Hid (IntKind.u16.wrap (I s) = idOf I S r q) := by show _ = idOf I S r q; rw [idOf, hs1]; simp
                  have c2 : wr.cell? ⟨sRB r, sRO r + q, none⟩ = some (.int .i32 s) := (SD.kept hE).cellv e2 (hwr r hlr (by omega))
                  clear e2 b1 hs1
                  obtain rfl := hdev (by omega)
                  have c3 := (SD.bld hE).c3
                  have c4 : wr.cell? ⟨db, s * 10, none⟩ = some (.int .i64 (I s)) := (SD.kept hE).cellv (hids s (by omega)) (hwd (by omega))
                  have c5 : wr.cell? ⟨G r, q, none⟩ = some (.int .u16 (tOld at'.isNone T r q)) := by rw [((SD.tab hE).rows r (by omega)).cell (by omega), tabAt_here]
                  have f5 : wr.frozen? ⟨G r, q, none⟩ = false := ((SD.tab hE).rows r (by omega)).frozen q
                  have Hl : Hid ((∀ r, r < nS → sL r ≤ k) ∧ (∀ r, r < nS → ∀ p, p < sL r → 0 ≤ S r p ∧ S r p < ni) ∧ (∀ i, i < ni → w.cell? ⟨db, i * 10, none⟩ = some (.int .i64 (I i)))) := ⟨hlen, hidx, hids⟩
                  clear hlen hidx hids
                  cases at' with
                  | none =>
                    clear ht
                    go_wp2
                    go_roundg (sL r - (q + 1))
                    case measure => go_light; omega
                    case rel => go_light; exact ⟨q + 1, by omega, rfl, by simp, by rw [cRow_yes (by simp [cn]), Hdd.out]; go_num, at_plain hE (by omega) (by simp [ch]) HD.out⟩
                  | some z =>
                    clear ht
                    have c6 : wr.cell? ⟨G r, q, none⟩ = some (.int .u16 (T r q)) := c5
                    clear c5
                    by_cases hd : T r q = IntKind.u16.wrap (I s)
                    · have hdb : (T r q != IntKind.u16.wrap (I s)) = false := by simp [hd]
                      have Hch : Hid ((T r q != idOf I S r q) = false) := by rw [← HD.out]; exact hdb
                      clear hd
                      go_wp2
                      go_roundg (sL r - (q + 1))
                      case measure => go_light; omega
                      case rel => go_light; exact ⟨q + 1, by omega, rfl, by simp, by rw [cRow_no (by rw [cn, Hch.out]; rfl), Hdd.out]; go_num, at_plain hE (by omega) (by rw [ch, Hch.out]; rfl) HD.out⟩
                    · have hdb : (T r q != IntKind.u16.wrap (I s)) = true := by simp [hd]
                      have Hch : Hid ((T r q != idOf I S r q) = true) := by rw [← HD.out]; exact hdb
                      clear hd
                      have c8 := (SD.bld hE).c8
                      obtain ⟨v0, m0⟩ : ∃ v, wr.cell? ⟨mb, q, none⟩ = some v := ⟨_, (SD.mov hE).cell (by omega)⟩
                      have m1 : wr.frozen? ⟨mb, q, none⟩ = false := (SD.mov hE).frozen q
                      have n1 : ¬ mb = G r := rowIs_ne (SD.mov hE) ((SD.tab hE).rows r (by omega)) (by decide)
                      have n2 : ¬ G r = mb := fun e => n1 e.symm
                      rcases hh with rfl | ⟨rfl, hh0, hh1, hh2⟩
                      · go_wp2
                        go_roundg (sL r - (q + 1))
                        case measure => go_light; omega
                        case rel => go_light; exact ⟨q + 1, by omega, rfl, by simp, by rw [cRow_yes (by rw [cn, Hch.out]; rfl), Hdd.out]; go_num, at_flag hE (by omega) (by rw [ch, Hch.out]; rfl) HD.out⟩
                      · subst hh0
                        have hr1 := SD.hel hE rfl
                        obtain ⟨v1, k0⟩ : ∃ v, wr.cell? ⟨hb, q, none⟩ = some v := ⟨_, hr1.cell (by omega)⟩
                        have k1 : wr.frozen? ⟨hb, q, none⟩ = false := hr1.frozen q
                        have n3 : ¬ mb = hb := rowIs_ne (SD.mov hE) hr1 (by decide)
                        have n4 : ¬ hb = mb := fun e => n3 e.symm
                        have n5 : ¬ hb = G r := rowIs_ne hr1 ((SD.tab hE).rows r (by omega)) (by decide)
                        have n6 : ¬ G r = hb := fun e => n5 e.symm
                        clear hr1 hh1
                        go_wp2
                        go_roundg (sL r - (q + 1))
                        case measure => go_light; omega
                        case rel => go_light; exact ⟨q + 1, by omega, rfl, by simp, by rw [cRow_yes (by rw [cn, Hch.out]; rfl), Hdd.out]; go_num, at_held hE (by omega) (by rw [ch, Hch.out]; rfl) HD.out⟩
                · have hlqz : ¬ ((q : Int) < (sL r : Int)) := by omega
                  obtain rfl : q = sL r := by omega
                  go_wp2
                  go_roundg (nS - (r + 1))
                  case measure => go_light; omega
                  case rel => go_light; exact ⟨r + 1, by omega, rfl, by simp, by rw [← Hcc.out, ← Hdd.out]; rfl, at_row hE⟩
            · have hlrz : ¬ ((r : Int) < (nS : Int)) := by omega
              obtain rfl : r = nS := by omega
              go_wp2
              go_ret
              exact ⟨mb, tb, RT, G, rfl, hA⟩

theorem store_any (b mb0 tb0 hb db : Nat) (pp h now : Int) (P : Nat) (dao am at' ah aS : Option Addr) (ni nm nt nS cS nH : Nat) (G0 : Nat → Nat) (I M : Nat → Int) (T : Nat → Nat → Int) (H : Nat → Bool)
    (sb sg : Nat) (sA : Nat → Option Addr) (sL sC sRB sRO : Nat → Nat) (S : Nat → Nat → Int) (Sw : Nat → Prop) (w : World)
    (h0 : 0 ≤ pp) (h1 : pp ≤ 16) (hP : wrap64 (2 ^ pp.toNat) = (P : Int)) (hP2 : P ≤ 65536) (hni : ni ≤ 131072) (hnt : nt ≤ 43690) (hnS : nS ≤ 43690)
    (hbl : Bld w b pp h (.slice dao ni ni) (.slice at' nt nt) (.slice am nm nm))
    (hdev : 0 < ni → dao = some ⟨db, 0, none⟩) (hids : ∀ i, i < ni → w.cell? ⟨db, i * 10, none⟩ = some (.int .i64 (I i)))
    (hm : (am = none ∧ nm = 0) ∨ (am = some ⟨mb0, 0, none⟩ ∧ nm = P ∧ w.rowIs mb0 2 P (fun p => .int .i64 (M p)) ∧ Sw mb0))
    (ht : (at' = none ∧ nt = 0) ∨ (at' = some ⟨tb0, 0, none⟩ ∧ nS ≤ nt ∧ Tab w tb0 nt P G0 T ∧ ∀ r, r < nt → Sw (G0 r)))
    (hh : ah = none ∨ (ah = some ⟨hb, 0, none⟩ ∧ nH = P ∧ w.rowIs hb 4 P (fun p => .bool (H p)) ∧ Sw hb))
    (hS : MatV .i32 w aS nS sb sg sA sL sC sRB sRO S) (hlen : ∀ r, r < nS → sL r ≤ P) (hidx : ∀ r, r < nS → ∀ p, p < sL r → 0 ≤ S r p ∧ S r p < ni)
    (hwb : Sw b) (hwd : 0 < ni → ¬ Sw db) (hws : 0 < nS → ¬ Sw sb) (hwr : ∀ r, r < nS → 0 < sL r → ¬ Sw (sRB r)) :
    Calls Try.prog 18 #[.pointer (some ⟨b, 0, none⟩), .slice aS nS cS, .int .i64 now, .slice ah nH nH] w fun e w' => Stored Sw w b hb at' ah am pp h now (.slice dao ni ni) nS P nm I M T S H sL e w' := by
  go_enter Try.func18, Try.ntmps18
  go_wp2_with (go_at_call 26; refine (store_26 b mb0 tb0 hb db pp h now P dao am at' ah aS ni nm nt nS cS nH G0 I M T H sb sg sA sL sC sRB sRO S Sw w h0 h1 hP hP2 hni hnt hnS hbl hdev hids hm ht hh hS hlen hidx hwb hwd hws hwr).mono ?_; rintro e w' ⟨mb, tb, RT, G, rfl, hA⟩)
  go_ret
  exact ⟨mb, tb, RT, G, rfl, hA⟩
end Go.Proofs.Qxb6617160a
