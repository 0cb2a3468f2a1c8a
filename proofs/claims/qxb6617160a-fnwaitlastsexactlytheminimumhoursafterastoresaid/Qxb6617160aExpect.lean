/-
  SEAT b6617160a: expectChanges.
-/
import Derived.Test.Qxb6617160aGuards
import Derived.Test.Qxb6617160aPlain
namespace Go.Proofs.Qxb6617160a
open Go.RowKit Go.Deep
set_option linter.unusedVariables false
attribute [local go_sem] eq23

/-- The device's ID that slot (r, p) asks for. -/
def idOf (I : Nat → Int) (S : Nat → Nat → Int) (r p : Nat) : Int := IntKind.u16.wrap (I (S r p).toNat)

theorem cloned_congr {t : TypeId} {w wr : World} {n : Nat} {f g : Nat → Value} (h : Cloned t w wr n f) (e : ∀ i, i < n → f i = g i) : Cloned t w wr n g := ⟨h.kept, h.size, h.row.congr e⟩
theorem cloned_set {t : TypeId} {w wr : World} {n : Nat} {f : Nat → Value} (h : Cloned t w wr n f) (i : Nat) (v : Value) : Cloned t w (wr.setCell ⟨w.heap.size, i, none⟩ v) n (fun j => if j = i then v else f j) :=
  ⟨h.kept.setCell (Or.inr (Nat.le_refl _)) _, by simp [h.size], h.row.set i _⟩
theorem cloned_made (w : World) (t : TypeId) (n : Nat) (z : Value) : Cloned t w (w.alloc (.cells (madeCells #[z] n) t)) n (fun _ => z) :=
  ⟨(Kept.refl _ _).alloc _, by simp, World.rowIs_made w z n t⟩

set_option maxHeartbeats 1600000 in
set_option maxRecDepth 1000000 in
theorem expect_any (P : Nat) (hP : P ≤ 65536) (ai at' am aS : Option Addr) (ni ci nt ct nm nS cS : Nat) (ib io tb tg sb sg : Nat) (tA sA : Nat → Option Addr) (tL tC tRB tRO sL sC sRB sRO : Nat → Nat) (I : Nat → Int) (T S : Nat → Nat → Int) (w : World)
    (hs : nS ≤ 43690) (hsh : Shape P ni nt nm nS at' am tL sL S) (hni : ni ≤ 131072) (hnt : nt ≤ 43690)
    (hI : RowV .i64 w ai ni ib io I) (hT : MatV .u16 w at' nt tb tg tA tL tC tRB tRO T) (hS : MatV .i32 w aS nS sb sg sA sL sC sRB sRO S) :
    Calls Try.prog 15 #[.int .i64 P, .slice ai ni ci, .slice at' nt ct, .slice aS nS cS] w fun e w' =>
      e = .returned (.tuple #[.int .i64 (cAll (cn at'.isNone T (idOf I S)) sL nS), .slice (some ⟨w.heap.size, 0, none⟩) P P]) ∧ Cloned 4 w w' P (fun q => .bool (fl (ch at'.isNone T (idOf I S)) sL nS q)) := by
  have hmk := run_make_row' (P := Try.prog) 26 4 (.bool false) 1 Try.underlying26 Try.info4 rfl .i64 .i64 P (by omega) (by omega)
  go_enter Try.func15, Try.ntmps15
  go_wp2
  clear hmk
  go_loopg [11, 12] nS (fun g c i wr => ∃ r : Nat, r ≤ nS ∧ g = nS - r ∧ i = .int .i64 r ∧ c = .int .i64 (cAll (cn at'.isNone T (idOf I S)) sL r) ∧ Cloned 4 w wr P (fun q => .bool (fl (ch at'.isNone T (idOf I S)) sL r q)))
  case atStart => exact ⟨0, Nat.zero_le _, rfl, rfl, rfl, cloned_congr (cloned_made w 4 P _) (fun i _ => by simp [fl])⟩
  case round =>
    obtain ⟨r, hr, rfl, rfl, rfl, hC⟩ := hrel
    have hca := cAll_le (cn at'.isNone T (idOf I S)) sL P r (fun j hj => hsh.len j (by omega)) hP
    by_cases hlt : r < nS
    · obtain rfl := hS.ha (by omega)
      have hltz : (r : Int) < (nS : Int) := by omega
      have hsl := hsh.len r hlt
      obtain ⟨y, hy⟩ : ∃ y, y = sA r := ⟨_, rfl⟩
      have Hy : Hid (y = sA r) := hy
      clear hy
      generalize hcc : cAll (cn at'.isNone T (idOf I S)) sL r = cc at hca ⊢
      have Hcc : Hid (cAll (cn at'.isNone T (idOf I S)) sL r = cc) := hcc
      clear hcc
      go_wp2
      go_loopg [11, 13] (sL r) (fun g c i wi => ∃ q : Nat, q ≤ sL r ∧ g = sL r - q ∧ i = .int .i64 q ∧ c = .int .i64 (cc + cRow (cn at'.isNone T (idOf I S)) r q : Nat) ∧ Cloned 4 w wi P (fun t => .bool (flp (ch at'.isNone T (idOf I S)) sL r q t)))
      case atStart => exact ⟨0, Nat.zero_le _, rfl, rfl, by simp [cRow], cloned_congr hC (fun i _ => by rw [flp_zero])⟩
      case round =>
        obtain ⟨q, hq, rfl, rfl, rfl, hD⟩ := hrel
        clear hC
        have hcr := cRow_le (cn at'.isNone T (idOf I S)) r q
        generalize hcc : cRow (cn at'.isNone T (idOf I S)) r q = dd at hcr ⊢
        have Hdd : Hid (cRow (cn at'.isNone T (idOf I S)) r q = dd) := hcc
        clear hcc
        have g0 : wr.cell? ⟨sb, sg + r, none⟩ = some (.slice y (sL r) (sC r)) := by rw [Hy.out]; exact hD.kept.cellv (hS.row r hlt) (fun h => h)
        by_cases hlq : q < sL r
        · obtain ⟨e1, e2⟩ := hS.cel r hlt q hlq
          obtain rfl : y = some ⟨sRB r, sRO r, none⟩ := Hy.out.trans e1
          clear e1
          have hlqz : (q : Int) < (sL r : Int) := by omega
          obtain ⟨b1, b2⟩ := hsh.idx r hlt q hlq
          obtain ⟨s, hs1⟩ : ∃ s : Nat, S r q = s := ⟨(S r q).toNat, by omega⟩
          rw [hs1] at e2 b2
          have HD : Hid (idOf I S r q = IntKind.u16.wrap (I s)) := by show idOf I S r q = _; rw [idOf, hs1]; simp
          have c2 : wr.cell? ⟨sRB r, sRO r + q, none⟩ = some (.int .i32 s) := hD.kept.cellv e2 (fun h => h)
          clear e2 b1 hs1
          obtain rfl := hI.ha (by omega)
          have c3 : wr.cell? ⟨ib, io + s, none⟩ = some (.int .i64 (I s)) := hD.kept.cellv (hI.cel s (by omega)) (fun h => h)
          cases at' with
          | none =>
            go_wp2
            go_roundg (sL r - (q + 1))
            case measure => go_light; omega
            case rel => go_light; exact ⟨q + 1, by omega, rfl, by simp, by rw [cRow_yes (by simp [cn]), Hdd.out]; go_num, cloned_congr hD (fun i _ => by rw [flp_no (by simp [ch])])⟩
          | some z =>
            have hr2 := hsh.rows (by simp)
            have hr3 := hsh.tab (by simp) r (by omega)
            have hr4 := hT.ha (by omega)
            obtain rfl : z = ⟨tb, tg, none⟩ := by simpa using hr4
            clear hr4
            obtain ⟨f1, f2⟩ := hT.cel r (by omega) q (by omega)
            have c4 : wr.cell? ⟨tb, tg + r, none⟩ = some (.slice (some ⟨tRB r, tRO r, none⟩) (tL r) (tC r)) := by rw [← f1]; exact hD.kept.cellv (hT.row r (by omega)) (fun h => h)
            have c5 : wr.cell? ⟨tRB r, tRO r + q, none⟩ = some (.int .u16 (T r q)) := hD.kept.cellv f2 (fun h => h)
            clear f1 f2
            have hr5 : (q : Int) < (tL r : Int) := by omega
            have hr6 : (r : Int) < (nt : Int) := by omega
            have HT3 : Hid (tL r = P) := hr3
            clear hr3
            by_cases hd : T r q = IntKind.u16.wrap (I s)
            · have hdb : (T r q != IntKind.u16.wrap (I s)) = false := by simp [hd]
              have Hch : Hid ((T r q != idOf I S r q) = false) := by rw [HD.out]; exact hdb
              clear hd
              go_wp2
              go_roundg (sL r - (q + 1))
              case measure => go_light; omega
              case rel => go_light; exact ⟨q + 1, by omega, rfl, by simp, by rw [cRow_no (by rw [cn, Hch.out]; rfl), Hdd.out], cloned_congr hD (fun i _ => by rw [flp_no (by rw [ch, Hch.out]; rfl)])⟩
            · have hdb : (T r q != IntKind.u16.wrap (I s)) = true := by simp [hd]
              have Hch : Hid ((T r q != idOf I S r q) = true) := by rw [HD.out]; exact hdb
              clear hd
              have hqP : (q : Int) < (P : Int) := by omega
              obtain ⟨v0, k1⟩ : ∃ v, wr.cell? ⟨w.heap.size, q, none⟩ = some v := ⟨_, hD.row.cell (by omega)⟩
              have k2 : wr.frozen? ⟨w.heap.size, q, none⟩ = false := hD.row.frozen q
              go_wp2
              go_roundg (sL r - (q + 1))
              case measure => go_light; omega
              case rel => go_light; exact ⟨q + 1, by omega, rfl, by simp, by rw [cRow_yes (by rw [cn, Hch.out]; rfl), Hdd.out]; go_num, cloned_congr (cloned_set hD q _) (fun i _ => by rw [flp_yes (by rw [ch, Hch.out]; rfl)]; split <;> rfl)⟩
        · have hlqz : ¬ ((q : Int) < (sL r : Int)) := by omega
          go_wp2
          go_roundg (nS - (r + 1))
          case measure => go_light; omega
          case rel => go_light; exact ⟨r + 1, by omega, rfl, by simp, by
            obtain rfl : q = sL r := by omega
            rw [← Hcc.out, ← Hdd.out]; rfl, cloned_congr hD (fun i _ => by
            obtain rfl : q = sL r := by omega
            rw [flp_end])⟩
    · have hltz : ¬ ((r : Int) < (nS : Int)) := by omega
      go_wp2
      go_ret2
      obtain rfl : r = nS := by omega
      exact ⟨rfl, hC⟩
end Go.Proofs.Qxb6617160a
