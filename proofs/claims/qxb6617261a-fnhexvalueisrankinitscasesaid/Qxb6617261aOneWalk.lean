/-
  SEAT b6617261a: THE WALK OF FnIsBlankOneByteInserted.
-/
import Derived.Test.Qxb6617261aSmall
import Derived.WalkSpells
namespace Go.Proofs.Qxb6617261a
open Go.RowKit Go.Deep
set_option linter.unusedVariables false

/-- THE CALL ANSWERS A BOOL. -/
def Ans (e : Ending) : Prop := ∃ b : Bool, e = .returned (.bool b)
theorem Ans.intro (b : Bool) : Ans (.returned (.bool b)) := ⟨b, rfl⟩

theorem bytes12 (s : ByteArray) (i c : Int) (w : World) (h1 : s.size ≤ maxLen) :
    Calls Try.prog 12 #[.string s, .int .i64 i, .int .u8 c] w fun e w' => Ans e ∧ w' = w := by
  unfold maxLen at h1
  go_enter Try.func12, Try.ntmps12
  go_wp2
  all_goals
    go_ret
    exact ⟨.intro _, rfl⟩

theorem blank_append (a b : ByteArray) : blank (a ++ b) = (blank a && blank b) := by simp [blank]

theorem blank_cut (s : ByteArray) (i : Nat) (h : i ≤ s.size) : (blank (s.extract 0 i) && blank (s.extract i s.size)) = blank s := by
  rw [← blank_append]
  congr 1
  apply ByteArray.ext
  have h' : i ≤ s.data.size := h
  simp only [ByteArray.data_append, ByteArray.data_extract]
  show s.data.extract 0 i ++ s.data.extract i s.data.size = s.data
  rw [Array.extract_append_extract]
  simp
  right
  omega

theorem blank_one (c : Int) (h0 : 0 ≤ c) (h1 : c ≤ 255) : blank (strOfNums [c]) = wht c := by
  have e : ((UInt8.ofNat c.toNat).toNat : Int) = c := by
    rw [UInt8.toNat_ofNat_of_lt' (by show c.toNat < 256; omega)]; omega
  unfold blank
  rw [strOfNums_data]
  simp only [List.map_cons, List.map_nil, List.all_cons, List.all_nil, Bool.and_true]
  rw [e]

theorem conv_one (w : World) (c : Int) : (convert 27 9 (.slice (some ⟨w.heap.size, 0, none⟩) 1 1)).run Try.prog (w.alloc (.cells #[.int .u8 c] 5)) = .ok (.string (strOfNums [c])) (w.alloc (.cells #[.int .u8 c] 5)) :=
  run_convert_bytes_arg _ 27 5 Try.underlying27 Try.underlying5 w.heap.size 0 1 1 [c] rfl (fun i hi => by
    obtain rfl : i = 0 := by omega
    simp) 9 Try.underlying9

set_option maxHeartbeats 1600000 in
set_option maxRecDepth 1000000 in
theorem one_walk (s : ByteArray) (ii c : Int) (w1 : s.size ≤ maxLen) (hc0 : 0 ≤ c) (hc1 : c ≤ 255) (w : World) :
    Calls Try.prog 5 #[.string s, .int .i64 ii, .int .u8 c] w fun e w' => e = .returned (.bool true) ∧ Below w.heap.size w w' := by
  go_enter Try.func5, Try.ntmps5
  go_wp2_with fail
  refine (bytes12 s ii c w w1).mono ?_
  rintro e w' ⟨⟨b1, rfl⟩, hw⟩
  obtain rfl := hw.symm
  clear w1
  cases b1
  · go_wp2
    go_ret
    exact ⟨rfl, Below.refl _ _⟩
  by_cases hsz : s.size ≤ 1048576
  case neg =>
    have hq : (1048576 : Int) < (s.size : Int) := by omega
    go_wp2
    go_ret
    exact ⟨rfl, Below.refl _ _⟩
  by_cases ho : 0 ≤ ii ∧ ii ≤ s.size
  case neg =>
    go_wp2_with fail
    all_goals
      go_ret
      exact ⟨rfl, Below.refl _ _⟩
  obtain ⟨o1, o2⟩ := ho
  obtain ⟨i, rfl⟩ : ∃ i : Nat, ii = i := ⟨ii.toNat, by omega⟩
  have hi : i ≤ s.size := by omega
  obtain ⟨o, hO⟩ : ∃ o, strOfNums [c] = o := ⟨_, rfl⟩
  have hcv := conv_one w c
  have b1 := blank_one c hc0 hc1
  have z1 := strOfNums_size [c]
  rw [hO] at hcv b1 z1
  have B1 : Hid (blank o = wht c) := b1
  have Z1 : Hid (o.size = 1) := z1
  clear hO b1 z1
  have z2 : o.size ≤ 1 := by rw [Z1.out]; omega
  go_wp2_with fail
  go_quiet (fail)
  go_wp2_with fail
  have q1 : blank (s.extract 0 i ++ o ++ s.extract i s.size) = (blank s && wht c) := by
    rw [blank_append, blank_append, ← blank_cut s i hi, B1.out]
    cases blank (s.extract 0 i) <;> cases blank (s.extract i s.size) <;> cases wht c <;> rfl
  have q2 : (s.extract 0 i ++ o ++ s.extract i s.size).size ≤ 2097152 := by
    simp only [ByteArray.size_append, ByteArray.size_extract]
    omega
  generalize s.extract 0 i ++ o ++ s.extract i s.size = t at q1 q2 ⊢
  have Q1 : Hid (blank t = (blank s && wht c)) := q1
  clear q1 hcv
  refine (blank9 t _ q2).mono ?_
  rintro e w1 ⟨rfl, hw1⟩
  obtain rfl := hw1.symm
  rw [Q1.out]
  go_wp2_with fail
  refine (blank9 s _ (by omega)).mono ?_
  rintro e w1 ⟨rfl, hw1⟩
  obtain rfl := hw1.symm
  go_wp2_with fail
  refine (blank9 o _ (by omega)).mono ?_
  rintro e w1 ⟨rfl, hw1⟩
  obtain rfl := hw1.symm
  rw [B1.out]
  have Bel : Below w.heap.size w ((w.alloc (.cells #[.int .u8 c] 5)).drewN nq) := (((Kept.refl (fun _ => False) w).alloc _).drewN nq).below (Nat.le_refl _) (fun _ _ f => f)
  clear Q1 B1
  have W := fun w' => white_any c w'
  generalize wht c = y at W ⊢
  generalize blank s = x
  have HW : Hid (∀ w', Calls Try.prog 13 #[.int .u8 c] w' fun e w'' => e = .returned (.bool y) ∧ w'' = w') := W
  clear W
  cases x <;> cases y
  all_goals
    go_wp2_with fail
    refine (HW.out _).mono ?_
    rintro e w1 ⟨rfl, hw1⟩
    obtain rfl := hw1.symm
    go_wp2
    go_ret
    exact ⟨rfl, Bel⟩
end Go.Proofs.Qxb6617261a
