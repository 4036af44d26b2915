import Derived.Test.Qxb6603995aModsNumWalks
namespace Go.Proofs.Qxb6603995aMods
open Go.RowKit
set_option linter.unusedVariables false
set_option linter.unusedSimpArgs false

def stepI (s : Nat) (c : Int) : Int := match stepN s c with | some t => (t : Int) | none => -1

set_option maxHeartbeats 400000 in
theorem numStep_0 (c : Int) (w : World) : Calls Trym.prog 22 #[.int .i64 0, .int .u8 c] w fun e w' => e = .returned (.int .i64 (stepI 0 c)) ∧ w' = w := by
  cases h45 : (c == 45)
  · have h45f := h45
    clear h45
    cases h48 : (c == 48)
    · have h48f := h48
      clear h48
      cases hd : dig c
      · have hdf := hd
        clear hd
        go_enter Trym.func22, Trym.ntmps22
        go_wp2_with (go_at_call 29; refine (numIsDigit_any _ _).mono ?_; rintro e w' ⟨rfl, hw'⟩; replace hw' := hw'.symm; subst hw')
        go_ret
        exact ⟨ret_int (by simp [stepI, stepN, ee, pm, (by simpa using h45f : c ≠ 45), (by simpa using h48f : c ≠ 48), hdf]), rfl⟩
      · have hdt := hd
        clear hd
        go_enter Trym.func22, Trym.ntmps22
        go_wp2_with (go_at_call 29; refine (numIsDigit_any _ _).mono ?_; rintro e w' ⟨rfl, hw'⟩; replace hw' := hw'.symm; subst hw')
        go_ret
        exact ⟨ret_int (by simp [stepI, stepN, ee, pm, (by simpa using h45f : c ≠ 45), (by simpa using h48f : c ≠ 48), hdt]), rfl⟩
    · have h48t := h48
      clear h48
      go_enter Trym.func22, Trym.ntmps22
      go_wp2_with (go_at_call 29; refine (numIsDigit_any _ _).mono ?_; rintro e w' ⟨rfl, hw'⟩; replace hw' := hw'.symm; subst hw')
      go_ret
      exact ⟨ret_int (by simp [stepI, stepN, ee, pm, dig, (by simpa using h48t : c = 48)]), rfl⟩
  · have h45t := h45
    clear h45
    go_enter Trym.func22, Trym.ntmps22
    go_wp2_with (go_at_call 29; refine (numIsDigit_any _ _).mono ?_; rintro e w' ⟨rfl, hw'⟩; replace hw' := hw'.symm; subst hw')
    go_ret
    exact ⟨ret_int (by simp [stepI, stepN, ee, pm, dig, (by simpa using h45t : c = 45)]), rfl⟩

set_option maxHeartbeats 400000 in
theorem numStep_1 (c : Int) (w : World) : Calls Trym.prog 22 #[.int .i64 1, .int .u8 c] w fun e w' => e = .returned (.int .i64 (stepI 1 c)) ∧ w' = w := by
  cases h48 : (c == 48)
  · have h48f := h48
    clear h48
    cases hd : dig c
    · have hdf := hd
      clear hd
      go_enter Trym.func22, Trym.ntmps22
      go_wp2_with (go_at_call 29; refine (numIsDigit_any _ _).mono ?_; rintro e w' ⟨rfl, hw'⟩; replace hw' := hw'.symm; subst hw')
      go_ret
      exact ⟨ret_int (by simp [stepI, stepN, ee, pm, (by simpa using h48f : c ≠ 48), hdf]), rfl⟩
    · have hdt := hd
      clear hd
      go_enter Trym.func22, Trym.ntmps22
      go_wp2_with (go_at_call 29; refine (numIsDigit_any _ _).mono ?_; rintro e w' ⟨rfl, hw'⟩; replace hw' := hw'.symm; subst hw')
      go_ret
      exact ⟨ret_int (by simp [stepI, stepN, ee, pm, (by simpa using h48f : c ≠ 48), hdt]), rfl⟩
  · have h48t := h48
    clear h48
    go_enter Trym.func22, Trym.ntmps22
    go_wp2_with (go_at_call 29; refine (numIsDigit_any _ _).mono ?_; rintro e w' ⟨rfl, hw'⟩; replace hw' := hw'.symm; subst hw')
    go_ret
    exact ⟨ret_int (by simp [stepI, stepN, ee, pm, dig, (by simpa using h48t : c = 48)]), rfl⟩

set_option maxHeartbeats 400000 in
theorem numStep_2 (c : Int) (w : World) : Calls Trym.prog 22 #[.int .i64 2, .int .u8 c] w fun e w' => e = .returned (.int .i64 (stepI 2 c)) ∧ w' = w := by
  cases h46 : (c == 46)
  · have h46f := h46
    clear h46
    cases h101 : (c == 101)
    · have h101f := h101
      clear h101
      cases h69 : (c == 69)
      · have h69f := h69
        clear h69
        go_enter Trym.func22, Trym.ntmps22
        go_wp2_with (go_at_call 29; refine (numIsDigit_any _ _).mono ?_; rintro e w' ⟨rfl, hw'⟩; replace hw' := hw'.symm; subst hw')
        go_ret
        exact ⟨ret_int (by simp [stepI, stepN, ee, pm, (by simpa using h46f : c ≠ 46), (by simpa using h101f : c ≠ 101), (by simpa using h69f : c ≠ 69)]), rfl⟩
      · have h69t := h69
        clear h69
        go_enter Trym.func22, Trym.ntmps22
        go_wp2_with (go_at_call 29; refine (numIsDigit_any _ _).mono ?_; rintro e w' ⟨rfl, hw'⟩; replace hw' := hw'.symm; subst hw')
        go_ret
        exact ⟨ret_int (by simp [stepI, stepN, ee, pm, dig, (by simpa using h69t : c = 69)]), rfl⟩
    · have h101t := h101
      clear h101
      go_enter Trym.func22, Trym.ntmps22
      go_wp2_with (go_at_call 29; refine (numIsDigit_any _ _).mono ?_; rintro e w' ⟨rfl, hw'⟩; replace hw' := hw'.symm; subst hw')
      go_ret
      exact ⟨ret_int (by simp [stepI, stepN, ee, pm, dig, (by simpa using h101t : c = 101)]), rfl⟩
  · have h46t := h46
    clear h46
    go_enter Trym.func22, Trym.ntmps22
    go_wp2_with (go_at_call 29; refine (numIsDigit_any _ _).mono ?_; rintro e w' ⟨rfl, hw'⟩; replace hw' := hw'.symm; subst hw')
    go_ret
    exact ⟨ret_int (by simp [stepI, stepN, ee, pm, dig, (by simpa using h46t : c = 46)]), rfl⟩

set_option maxHeartbeats 400000 in
theorem numStep_3 (c : Int) (w : World) : Calls Trym.prog 22 #[.int .i64 3, .int .u8 c] w fun e w' => e = .returned (.int .i64 (stepI 3 c)) ∧ w' = w := by
  cases hd : dig c
  · have hdf := hd
    clear hd
    cases h46 : (c == 46)
    · have h46f := h46
      clear h46
      cases h101 : (c == 101)
      · have h101f := h101
        clear h101
        cases h69 : (c == 69)
        · have h69f := h69
          clear h69
          go_enter Trym.func22, Trym.ntmps22
          go_wp2_with (go_at_call 29; refine (numIsDigit_any _ _).mono ?_; rintro e w' ⟨rfl, hw'⟩; replace hw' := hw'.symm; subst hw')
          go_ret
          exact ⟨ret_int (by simp [stepI, stepN, ee, pm, hdf, (by simpa using h46f : c ≠ 46), (by simpa using h101f : c ≠ 101), (by simpa using h69f : c ≠ 69)]), rfl⟩
        · have h69t := h69
          clear h69
          go_enter Trym.func22, Trym.ntmps22
          go_wp2_with (go_at_call 29; refine (numIsDigit_any _ _).mono ?_; rintro e w' ⟨rfl, hw'⟩; replace hw' := hw'.symm; subst hw')
          go_ret
          exact ⟨ret_int (by simp [stepI, stepN, ee, pm, dig, (by simpa using h69t : c = 69)]), rfl⟩
      · have h101t := h101
        clear h101
        go_enter Trym.func22, Trym.ntmps22
        go_wp2_with (go_at_call 29; refine (numIsDigit_any _ _).mono ?_; rintro e w' ⟨rfl, hw'⟩; replace hw' := hw'.symm; subst hw')
        go_ret
        exact ⟨ret_int (by simp [stepI, stepN, ee, pm, dig, (by simpa using h101t : c = 101)]), rfl⟩
    · have h46t := h46
      clear h46
      go_enter Trym.func22, Trym.ntmps22
      go_wp2_with (go_at_call 29; refine (numIsDigit_any _ _).mono ?_; rintro e w' ⟨rfl, hw'⟩; replace hw' := hw'.symm; subst hw')
      go_ret
      exact ⟨ret_int (by simp [stepI, stepN, ee, pm, dig, (by simpa using h46t : c = 46)]), rfl⟩
  · have hdt := hd
    clear hd
    go_enter Trym.func22, Trym.ntmps22
    go_wp2_with (go_at_call 29; refine (numIsDigit_any _ _).mono ?_; rintro e w' ⟨rfl, hw'⟩; replace hw' := hw'.symm; subst hw')
    go_ret
    exact ⟨ret_int (by simp [stepI, stepN, ee, pm, hdt]), rfl⟩

set_option maxHeartbeats 400000 in
theorem numStep_4 (c : Int) (w : World) : Calls Trym.prog 22 #[.int .i64 4, .int .u8 c] w fun e w' => e = .returned (.int .i64 (stepI 4 c)) ∧ w' = w := by
  cases hd : dig c
  · have hdf := hd
    clear hd
    go_enter Trym.func22, Trym.ntmps22
    go_wp2_with (go_at_call 29; refine (numIsDigit_any _ _).mono ?_; rintro e w' ⟨rfl, hw'⟩; replace hw' := hw'.symm; subst hw')
    go_ret
    exact ⟨ret_int (by simp [stepI, stepN, ee, pm, hdf]), rfl⟩
  · have hdt := hd
    clear hd
    go_enter Trym.func22, Trym.ntmps22
    go_wp2_with (go_at_call 29; refine (numIsDigit_any _ _).mono ?_; rintro e w' ⟨rfl, hw'⟩; replace hw' := hw'.symm; subst hw')
    go_ret
    exact ⟨ret_int (by simp [stepI, stepN, ee, pm, hdt]), rfl⟩

set_option maxHeartbeats 400000 in
theorem numStep_5 (c : Int) (w : World) : Calls Trym.prog 22 #[.int .i64 5, .int .u8 c] w fun e w' => e = .returned (.int .i64 (stepI 5 c)) ∧ w' = w := by
  cases hd : dig c
  · have hdf := hd
    clear hd
    cases h101 : (c == 101)
    · have h101f := h101
      clear h101
      cases h69 : (c == 69)
      · have h69f := h69
        clear h69
        go_enter Trym.func22, Trym.ntmps22
        go_wp2_with (go_at_call 29; refine (numIsDigit_any _ _).mono ?_; rintro e w' ⟨rfl, hw'⟩; replace hw' := hw'.symm; subst hw')
        go_ret
        exact ⟨ret_int (by simp [stepI, stepN, ee, pm, hdf, (by simpa using h101f : c ≠ 101), (by simpa using h69f : c ≠ 69)]), rfl⟩
      · have h69t := h69
        clear h69
        go_enter Trym.func22, Trym.ntmps22
        go_wp2_with (go_at_call 29; refine (numIsDigit_any _ _).mono ?_; rintro e w' ⟨rfl, hw'⟩; replace hw' := hw'.symm; subst hw')
        go_ret
        exact ⟨ret_int (by simp [stepI, stepN, ee, pm, dig, (by simpa using h69t : c = 69)]), rfl⟩
    · have h101t := h101
      clear h101
      go_enter Trym.func22, Trym.ntmps22
      go_wp2_with (go_at_call 29; refine (numIsDigit_any _ _).mono ?_; rintro e w' ⟨rfl, hw'⟩; replace hw' := hw'.symm; subst hw')
      go_ret
      exact ⟨ret_int (by simp [stepI, stepN, ee, pm, dig, (by simpa using h101t : c = 101)]), rfl⟩
  · have hdt := hd
    clear hd
    go_enter Trym.func22, Trym.ntmps22
    go_wp2_with (go_at_call 29; refine (numIsDigit_any _ _).mono ?_; rintro e w' ⟨rfl, hw'⟩; replace hw' := hw'.symm; subst hw')
    go_ret
    exact ⟨ret_int (by simp [stepI, stepN, ee, pm, hdt]), rfl⟩

set_option maxHeartbeats 400000 in
theorem numStep_6 (c : Int) (w : World) : Calls Trym.prog 22 #[.int .i64 6, .int .u8 c] w fun e w' => e = .returned (.int .i64 (stepI 6 c)) ∧ w' = w := by
  cases h43 : (c == 43)
  · have h43f := h43
    clear h43
    cases h45 : (c == 45)
    · have h45f := h45
      clear h45
      cases hd : dig c
      · have hdf := hd
        clear hd
        go_enter Trym.func22, Trym.ntmps22
        go_wp2_with (go_at_call 29; refine (numIsDigit_any _ _).mono ?_; rintro e w' ⟨rfl, hw'⟩; replace hw' := hw'.symm; subst hw')
        go_ret
        exact ⟨ret_int (by simp [stepI, stepN, ee, pm, (by simpa using h43f : c ≠ 43), (by simpa using h45f : c ≠ 45), hdf]), rfl⟩
      · have hdt := hd
        clear hd
        go_enter Trym.func22, Trym.ntmps22
        go_wp2_with (go_at_call 29; refine (numIsDigit_any _ _).mono ?_; rintro e w' ⟨rfl, hw'⟩; replace hw' := hw'.symm; subst hw')
        go_ret
        exact ⟨ret_int (by simp [stepI, stepN, ee, pm, (by simpa using h43f : c ≠ 43), (by simpa using h45f : c ≠ 45), hdt]), rfl⟩
    · have h45t := h45
      clear h45
      go_enter Trym.func22, Trym.ntmps22
      go_wp2_with (go_at_call 29; refine (numIsDigit_any _ _).mono ?_; rintro e w' ⟨rfl, hw'⟩; replace hw' := hw'.symm; subst hw')
      go_ret
      exact ⟨ret_int (by simp [stepI, stepN, ee, pm, dig, (by simpa using h45t : c = 45)]), rfl⟩
  · have h43t := h43
    clear h43
    go_enter Trym.func22, Trym.ntmps22
    go_wp2_with (go_at_call 29; refine (numIsDigit_any _ _).mono ?_; rintro e w' ⟨rfl, hw'⟩; replace hw' := hw'.symm; subst hw')
    go_ret
    exact ⟨ret_int (by simp [stepI, stepN, ee, pm, dig, (by simpa using h43t : c = 43)]), rfl⟩

set_option maxHeartbeats 400000 in
theorem numStep_7 (c : Int) (w : World) : Calls Trym.prog 22 #[.int .i64 7, .int .u8 c] w fun e w' => e = .returned (.int .i64 (stepI 7 c)) ∧ w' = w := by
  cases hd : dig c
  · have hdf := hd
    clear hd
    go_enter Trym.func22, Trym.ntmps22
    go_wp2_with (go_at_call 29; refine (numIsDigit_any _ _).mono ?_; rintro e w' ⟨rfl, hw'⟩; replace hw' := hw'.symm; subst hw')
    go_ret
    exact ⟨ret_int (by simp [stepI, stepN, ee, pm, hdf]), rfl⟩
  · have hdt := hd
    clear hd
    go_enter Trym.func22, Trym.ntmps22
    go_wp2_with (go_at_call 29; refine (numIsDigit_any _ _).mono ?_; rintro e w' ⟨rfl, hw'⟩; replace hw' := hw'.symm; subst hw')
    go_ret
    exact ⟨ret_int (by simp [stepI, stepN, ee, pm, hdt]), rfl⟩

set_option maxHeartbeats 400000 in
theorem numStep_8 (c : Int) (w : World) : Calls Trym.prog 22 #[.int .i64 8, .int .u8 c] w fun e w' => e = .returned (.int .i64 (stepI 8 c)) ∧ w' = w := by
  cases hd : dig c
  · have hdf := hd
    clear hd
    go_enter Trym.func22, Trym.ntmps22
    go_wp2_with (go_at_call 29; refine (numIsDigit_any _ _).mono ?_; rintro e w' ⟨rfl, hw'⟩; replace hw' := hw'.symm; subst hw')
    go_ret
    exact ⟨ret_int (by simp [stepI, stepN, ee, pm, hdf]), rfl⟩
  · have hdt := hd
    clear hd
    go_enter Trym.func22, Trym.ntmps22
    go_wp2_with (go_at_call 29; refine (numIsDigit_any _ _).mono ?_; rintro e w' ⟨rfl, hw'⟩; replace hw' := hw'.symm; subst hw')
    go_ret
    exact ⟨ret_int (by simp [stepI, stepN, ee, pm, hdt]), rfl⟩

theorem numStep_any (s : Nat) (c : Int) (w : World) (hs : s ≤ 8) : Calls Trym.prog 22 #[.int .i64 s, .int .u8 c] w fun e w' => e = .returned (.int .i64 (stepI s c)) ∧ w' = w := by
  obtain rfl | rfl | rfl | rfl | rfl | rfl | rfl | rfl | rfl : s = 0 ∨ s = 1 ∨ s = 2 ∨ s = 3 ∨ s = 4 ∨ s = 5 ∨ s = 6 ∨ s = 7 ∨ s = 8 := by omega
  · exact numStep_0 c w
  · exact numStep_1 c w
  · exact numStep_2 c w
  · exact numStep_3 c w
  · exact numStep_4 c w
  · exact numStep_5 c w
  · exact numStep_6 c w
  · exact numStep_7 c w
  · exact numStep_8 c w

set_option maxHeartbeats 400000 in
theorem numAccepting_any (s : Nat) (w : World) (hs : s ≤ 8) : Calls Trym.prog 23 #[.int .i64 s] w fun e w' => e = .returned (.bool (accN s)) ∧ w' = w := by
  obtain rfl | rfl | rfl | rfl | rfl | rfl | rfl | rfl | rfl : s = 0 ∨ s = 1 ∨ s = 2 ∨ s = 3 ∨ s = 4 ∨ s = 5 ∨ s = 6 ∨ s = 7 ∨ s = 8 := by omega
  all_goals go_enter Trym.func23, Trym.ntmps23
  all_goals go_wp2
  all_goals go_ret
  all_goals exact ⟨rfl, rfl⟩

set_option maxHeartbeats 400000 in
theorem numRun_any (v : Value) (len : Nat) (g : Nat → Int) (i : Nat) (w : World) (h : Dat w v len g) (hl : len ≤ 1048576) (hm : i ≤ 9223372036854775807) :
    Calls Trym.prog 11 #[v, .int .i64 i] w fun e w' => (∃ q t : Nat, e = .returned (.tuple #[.int .i64 q, .bool (accN t)]) ∧ Stops g 0 i q t) ∧ w' = w := by
  obtain ⟨h0, h1⟩ := h
  have G0 : Hid (∀ j, len ≤ j → g j = 0) := h0
  clear h0
  rcases h1 with ⟨rfl, rfl⟩ | ⟨b, off, cap, rfl, hc⟩
  · go_enter Trym.func11, Trym.ntmps11
    go_wp2
    go_loop [6, 7] (fun st ps => st = .int .i64 0 ∧ ps = .int .i64 i) (fun _ _ => 0)
    case atStart => exact ⟨rfl, rfl⟩
    case round =>
      obtain ⟨rfl, rfl⟩ := hrel
      go_wp2_with (go_at_call 23; refine (numAccepting_any 0 _ (by omega)).mono ?_; rintro e w' ⟨rfl, hw'⟩; replace hw' := hw'.symm; subst hw')
      go_ret2
      exact ⟨⟨i, 0, rfl, Stops.here (by rw [G0.out i (by omega)]; exact stepN_zero 0)⟩, rfl⟩
  · go_enter Trym.func11, Trym.ntmps11
    go_wp2
    go_loop [6, 7] (fun st ps => ∃ p s : Nat, st = .int .i64 s ∧ ps = .int .i64 p ∧ s ≤ 8 ∧ p ≤ 9223372036854775807 ∧ Hid (∀ q t, Stops g s p q t → Stops g 0 i q t)) (fun _ ps => len - (intOf ps).toNat)
    case atStart => exact ⟨i, 0, rfl, rfl, by omega, hm, fun q t h => h⟩
    case round =>
      obtain ⟨p, s, rfl, rfl, hs, hp, HS⟩ := hrel
      by_cases hlt : p < len
      · have hcp := hc p hlt
        clear hc
        have hst := fun w => numStep_any s (g p) w hs
        unfold stepI at hst
        cases hsn : stepN s (g p) with
        | none =>
          rw [hsn] at hst
          have HN : Hid (stepN s (g p) = none) := hsn
          clear hsn
          go_wp2_with (first | (go_at_call 22; refine (hst _).mono ?_; rintro e w' ⟨rfl, hw'⟩; replace hw' := hw'.symm; subst hw') | (go_at_call 23; refine (numAccepting_any s _ hs).mono ?_; rintro e w' ⟨rfl, hw'⟩; replace hw' := hw'.symm; subst hw'))
          go_ret2
          exact ⟨⟨p, s, rfl, HS.out _ _ (Stops.here HN.out)⟩, rfl⟩
        | some t =>
          rw [hsn] at hst
          have HN : Hid (stepN s (g p) = some t) := hsn
          clear hsn
          go_wp2_with (first | (go_at_call 22; refine (hst _).mono ?_; rintro e w' ⟨rfl, hw'⟩; replace hw' := hw'.symm; subst hw'))
          go_round
          case rel => exact ⟨p + 1, t, rfl, by go_num, stepN_le _ _ _ HN.out, by omega, fun q x h => HS.out _ _ (Stops.cons HN.out h)⟩
          case measure => simp [intOf]; omega
      · clear hc
        go_wp2_with (go_at_call 23; refine (numAccepting_any s _ hs).mono ?_; rintro e w' ⟨rfl, hw'⟩; replace hw' := hw'.symm; subst hw')
        go_ret2
        exact ⟨⟨p, s, rfl, HS.out _ _ (Stops.here (by rw [G0.out p (by omega)]; exact stepN_zero s))⟩, rfl⟩
end Go.Proofs.Qxb6603995aMods
