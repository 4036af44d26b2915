import Derived.Test.Qxb6603995aModsRows
import Derived.Test.Qxb6603995aModsNumPlain
import Derived.WalkKit
import Derived.WalkSpells
import Derived.WalkLawsBesides
import Derived.Deep.DeepCutAuto
import Derived.Deep.CutBlock
namespace Go.Proofs.Qxb6603995aMods
open Go.RowKit
set_option linter.unusedVariables false
set_option linter.unusedSimpArgs false

/-- a slice of bytes: its length, its bytes (0 behind the end) -/
def Dat (w : World) (v : Value) (len : Nat) (g : Nat → Int) : Prop :=
  (∀ j, len ≤ j → g j = 0) ∧
  ((v = .slice none 0 0 ∧ len = 0) ∨ ∃ b off cap, v = .slice (some ⟨b, off, none⟩) len cap ∧ ∀ j, j < len → w.cell? ⟨b, off + j, none⟩ = some (.int .u8 (g j)))

theorem ret_int {k : IntKind} {a b : Int} (h : a = b) : Ending.returned (.int k a) = .returned (.int k b) := by rw [h]

set_option maxHeartbeats 400000 in
theorem byteAt_any (v : Value) (len : Nat) (g : Nat → Int) (i : Nat) (w : World) (h : Dat w v len g) (hl : len ≤ 1048576) (hi : i ≤ 9223372036854775807) :
    Calls Trym.prog 26 #[v, .int .i64 i] w fun e w' => e = .returned (.int .u8 (g i)) ∧ w' = w := by
  obtain ⟨h0, h1⟩ := h
  by_cases hlt : i < len
  · rcases h1 with ⟨rfl, rfl⟩ | ⟨b, off, cap, rfl, hc⟩
    · omega
    · have hci := hc i hlt
      clear hc h0
      go_enter Trym.func26, Trym.ntmps26
      go_wp2
      go_ret
      exact ⟨rfl, rfl⟩
  · have e := h0 i (by omega)
    have E : Hid (g i = 0) := e
    clear e h0
    rcases h1 with ⟨rfl, rfl⟩ | ⟨b, off, cap, rfl, hc⟩
    · go_enter Trym.func26, Trym.ntmps26
      go_wp2
      go_ret
      exact ⟨ret_int E.out.symm, rfl⟩
    · clear hc
      go_enter Trym.func26, Trym.ntmps26
      go_wp2
      go_ret
      exact ⟨ret_int E.out.symm, rfl⟩

set_option maxHeartbeats 400000 in
theorem isDigit_any (c : Int) (w : World) : Calls Trym.prog 27 #[.int .u8 c] w fun e w' => e = .returned (.bool (dig c)) ∧ w' = w := by
  by_cases h1 : 48 ≤ c
  · by_cases h2 : c ≤ 57
    · rw [show dig c = true from (dig_iff c).2 ⟨h1, h2⟩]
      go_enter Trym.func27, Trym.ntmps27
      go_wp2
      go_ret
      exact ⟨rfl, rfl⟩
    · rw [show dig c = false from (dig_not c).2 (by omega)]
      go_enter Trym.func27, Trym.ntmps27
      go_wp2
      go_ret
      exact ⟨rfl, rfl⟩
  · rw [show dig c = false from (dig_not c).2 (by omega)]
    go_enter Trym.func27, Trym.ntmps27
    go_wp2
    go_ret
    exact ⟨rfl, rfl⟩
set_option maxHeartbeats 400000 in
theorem numIsDigit_any (c : Int) (w : World) : Calls Trym.prog 29 #[.int .u8 c] w fun e w' => e = .returned (.bool (dig c)) ∧ w' = w := by
  by_cases h1 : 48 ≤ c
  · by_cases h2 : c ≤ 57
    · rw [show dig c = true from (dig_iff c).2 ⟨h1, h2⟩]
      go_enter Trym.func29, Trym.ntmps29
      go_wp2
      go_ret
      exact ⟨rfl, rfl⟩
    · rw [show dig c = false from (dig_not c).2 (by omega)]
      go_enter Trym.func29, Trym.ntmps29
      go_wp2
      go_ret
      exact ⟨rfl, rfl⟩
  · rw [show dig c = false from (dig_not c).2 (by omega)]
    go_enter Trym.func29, Trym.ntmps29
    go_wp2
    go_ret
    exact ⟨rfl, rfl⟩

/-- where the digits from i on end -/
def DigEnd (g : Nat → Int) (i q : Nat) : Prop := i ≤ q ∧ (∀ j, i ≤ j → j < q → dig (g j) = true) ∧ dig (g q) = false

set_option maxHeartbeats 400000 in
theorem digitsEnd_any (v : Value) (len : Nat) (g : Nat → Int) (i : Nat) (w : World) (h : Dat w v len g) (hl : len ≤ 1048576) (hi : i ≤ len) :
    Calls Trym.prog 28 #[v, .int .i64 i] w fun e w' => (∃ q : Nat, e = .returned (.int .i64 q) ∧ q ≤ len ∧ DigEnd g i q) ∧ w' = w := by
  obtain ⟨h0, h1⟩ := h
  have hz := h0 len (Nat.le_refl _)
  have HZ : Hid (g len = 0) := hz
  clear h0 hz
  rcases h1 with ⟨rfl, rfl⟩ | ⟨b, off, cap, rfl, hc⟩
  · obtain rfl : i = 0 := by omega
    go_enter Trym.func28, Trym.ntmps28
    go_wp2
    go_loop [1] (fun s => s = .int .i64 0) (fun _ => 0)
    case atStart => exact rfl
    case round =>
      obtain rfl := hrel
      go_wp2
      go_ret
      exact ⟨⟨0, rfl, rfl, Nat.le_refl _, fun j a b => by omega, by rw [HZ.out]; rfl⟩, rfl⟩
  · go_enter Trym.func28, Trym.ntmps28
    go_wp2
    go_loop [1] (fun s => ∃ k : Nat, i ≤ k ∧ k ≤ len ∧ s = .int .i64 k ∧ ∀ j, i ≤ j → j < k → dig (g j) = true) (fun s => len - (intOf s).toNat)
    case atStart => exact ⟨i, Nat.le_refl _, hi, rfl, fun j a b => by omega⟩
    case round =>
      obtain ⟨k, hk, hkl, rfl, hd⟩ := hrel
      have HD : Hid (∀ j, i ≤ j → j < k → dig (g j) = true) := hd
      clear hd
      by_cases hlt : k < len
      · have hck := hc k hlt
        clear hc
        cases hdk : dig (g k)
        · go_wp2_with (go_at_call 27; refine (isDigit_any _ _).mono ?_; rintro e w' ⟨rfl, hw'⟩; replace hw' := hw'.symm; subst hw')
          go_ret
          exact ⟨⟨k, rfl, hkl, hk, HD.out, hdk⟩, rfl⟩
        · go_wp2_with (go_at_call 27; refine (isDigit_any _ _).mono ?_; rintro e w' ⟨rfl, hw'⟩; replace hw' := hw'.symm; subst hw')
          go_round
          case rel => exact ⟨k + 1, by omega, by omega, by go_num, fun j a b => by
            by_cases h : j = k
            · subst h; exact hdk
            · exact HD.out j a (by omega)⟩
          case measure => simp [intOf]; omega
      · obtain rfl : k = len := by omega
        clear hc
        go_wp2
        go_ret
        exact ⟨⟨k, rfl, hkl, hk, HD.out, by rw [HZ.out]; rfl⟩, rfl⟩

theorem DigEnd.gt {g : Nat → Int} {p q : Nat} (h : DigEnd g p q) (hd : dig (g p) = true) : p < q := by
  obtain ⟨h1, h2, h3⟩ := h
  rcases Nat.lt_or_eq_of_le h1 with h | rfl
  · exact h
  · rw [hd] at h3; cases h3
theorem DigEnd.stops {g : Nat → Int} {p q s s' x t : Nat} (h : DigEnd g p q) (hd : dig (g p) = true) (hs : s' = 3 ∨ s' = 5 ∨ s' = 8) (hst : stepN s (g p) = some s') (k : Stops g s' q x t) : Stops g s p x t := by
  have hgt := h.gt hd
  exact Stops.cons hst (Stops.digits hs (q - (p + 1)) q (by omega) (fun j a b => h.2.1 j (by omega) b) k)
theorem lt_of_ne {len : Nat} {g : Nat → Int} (h0 : ∀ j, len ≤ j → g j = 0) {p : Nat} (h : g p ≠ 0) : p < len := by
  apply Nat.lt_of_not_le
  intro hl
  exact h (h0 p hl)

set_option maxHeartbeats 400000 in
theorem numberEnd_in (v : Value) (len : Nat) (g : Nat → Int) (i : Nat) (w : World) (h : Dat w v len g) (hl : len ≤ 1048576) (hi : i < len) :
    Calls Trym.prog 21 #[v, .int .i64 i] w fun e w' => (∃ q t : Nat, e = .returned (.tuple #[.int .i64 q, .bool (accN t)]) ∧ Stops g 0 i q t) ∧ w' = w := by
  have H : Hid (Dat w v len g) := h
  have LT : Hid (∀ p, g p ≠ 0 → p < len) := fun p hp => lt_of_ne h.1 hp
  clear h
  go_enter Trym.func21, Trym.ntmps21
  go_upto_if 12 with (go_at_call 26; refine (byteAt_any v len g _ _ H.out hl (by omega)).mono ?_; rintro e w' ⟨rfl, hw'⟩; replace hw' := hw'.symm; subst hw')
  go_cut [1] (fun s1 wx => w = wx ∧ ∃ p s : Nat, s1 = .int .i64 p ∧ p ≤ len ∧ (s = 0 ∨ s = 1) ∧ (s = 0 → g p ≠ 45) ∧ ∀ q t, Stops g s p q t → Stops g 0 i q t)
  case first =>
    by_cases hc : g i = 45
    · go_wp2
      go_meet
      case rel => exact ⟨rfl, i + 1, 1, by go_num, by omega, .inr rfl, fun h => by omega, fun q t hs => Stops.cons (by simp [stepN, hc]) hs⟩
    · have hc' : (g i == 45) = false := by simpa using hc
      go_wp2
      go_meet
      case rel => exact ⟨rfl, i, 0, rfl, by omega, .inl rfl, fun _ => hc, fun q t hs => hs⟩
  case rest =>
    obtain ⟨rfl, p, s, rfl, hp, hs, hs0, hst⟩ := hcut
    have S : Hid ((s = 0 ∨ s = 1) ∧ (s = 0 → g p ≠ 45) ∧ ∀ q t, Stops g s p q t → Stops g 0 i q t) := ⟨hs, hs0, hst⟩
    clear hs hs0 hst
    go_upto_block 0 with (go_at_call 26; refine (byteAt_any v len g _ _ H.out hl (by omega)).mono ?_; rintro e w' ⟨rfl, hw'⟩; replace hw' := hw'.symm; subst hw')
    go_cut [1] (fun s1 wx => w = wx ∧ ∃ p s : Nat, s1 = .int .i64 p ∧ p ≤ len ∧ (s = 2 ∨ (s = 3 ∧ dig (g p) = false)) ∧ ∀ q t, Stops g s p q t → Stops g 0 i q t)
    case first =>
      by_cases hc : g p = 48
      · have hpl := LT.out p (by omega)
        go_wp2
        go_meet
        case rel => exact ⟨rfl, p + 1, 2, by go_num, by omega, .inl rfl, fun q t hs => S.out.2.2 q t (Stops.cons (by rcases S.out.1 with rfl | rfl <;> simp [stepN, hc]) hs)⟩
      · have hc' : (g p == 48) = false := by simpa using hc
        cases hd : dig (g p)
        · go_wp2_with (go_at_call 27; refine (isDigit_any _ _).mono ?_; rintro e w' ⟨rfl, hw'⟩; replace hw' := hw'.symm; subst hw')
          go_ret2
          exact ⟨⟨p, s, by rcases S.out.1 with rfl | rfl <;> rfl, S.out.2.2 p s (Stops.here (by rcases S.out.1 with rfl | rfl <;> simp [stepN, hc, hd, S.out.2.1]))⟩, rfl⟩
        · have hdd := (dig_iff _).1 hd
          have hpl := LT.out p (by omega)
          go_wp2_with (first | (go_at_call 27; refine (isDigit_any _ _).mono ?_; rintro e w' ⟨rfl, hw'⟩; replace hw' := hw'.symm; subst hw') | (go_at_call 28; have hde := digitsEnd_any v len g (p) w H.out hl (by omega); refine hde.mono ?_; clear hde; rintro e w' ⟨⟨q, rfl, hq, HQ'⟩, hw'⟩; replace hw' := hw'.symm; subst hw'; have HQ : Hid (DigEnd g (p) q) := HQ'; clear HQ'))
          go_meet
          case rel => exact ⟨rfl, q, 3, rfl, hq, .inr ⟨rfl, HQ.out.2.2⟩, fun x t hs => S.out.2.2 x t (HQ.out.stops hd (.inl rfl) (by rcases S.out.1 with rfl | rfl <;> simp [stepN, hc, hd, S.out.2.1]) hs)⟩
    case rest =>
      clear hp S
      obtain ⟨rfl, p, s, rfl, hp, hs, hst⟩ := hcut
      have S : Hid ((s = 2 ∨ (s = 3 ∧ dig (g p) = false)) ∧ ∀ q t, Stops g s p q t → Stops g 0 i q t) := ⟨hs, hst⟩
      clear hs hst
      go_upto_if 33 with (go_at_call 26; refine (byteAt_any v len g _ _ H.out hl (by omega)).mono ?_; rintro e w' ⟨rfl, hw'⟩; replace hw' := hw'.symm; subst hw')
      go_cut [1] (fun s1 wx => w = wx ∧ ∃ p s : Nat, s1 = .int .i64 p ∧ p ≤ len ∧ (s = 2 ∨ s = 3 ∨ s = 5) ∧ stepN s (g p) = (if ee (g p) = true then some 6 else none) ∧ ∀ q t, Stops g s p q t → Stops g 0 i q t)
      case first =>
        by_cases hc : g p = 46
        · have hpl := LT.out p (by omega)
          have h4 : Hid (stepN s (g p) = some 4) := by rcases S.out.1 with rfl | ⟨rfl, hd⟩ <;> simp [stepN, hc, Hid, dig]
          cases hd : dig (g (p + 1))
          · go_wp2_with (first | (go_at_call 26; have hba := byteAt_any v len g (p + 1) w H.out hl (by omega); rw [show ((p + 1 : Nat) : Int) = (p : Int) + 1 from by omega] at hba; refine hba.mono ?_; clear hba; rintro e w' ⟨rfl, hw'⟩; replace hw' := hw'.symm; subst hw') | (go_at_call 27; refine (isDigit_any _ _).mono ?_; rintro e w' ⟨rfl, hw'⟩; replace hw' := hw'.symm; subst hw'))
            go_ret2
            exact ⟨⟨p + 1, 4, by go_num, S.out.2 _ _ (Stops.cons h4.out (Stops.here (by simp [stepN, hd])))⟩, rfl⟩
          · go_wp2_with (first | (go_at_call 26; have hba := byteAt_any v len g (p + 1) w H.out hl (by omega); rw [show ((p + 1 : Nat) : Int) = (p : Int) + 1 from by omega] at hba; refine hba.mono ?_; clear hba; rintro e w' ⟨rfl, hw'⟩; replace hw' := hw'.symm; subst hw') | (go_at_call 27; refine (isDigit_any _ _).mono ?_; rintro e w' ⟨rfl, hw'⟩; replace hw' := hw'.symm; subst hw') | (go_at_call 28; have hde := digitsEnd_any v len g (p + 1) w H.out hl (by omega); rw [show ((p + 1 : Nat) : Int) = (p : Int) + 1 from by omega] at hde; refine hde.mono ?_; clear hde; rintro e w' ⟨⟨q, rfl, hq, HQ'⟩, hw'⟩; replace hw' := hw'.symm; subst hw'; have HQ : Hid (DigEnd g (p + 1) q) := HQ'; clear HQ'))
            go_meet
            case rel => exact ⟨rfl, q, 5, rfl, hq, .inr (.inr rfl), by simp [stepN, HQ.out.2.2], fun x t hs => S.out.2 x t (Stops.cons h4.out (HQ.out.stops hd (.inr (.inl rfl)) (by simp [stepN, hd]) hs))⟩
        · have hc' : (g p == 46) = false := by simpa using hc
          go_wp2
          go_meet
          case rel => exact ⟨rfl, p, s, rfl, hp, by rcases S.out.1 with h | ⟨h, _⟩ <;> simp [h], by rcases S.out.1 with rfl | ⟨rfl, hd⟩ <;> simp [stepN, hc, *], S.out.2⟩
      case rest =>
        clear hp S
        obtain ⟨rfl, p, s, rfl, hp, hs, hse, hst⟩ := hcut
        have S : Hid ((s = 2 ∨ s = 3 ∨ s = 5) ∧ stepN s (g p) = (if ee (g p) = true then some 6 else none) ∧ ∀ q t, Stops g s p q t → Stops g 0 i q t) := ⟨hs, hse, hst⟩
        clear hs hse hst
        go_upto_region 15 with (go_at_call 26; refine (byteAt_any v len g _ _ H.out hl (by omega)).mono ?_; rintro e w' ⟨rfl, hw'⟩; replace hw' := hw'.symm; subst hw')
        go_cut [53] (fun s53 wx => w = wx ∧ s53 = .bool (ee (g p)))
        case first =>
          by_cases h1 : g p = 101
          · go_wp2
            go_meet
            case rel => exact ⟨rfl, by simp [ee, h1]⟩
          · have h1' : (g p == 101) = false := by simpa using h1
            by_cases h2 : g p = 69
            · go_wp2
              go_meet
              case rel => exact ⟨rfl, by simp [ee, h2]⟩
            · have h2' : (g p == 69) = false := by simpa using h2
              go_wp2
              go_meet
              case rel => exact ⟨rfl, by simp [ee, h1', h2']⟩
        case rest =>
          obtain ⟨rfl, rfl⟩ := hcut
          cases he : ee (g p)
          · go_wp2
            go_ret2
            exact ⟨⟨p, s, by rcases S.out.1 with rfl | rfl | rfl <;> rfl, S.out.2.2 _ _ (Stops.here (by rw [S.out.2.1, he]; rfl))⟩, rfl⟩
          · have hpl := LT.out p (by intro h; rw [h] at he; cases he)
            have h6 : Hid (stepN s (g p) = some 6) := by show _ = _; rw [S.out.2.1, he]; rfl
            go_upto_region 18 with (go_at_call 26; have hba := byteAt_any v len g (p + 1) w H.out hl (by omega); rw [show ((p + 1 : Nat) : Int) = (p : Int) + 1 from by omega] at hba; refine hba.mono ?_; clear hba; rintro e w' ⟨rfl, hw'⟩; replace hw' := hw'.symm; subst hw')
            go_cut [64] (fun s64 wx => w = wx ∧ s64 = .bool (pm (g (p + 1))))
            case first =>
              by_cases h1 : g (p + 1) = 43
              · go_wp2
                go_meet
                case rel => exact ⟨rfl, by simp [pm, h1]⟩
              · have h1' : (g (p + 1) == 43) = false := by simpa using h1
                by_cases h2 : g (p + 1) = 45
                · go_wp2
                  go_meet
                  case rel => exact ⟨rfl, by simp [pm, h2]⟩
                · have h2' : (g (p + 1) == 45) = false := by simpa using h2
                  go_wp2
                  go_meet
                  case rel => exact ⟨rfl, by simp [pm, h1', h2']⟩
            case rest =>
              obtain ⟨rfl, rfl⟩ := hcut
              cases hpm : pm (g (p + 1))
              · have hpm' : pm (g (p + 1)) = false := hpm
                cases hd : dig (g (p + 1))
                · go_wp2_with (first | (go_at_call 26; have hba := byteAt_any v len g (p + 1) w H.out hl (by omega); rw [show ((p + 1 : Nat) : Int) = (p : Int) + 1 from by omega] at hba; refine hba.mono ?_; clear hba; rintro e w' ⟨rfl, hw'⟩; replace hw' := hw'.symm; subst hw') | (go_at_call 27; refine (isDigit_any _ _).mono ?_; rintro e w' ⟨rfl, hw'⟩; replace hw' := hw'.symm; subst hw'))
                  go_ret2
                  exact ⟨⟨p + 1, 6, by go_num, S.out.2.2 _ _ (Stops.cons h6.out ((Stops.here (by simp [stepN, hd, hpm']))))⟩, rfl⟩
                · go_wp2_with (first | (go_at_call 26; have hba := byteAt_any v len g (p + 1) w H.out hl (by omega); rw [show ((p + 1 : Nat) : Int) = (p : Int) + 1 from by omega] at hba; refine hba.mono ?_; clear hba; rintro e w' ⟨rfl, hw'⟩; replace hw' := hw'.symm; subst hw') | (go_at_call 27; refine (isDigit_any _ _).mono ?_; rintro e w' ⟨rfl, hw'⟩; replace hw' := hw'.symm; subst hw') | (go_at_call 28; have hde := digitsEnd_any v len g (p + 1) w H.out hl (by omega); rw [show ((p + 1 : Nat) : Int) = (p : Int) + 1 from by omega] at hde; refine hde.mono ?_; clear hde; rintro e w' ⟨⟨q, rfl, hq, HQ'⟩, hw'⟩; replace hw' := hw'.symm; subst hw'; have HQ : Hid (DigEnd g (p + 1) q) := HQ'; clear HQ'))
                  go_ret2
                  exact ⟨⟨q, 8, rfl, S.out.2.2 _ _ (Stops.cons h6.out ((HQ.out.stops hd (.inr (.inr rfl)) (by simp [stepN, hd, hpm']) (Stops.here (by simp [stepN, HQ.out.2.2])))))⟩, rfl⟩
              · have hpl1 := LT.out (p + 1) (by intro h; rw [h] at hpm; cases hpm)
                have h7 : stepN 6 (g (p + 1)) = some 7 := by simp [stepN, hpm]
                cases hd : dig (g (p + 1 + 1))
                · go_wp2_with (first | (go_at_call 26; have hba := byteAt_any v len g (p + 1 + 1) w H.out hl (by omega); rw [show ((p + 1 + 1 : Nat) : Int) = (p : Int) + 1 + 1 from by omega] at hba; refine hba.mono ?_; clear hba; rintro e w' ⟨rfl, hw'⟩; replace hw' := hw'.symm; subst hw') | (go_at_call 27; refine (isDigit_any _ _).mono ?_; rintro e w' ⟨rfl, hw'⟩; replace hw' := hw'.symm; subst hw'))
                  go_ret2
                  exact ⟨⟨p + 1 + 1, 7, by go_num, S.out.2.2 _ _ (Stops.cons h6.out (Stops.cons h7 (Stops.here (by simp [stepN, hd]))))⟩, rfl⟩
                · go_wp2_with (first | (go_at_call 26; have hba := byteAt_any v len g (p + 1 + 1) w H.out hl (by omega); rw [show ((p + 1 + 1 : Nat) : Int) = (p : Int) + 1 + 1 from by omega] at hba; refine hba.mono ?_; clear hba; rintro e w' ⟨rfl, hw'⟩; replace hw' := hw'.symm; subst hw') | (go_at_call 27; refine (isDigit_any _ _).mono ?_; rintro e w' ⟨rfl, hw'⟩; replace hw' := hw'.symm; subst hw') | (go_at_call 28; have hde := digitsEnd_any v len g (p + 1 + 1) w H.out hl (by omega); rw [show ((p + 1 + 1 : Nat) : Int) = (p : Int) + 1 + 1 from by omega] at hde; refine hde.mono ?_; clear hde; rintro e w' ⟨⟨q, rfl, hq, HQ'⟩, hw'⟩; replace hw' := hw'.symm; subst hw'; have HQ : Hid (DigEnd g (p + 1 + 1) q) := HQ'; clear HQ'))
                  go_ret2
                  exact ⟨⟨q, 8, rfl, S.out.2.2 _ _ (Stops.cons h6.out (Stops.cons h7 (HQ.out.stops hd (.inr (.inr rfl)) (by simp [stepN, hd]) (Stops.here (by simp [stepN, HQ.out.2.2])))))⟩, rfl⟩

set_option maxHeartbeats 400000 in
theorem numberEnd_out (v : Value) (len : Nat) (g : Nat → Int) (i : Nat) (w : World) (h : Dat w v len g) (hl : len ≤ 1048576) (hi : len ≤ i) (hm : i ≤ 9223372036854775807) :
    Calls Trym.prog 21 #[v, .int .i64 i] w fun e w' => (∃ q t : Nat, e = .returned (.tuple #[.int .i64 q, .bool (accN t)]) ∧ Stops g 0 i q t) ∧ w' = w := by
  have H : Hid (Dat w v len g) := h
  have e0 := h.1 i hi
  clear h
  go_enter Trym.func21, Trym.ntmps21
  go_wp2_with (first | (go_at_call 26; have hba := byteAt_any v len g i w H.out hl hm; rw [e0] at hba; refine hba.mono ?_; clear hba; rintro e w' ⟨rfl, hw'⟩; replace hw' := hw'.symm; subst hw') | (go_at_call 27; refine (isDigit_any 0 _).mono ?_; rintro e w' ⟨rfl, hw'⟩; replace hw' := hw'.symm; subst hw'; rw [show dig 0 = false from rfl]))
  go_ret2
  exact ⟨⟨i, 0, rfl, Stops.here (by rw [e0]; exact stepN_zero 0)⟩, rfl⟩

theorem numberEnd_any (v : Value) (len : Nat) (g : Nat → Int) (i : Nat) (w : World) (h : Dat w v len g) (hl : len ≤ 1048576) (hm : i ≤ 9223372036854775807) :
    Calls Trym.prog 21 #[v, .int .i64 i] w fun e w' => (∃ q t : Nat, e = .returned (.tuple #[.int .i64 q, .bool (accN t)]) ∧ Stops g 0 i q t) ∧ w' = w := by
  by_cases hi : i < len
  · exact numberEnd_in v len g i w h hl hi
  · exact numberEnd_out v len g i w h hl (by omega) hm

set_option maxHeartbeats 400000 in
theorem zzNumberEnd_any (v : Value) (len : Nat) (g : Nat → Int) (i : Nat) (w : World) (h : Dat w v len g) (hl : len ≤ 1048576) (hm : i ≤ 9223372036854775807) :
    Calls Trym.prog 10 #[v, .int .i64 i] w fun e w' => (∃ q t : Nat, e = .returned (.tuple #[.int .i64 q, .bool (accN t)]) ∧ Stops g 0 i q t) ∧ w' = w := by
  have H : Hid (Dat w v len g) := h
  clear h
  go_enter Trym.func10, Trym.ntmps10
  go_wp2_with (go_at_call 21; refine (numberEnd_any v len g i w H.out hl hm).mono ?_; rintro e w' ⟨⟨q, t, rfl, hst⟩, hw'⟩; replace hw' := hw'.symm; subst hw')
  go_ret2
  exact ⟨⟨q, t, rfl, hst⟩, rfl⟩
end Go.Proofs.Qxb6603995aMods
