import Derived.Test.Qxb6603995aModsRows
import Derived.WalkKit
import Derived.WalkSpells
import Derived.WalkLawsBesides
import Derived.Laws.BitsAllLaws
namespace Go.Proofs.Qxb6603995aMods
open Go.RowKit
set_option linter.unusedVariables false

/-! ### plain arithmetic -/
def isHex (c : Int) : Prop := (48 ≤ c ∧ c ≤ 57) ∨ (65 ≤ c ∧ c ≤ 70) ∨ (97 ≤ c ∧ c ≤ 102)
def nib (c : Int) : Int := if c ≤ 57 then c - 48 else if c ≤ 70 then c - 55 else c - 87
def acc (f : Nat → Int) : Nat → Int
  | 0 => 0
  | k + 1 => 16 * acc f k + nib (f k)

theorem nib_bd {c : Int} (h : isHex c) : 0 ≤ nib c ∧ nib c ≤ 15 := by
  unfold isHex at h; unfold nib
  repeat' split
  all_goals omega
theorem nib_lo {c : Int} (h : isHex c) (h1 : c ≤ 57) : (c - 48) % 256 = nib c := by
  unfold isHex at h; unfold nib; rw [if_pos h1]; omega
theorem nib_up {c : Int} (h1 : 57 < c) (h2 : c ≤ 70) : c - 55 = nib c := by
  unfold nib; rw [if_neg (by omega), if_pos h2]
theorem nib_hi {c : Int} (h : isHex c) (h1 : 57 < c) (h2 : 70 < c) : (c - 87) % 256 = nib c := by
  unfold isHex at h; unfold nib; rw [if_neg (by omega), if_neg (by omega)]; omega
theorem acc_bd (f : Nat → Int) (hx : ∀ k, k < 4 → isHex (f k)) (k : Nat) (hk : k ≤ 4) : 0 ≤ acc f k ∧ acc f k ≤ 65535 ∧ (k < 4 → acc f k ≤ 4095) := by
  have b0 := nib_bd (hx 0 (by omega))
  have b1 := nib_bd (hx 1 (by omega))
  have b2 := nib_bd (hx 2 (by omega))
  have b3 := nib_bd (hx 3 (by omega))
  match k, hk with
  | 0, _ => simp only [acc]; omega
  | 1, _ => simp only [acc]; omega
  | 2, _ => simp only [acc]; omega
  | 3, _ => simp only [acc]; omega
  | 4, _ => simp only [acc]; omega
theorem wrap_i32_lo (n : Int) (h0 : 0 ≤ n) (h1 : n < 2147483648) : IntKind.i32.wrap n = n := by
  simp [IntKind.wrap, IntKind.bits, IntKind.signed]
  split <;> omega
theorem or_nib (a n : Int) (h0 : 0 ≤ a) (h1 : a ≤ 4095) (h2 : 0 ≤ n) (h3 : n ≤ 15) : bits BinOp.or IntKind.i32 (a * 16) n = 16 * a + n := by
  obtain ⟨A, rfl⟩ := Int.eq_ofNat_of_zero_le h0
  obtain ⟨N, rfl⟩ := Int.eq_ofNat_of_zero_le h2
  have e : ((A : Int) * 16) = ((2 ^ 4 * A : Nat) : Int) := by omega
  rw [e]
  show IntKind.i32.wrap ((BitVec.ofInt 32 ((2 ^ 4 * A : Nat) : Int) ||| BitVec.ofInt 32 (N : Int)).toNat : Int) = _
  rw [BitVec.toNat_or, ofInt_u32 _ (by omega), ofInt_u32 N (by omega), ← Nat.two_pow_add_eq_or_of_lt (by omega : N < 2 ^ 4)]
  rw [wrap_i32_lo _ (by omega) (by omega)]
  omega

set_option maxHeartbeats 400000 in
theorem hexRune_any (b off len cap : Nat) (f : Nat → Int) (w : World) (hl : 4 ≤ len) (hlc : len ≤ cap) (hcap : cap ≤ maxLen)
    (hc : ∀ k, k < 4 → w.cell? ⟨b, off + k, none⟩ = some (.int .u8 (f k))) (hx : ∀ k, k < 4 → isHex (f k)) :
    Calls Trym.prog 25 #[.slice (some ⟨b, off, none⟩) len cap] w fun e w' => e = .returned (.int .i32 (acc f 4)) ∧ w' = w := by
  unfold maxLen at hcap
  go_enter Trym.func25, Trym.ntmps25
  go_wp2
  go_loop [3, 9] (fun r i => ∃ k : Nat, k ≤ 4 ∧ i = .int .i64 k ∧ r = .int .i32 (acc f k)) (fun _ i => 4 - (intOf i).toNat)
  case atStart => exact ⟨0, Nat.zero_le _, rfl, rfl⟩
  case round =>
    obtain ⟨k, hk, rfl, rfl⟩ := hrel
    by_cases hlt : k < 4
    · have hck := hc k hlt
      have hxk := hx k hlt
      obtain ⟨a0, a1, a2⟩ := acc_bd f hx k hk
      have a3 := a2 hlt
      obtain ⟨n0, n1⟩ := nib_bd hxk
      have E : Hid (bits BinOp.or IntKind.i32 (acc f k * 16) (nib (f k)) = 16 * acc f k + nib (f k)) := or_nib (acc f k) (nib (f k)) a0 a3 n0 n1
      clear a2
      go_wp2
      · go_round
        case rel => exact ⟨k + 1, by omega, by go_num, by rw [nib_lo hxk ‹_›, E.out]; rfl⟩
        case measure => simp [intOf]; omega
      · go_round
        case rel => exact ⟨k + 1, by omega, by go_num, by rw [nib_up ‹_› ‹_›, E.out]; rfl⟩
        case measure => simp [intOf]; omega
      · go_round
        case rel => exact ⟨k + 1, by omega, by go_num, by rw [nib_hi hxk ‹_› ‹_›, E.out]; rfl⟩
        case measure => simp [intOf]; omega
    · obtain rfl : k = 4 := by omega
      go_wp2
      go_ret
      exact ⟨rfl, rfl⟩

set_option maxHeartbeats 400000 in
theorem zzHexRune_any (b off len cap : Nat) (f : Nat → Int) (w : World) (hl : 4 ≤ len) (hlc : len ≤ cap) (hcap : cap ≤ maxLen)
    (hc : ∀ k, k < 4 → w.cell? ⟨b, off + k, none⟩ = some (.int .u8 (f k))) (hx : ∀ k, k < 4 → isHex (f k)) :
    Calls Trym.prog 20 #[.slice (some ⟨b, off, none⟩) len cap] w fun e w' => e = .returned (.int .i32 (acc f 4)) ∧ w' = w := by
  go_enter Trym.func20, Trym.ntmps20
  go_wp2_with (go_at_call 25; refine (hexRune_any b off len cap f _ hl hlc hcap hc hx).mono ?_; rintro e w' ⟨rfl, rfl⟩)
  go_ret
  exact ⟨rfl, rfl⟩
end Go.Proofs.Qxb6603995aMods
