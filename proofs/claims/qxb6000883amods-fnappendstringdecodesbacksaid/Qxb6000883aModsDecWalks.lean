import Derived.Test.Qxb6000883aModsEscWalks
import Derived.Test.Qxb6000883aModsDecPlain
namespace Go.Proofs.Qxb6000883aMods
open Go.RowKit
set_option linter.unusedVariables false

set_option maxHeartbeats 400000 in
theorem zzHexVal_any (d : Int) (st : Bool) (w : World) (h0 : 0 ≤ d) (h1 : d < 16) : Calls Trym.prog 22 #[.int .u8 (hx d), .bool st] w fun e w' => e = .returned (.int .i64 d) ∧ w' = w := by
  by_cases h : d < 10
  · rw [show hx d = 48 + d from by unfold hx; rw [if_pos h]]
    go_enter Trym.func22, Trym.ntmps22
    go_wp2
    go_ret
    exact ⟨congrArg (fun x => Ending.returned (.int .i64 x)) (by omega), rfl⟩
  · rw [show hx d = 87 + d from by unfold hx; rw [if_neg h]]
    go_enter Trym.func22, Trym.ntmps22
    go_wp2
    go_ret
    exact ⟨congrArg (fun x => Ending.returned (.int .i64 x)) (by omega), rfl⟩

/-- the value that the four hex digits have given behind m of them -/
def vAt (c : Int) : Nat → Int
  | 0 => 0
  | 1 => 0
  | 2 => 0
  | 3 => c / 16
  | _ => c
/-- the m-th of the four hex digits -/
def dAt (c : Int) : Nat → Int
  | 0 => 0
  | 1 => 0
  | 2 => c / 16
  | _ => c % 16

theorem vAt_step (c : Int) (h0 : 0 ≤ c) (h1 : c < 32) (m : Nat) (hm : m < 4) : vAt c m * 16 + dAt c m = vAt c (m + 1) ∧ 0 ≤ vAt c m ∧ vAt c m ≤ 255 ∧ 0 ≤ dAt c m ∧ dAt c m < 16 := by
  obtain rfl | rfl | rfl | rfl : m = 0 ∨ m = 1 ∨ m = 2 ∨ m = 3 := by omega
  all_goals simp only [vAt, dAt]
  all_goals omega
theorem ctl_at (c : Int) (m : Nat) (hm : m < 4) : [92, 117, 48, 48, hx (c / 16), hx (c % 16)].getD (m + 2) 0 = hx (dAt c m) := by
  obtain rfl | rfl | rfl | rfl : m = 0 ∨ m = 1 ∨ m = 2 ∨ m = 3 := by omega
  all_goals rfl

set_option maxRecDepth 10000 in
set_option maxHeartbeats 2000000 in
theorem zzDecode_any (gb cap : Nat) (l : List Int) (st : Bool) (w : World) (hl : l.length ≤ 1048576) (hr : ∀ j, j < l.length → 0 ≤ l.getD j 0 ∧ l.getD j 0 < 256)
    (hc : ∀ j, j < (enc l).length → w.cell? ⟨gb, 0 + j, none⟩ = some (.int .u8 ((enc l).getD j 0))) :
    Calls Trym.prog 10 #[.slice (some ⟨gb, 0, none⟩) (enc l).length cap, .bool st] w fun e w' => ∃ v N, e = .returned (.tuple #[v, .bool true]) ∧ Lib.OwnBuf w.heap.size 5 v N (cI l) w w' := by
  obtain ⟨i0, hi, hz0, hz1, hz2⟩ := info_parts info5
  obtain ⟨n, hn⟩ : ∃ n, n = (enc l).length := ⟨_, rfl⟩
  obtain ⟨T, hT⟩ : ∃ T, T = pos l l.length := ⟨_, rfl⟩
  have hnb := enc_len l
  have hpe := pos_end l
  rw [← hn] at hc hnb hpe ⊢
  rw [← hT] at hpe
  have hn2 : 2 ≤ n := by omega
  have hnu : n ≤ 6291458 := by omega
  have hTn : T = n - 1 := by omega
  have hc0 := hc 0 (by omega)
  rw [enc_first, Nat.zero_add] at hc0
  have hcT := hc T (by omega)
  rw [hT, enc_last, ← hT, hTn, Nat.zero_add] at hcT
  have HCE : Hid (∀ (x : World), Below w.heap.size w x → ∀ k m, k < l.length → m < (esc (l.getD k 0)).length → x.cell? ⟨gb, pos l k + m, none⟩ = some (.int .u8 ((esc (l.getD k 0)).getD m 0))) := by
    intro x hb k m hk hm
    have hp := pos_succ l k hk
    have hq := pos_le l (k + 1)
    have := cell_later hb (hc (pos l k + m) (by omega))
    rw [Nat.zero_add, enc_at l k m hk hm] at this
    exact this
  have HPE : Hid (pos l l.length = n - 1) := by show _ = _; rw [← hT]; exact hTn
  have HR : Hid (∀ j, j < l.length → 0 ≤ l.getD j 0 ∧ l.getD j 0 < 256) := hr
  clear hc hT hTn hn hnb hpe hr
  go_enter Trym.func10, Trym.ntmps10
  go_wp2_with (at_make; refine wpList_make_own _ rfl _ _ 23 rfl w.heap.size 5 i0 (.int .u8 0) 1 Trym.underlying23 hi hz0 hz1 _ _ _ n rfl rfl rfl (by rw [hz2]; omega) (by unfold maxLen; omega) (Nat.le_refl _) ?_; intro w1 hown hgr; have hb1 : Lib.OwnBuf w.heap.size 5 (.slice (some ⟨w.heap.size, 0, none⟩) 0 n) 0 (cI []) w w1 := ⟨World.ownsRowF_of hown, (Below.refl _ _).grown hgr (Nat.le_refl _) (fun k hk => by cases hk), hgr.size⟩; clear hown hgr)
  go_loopw [7, 8] (fun vb ix wr => ∃ (k N p : Nat), k ≤ l.length ∧ ix = .int .i64 p ∧ Hid (p = pos l k) ∧ Lib.OwnBuf w.heap.size 5 vb N (cI (l.take k)) w wr) (fun _ ix _ => n - (intOf ix).toNat)
  case atStart => exact ⟨0, 0, 1, Nat.zero_le _, rfl, (pos_zero l).symm, hb1⟩
  case round =>
    clear hc0 hcT
    obtain ⟨k, N, p, hk, rfl, HP, hb⟩ := hrel
    have hN : N ≤ 1048576 := by
      have := lenBuf hb
      rw [cI_length, List.length_take] at this
      omega
    have hpn : p ≤ n - 1 := by have := pos_le l k; rw [HPE.out, ← HP.out] at this; exact this
    by_cases hk2 : k < l.length
    · obtain ⟨c, hc⟩ : ∃ c, c = l.getD k 0 := ⟨_, rfl⟩
      have HC : Hid (c = l.getD k 0) := hc
      obtain ⟨hc0, hc1⟩ := HR.out k hk2
      rw [← hc] at hc0 hc1
      have hps : p + (esc c).length ≤ n - 1 := by
        have := pos_le l (k + 1)
        rw [HPE.out, pos_succ l k hk2, ← HP.out, ← hc] at this
        exact this
      clear hc
      by_cases hpl : 32 ≤ c ∧ c ≠ 34 ∧ c ≠ 92
      · obtain ⟨p1, p2, p3⟩ := hpl
        have he := esc_plain c p1 p2 p3
        have f0 := HCE.out wr hb.2.1 k 0 hk2 (by rw [← HC.out, he]; simp)
        rw [← HC.out, he, Nat.add_zero, ← HP.out] at f0
        replace f0 : wr.cell? ⟨gb, p, none⟩ = some (.int .u8 c) := f0
        have hp2 : p + 1 ≤ n - 1 := by have := hps; rw [he] at this; exact this
        have HE : Hid (esc c = [c]) := he
        have p2' : (c == 34) = false := by simpa using p2
        have p3' : (c != 92) = true := by simpa using p3
        clear he hps p2 p3
        go_wp2_with (at_builtin; refine Lib.wpList_append_byte rfl (.tmp 50) (.tmp 52) 23 rfl w.heap.size 5 i0 Trym.underlying23 hi hz0 hz1 hz2 _ _ _ rfl w _ c hb rfl (by omega) ?_; intro v2 w2 hb2)
        go_roundw
        case rel => exact ⟨k + 1, N + 1, p + 1, by omega, by go_num, by show _ = _; rw [pos_succ l k hk2, ← HC.out, HE.out, HP.out]; rfl, by rw [take_succ_getD l k hk2, cI_append, ← HC.out]; exact hb2⟩
        case measure => simp [intOf]; omega
      · have h9 : c = 34 ∨ c = 92 ∨ c = 8 ∨ c = 9 ∨ c = 10 ∨ c = 12 ∨ c = 13 ∨ (c < 32 ∧ c ≠ 8 ∧ c ≠ 9 ∧ c ≠ 10 ∧ c ≠ 12 ∧ c ≠ 13) := by omega
        clear hpl
        rcases h9 with rfl | rfl | rfl | rfl | rfl | rfl | rfl | ⟨q0, q8, q9, q10, q12, q13⟩
        · have f0 := HCE.out wr hb.2.1 k 0 hk2 (by rw [← HC.out]; decide)
          have f1 := HCE.out wr hb.2.1 k 1 hk2 (by rw [← HC.out]; decide)
          rw [← HC.out, Nat.add_zero, ← HP.out] at f0
          rw [← HC.out, ← HP.out] at f1
          replace f0 : wr.cell? ⟨gb, p, none⟩ = some (.int .u8 92) := f0
          replace f1 : wr.cell? ⟨gb, p + 1, none⟩ = some (.int .u8 34) := f1
          have hp2 : p + 2 ≤ n - 1 := hps
          clear hps
          go_wp2_with (at_builtin; refine Lib.wpList_append_byte rfl (.tmp 70) (.tmp 72) 23 rfl w.heap.size 5 i0 Trym.underlying23 hi hz0 hz1 hz2 _ _ _ rfl w _ 34 hb rfl (by omega) ?_; intro v2 w2 hb2)
          go_roundw
          case rel => exact ⟨k + 1, N + 1, p + 2, by omega, by go_num, by show _ = _; rw [pos_succ l k hk2, ← HC.out, HP.out]; rfl, by rw [take_succ_getD l k hk2, cI_append, ← HC.out]; exact hb2⟩
          case measure => simp [intOf]; omega
        · have f0 := HCE.out wr hb.2.1 k 0 hk2 (by rw [← HC.out]; decide)
          have f1 := HCE.out wr hb.2.1 k 1 hk2 (by rw [← HC.out]; decide)
          rw [← HC.out, Nat.add_zero, ← HP.out] at f0
          rw [← HC.out, ← HP.out] at f1
          replace f0 : wr.cell? ⟨gb, p, none⟩ = some (.int .u8 92) := f0
          replace f1 : wr.cell? ⟨gb, p + 1, none⟩ = some (.int .u8 92) := f1
          have hp2 : p + 2 ≤ n - 1 := hps
          clear hps
          go_wp2_with (at_builtin; refine Lib.wpList_append_byte rfl (.tmp 70) (.tmp 72) 23 rfl w.heap.size 5 i0 Trym.underlying23 hi hz0 hz1 hz2 _ _ _ rfl w _ 92 hb rfl (by omega) ?_; intro v2 w2 hb2)
          go_roundw
          case rel => exact ⟨k + 1, N + 1, p + 2, by omega, by go_num, by show _ = _; rw [pos_succ l k hk2, ← HC.out, HP.out]; rfl, by rw [take_succ_getD l k hk2, cI_append, ← HC.out]; exact hb2⟩
          case measure => simp [intOf]; omega
        · have f0 := HCE.out wr hb.2.1 k 0 hk2 (by rw [← HC.out]; decide)
          have f1 := HCE.out wr hb.2.1 k 1 hk2 (by rw [← HC.out]; decide)
          rw [← HC.out, Nat.add_zero, ← HP.out] at f0
          rw [← HC.out, ← HP.out] at f1
          replace f0 : wr.cell? ⟨gb, p, none⟩ = some (.int .u8 92) := f0
          replace f1 : wr.cell? ⟨gb, p + 1, none⟩ = some (.int .u8 98) := f1
          have hp2 : p + 2 ≤ n - 1 := hps
          clear hps
          go_wp2_with (at_builtin; refine Lib.wpList_append_byte rfl (.tmp 87) (.tmp 88) 23 rfl w.heap.size 5 i0 Trym.underlying23 hi hz0 hz1 hz2 _ _ _ rfl w _ 8 hb rfl (by omega) ?_; intro v2 w2 hb2)
          go_roundw
          case rel => exact ⟨k + 1, N + 1, p + 2, by omega, by go_num, by show _ = _; rw [pos_succ l k hk2, ← HC.out, HP.out]; rfl, by rw [take_succ_getD l k hk2, cI_append, ← HC.out]; exact hb2⟩
          case measure => simp [intOf]; omega
        · have f0 := HCE.out wr hb.2.1 k 0 hk2 (by rw [← HC.out]; decide)
          have f1 := HCE.out wr hb.2.1 k 1 hk2 (by rw [← HC.out]; decide)
          rw [← HC.out, Nat.add_zero, ← HP.out] at f0
          rw [← HC.out, ← HP.out] at f1
          replace f0 : wr.cell? ⟨gb, p, none⟩ = some (.int .u8 92) := f0
          replace f1 : wr.cell? ⟨gb, p + 1, none⟩ = some (.int .u8 116) := f1
          have hp2 : p + 2 ≤ n - 1 := hps
          clear hps
          go_wp2_with (at_builtin; refine Lib.wpList_append_byte rfl (.tmp 94) (.tmp 95) 23 rfl w.heap.size 5 i0 Trym.underlying23 hi hz0 hz1 hz2 _ _ _ rfl w _ 9 hb rfl (by omega) ?_; intro v2 w2 hb2)
          go_roundw
          case rel => exact ⟨k + 1, N + 1, p + 2, by omega, by go_num, by show _ = _; rw [pos_succ l k hk2, ← HC.out, HP.out]; rfl, by rw [take_succ_getD l k hk2, cI_append, ← HC.out]; exact hb2⟩
          case measure => simp [intOf]; omega
        · have f0 := HCE.out wr hb.2.1 k 0 hk2 (by rw [← HC.out]; decide)
          have f1 := HCE.out wr hb.2.1 k 1 hk2 (by rw [← HC.out]; decide)
          rw [← HC.out, Nat.add_zero, ← HP.out] at f0
          rw [← HC.out, ← HP.out] at f1
          replace f0 : wr.cell? ⟨gb, p, none⟩ = some (.int .u8 92) := f0
          replace f1 : wr.cell? ⟨gb, p + 1, none⟩ = some (.int .u8 110) := f1
          have hp2 : p + 2 ≤ n - 1 := hps
          clear hps
          go_wp2_with (at_builtin; refine Lib.wpList_append_byte rfl (.tmp 101) (.tmp 102) 23 rfl w.heap.size 5 i0 Trym.underlying23 hi hz0 hz1 hz2 _ _ _ rfl w _ 10 hb rfl (by omega) ?_; intro v2 w2 hb2)
          go_roundw
          case rel => exact ⟨k + 1, N + 1, p + 2, by omega, by go_num, by show _ = _; rw [pos_succ l k hk2, ← HC.out, HP.out]; rfl, by rw [take_succ_getD l k hk2, cI_append, ← HC.out]; exact hb2⟩
          case measure => simp [intOf]; omega
        · have f0 := HCE.out wr hb.2.1 k 0 hk2 (by rw [← HC.out]; decide)
          have f1 := HCE.out wr hb.2.1 k 1 hk2 (by rw [← HC.out]; decide)
          rw [← HC.out, Nat.add_zero, ← HP.out] at f0
          rw [← HC.out, ← HP.out] at f1
          replace f0 : wr.cell? ⟨gb, p, none⟩ = some (.int .u8 92) := f0
          replace f1 : wr.cell? ⟨gb, p + 1, none⟩ = some (.int .u8 102) := f1
          have hp2 : p + 2 ≤ n - 1 := hps
          clear hps
          go_wp2_with (at_builtin; refine Lib.wpList_append_byte rfl (.tmp 108) (.tmp 109) 23 rfl w.heap.size 5 i0 Trym.underlying23 hi hz0 hz1 hz2 _ _ _ rfl w _ 12 hb rfl (by omega) ?_; intro v2 w2 hb2)
          go_roundw
          case rel => exact ⟨k + 1, N + 1, p + 2, by omega, by go_num, by show _ = _; rw [pos_succ l k hk2, ← HC.out, HP.out]; rfl, by rw [take_succ_getD l k hk2, cI_append, ← HC.out]; exact hb2⟩
          case measure => simp [intOf]; omega
        · have f0 := HCE.out wr hb.2.1 k 0 hk2 (by rw [← HC.out]; decide)
          have f1 := HCE.out wr hb.2.1 k 1 hk2 (by rw [← HC.out]; decide)
          rw [← HC.out, Nat.add_zero, ← HP.out] at f0
          rw [← HC.out, ← HP.out] at f1
          replace f0 : wr.cell? ⟨gb, p, none⟩ = some (.int .u8 92) := f0
          replace f1 : wr.cell? ⟨gb, p + 1, none⟩ = some (.int .u8 114) := f1
          have hp2 : p + 2 ≤ n - 1 := hps
          clear hps
          go_wp2_with (at_builtin; refine Lib.wpList_append_byte rfl (.tmp 115) (.tmp 116) 23 rfl w.heap.size 5 i0 Trym.underlying23 hi hz0 hz1 hz2 _ _ _ rfl w _ 13 hb rfl (by omega) ?_; intro v2 w2 hb2)
          go_roundw
          case rel => exact ⟨k + 1, N + 1, p + 2, by omega, by go_num, by show _ = _; rw [pos_succ l k hk2, ← HC.out, HP.out]; rfl, by rw [take_succ_getD l k hk2, cI_append, ← HC.out]; exact hb2⟩
          case measure => simp [intOf]; omega
        · have he := esc_ctl c q0 q8 q9 q10 q12 q13
          have f0 := HCE.out wr hb.2.1 k 0 hk2 (by rw [← HC.out, he]; simp)
          have f1 := HCE.out wr hb.2.1 k 1 hk2 (by rw [← HC.out, he]; simp)
          rw [← HC.out, he, Nat.add_zero, ← HP.out] at f0
          rw [← HC.out, he, ← HP.out] at f1
          replace f0 : wr.cell? ⟨gb, p, none⟩ = some (.int .u8 92) := f0
          replace f1 : wr.cell? ⟨gb, p + 1, none⟩ = some (.int .u8 117) := f1
          have HF : Hid (∀ m, m < 4 → wr.cell? ⟨gb, p + (m + 2), none⟩ = some (.int .u8 (hx (dAt c m)))) := by
            intro m hm
            have := HCE.out wr hb.2.1 k (m + 2) hk2 (by rw [← HC.out, he]; simp; omega)
            rw [← HC.out, he, ctl_at c m hm, ← HP.out] at this
            exact this
          have hp2 : p + 6 ≤ n - 1 := by have := hps; rw [he] at this; exact this
          have HE : Hid (esc c = [92, 117, 48, 48, hx (c / 16), hx (c % 16)]) := he
          have q8' : (c == 8) = false := by simpa using q8
          have q9' : (c == 9) = false := by simpa using q9
          have q10' : (c == 10) = false := by simpa using q10
          have q12' : (c == 12) = false := by simpa using q12
          have q13' : (c == 13) = false := by simpa using q13
          have h37 : decide ((p : Int) < (n : Int) - 1) = true := by simp; omega
          clear he hps q8 q9 q10 q12 q13
          go_wp2
          go_loop [11, 12] (fun sv sk => ∃ m : Nat, m ≤ 4 ∧ sk = .int .i64 ((m : Int) + 2) ∧ sv = .int .i64 (vAt c m)) (fun _ sk => 6 - (intOf sk).toNat)
          case atStart => exact ⟨0, by omega, rfl, rfl⟩
          case round =>
            obtain ⟨m, hm, rfl, rfl⟩ := hrel
            by_cases hm4 : m < 4
            · obtain ⟨s1, s2, s3, s4, s5⟩ := vAt_step c hc0 q0 m hm4
              have f2 := HF.out m hm4
              have hh := fun w => zzHexVal_any (dAt c m) st w s4 s5
              have HS : Hid (vAt c m * 16 + dAt c m = vAt c (m + 1)) := s1
              clear s1
              go_wp2_with (go_at_call 22; refine (hh _).mono ?_; rintro e w' ⟨rfl, hw'⟩; replace hw' := hw'.symm; subst hw')
              go_round
              case rel => exact ⟨m + 1, by omega, by go_num, by rw [← HS.out]⟩
              case measure => simp [intOf]; omega
            · obtain rfl : m = 4 := by omega
              rw [show vAt c 4 = c from rfl]
              cases st
              all_goals
                go_wp2_with (at_builtin; refine Lib.wpList_append_byte rfl (.tmp 172) (.tmp 175) 23 rfl w.heap.size 5 i0 Trym.underlying23 hi hz0 hz1 hz2 _ _ _ rfl w _ c hb rfl (by omega) ?_; intro v2 w2 hb2)
                go_roundw
                case rel => exact ⟨k + 1, N + 1, p + 6, by omega, by go_num, by show _ = _; rw [pos_succ l k hk2, ← HC.out, HE.out, HP.out]; rfl, by rw [take_succ_getD l k hk2, cI_append, ← HC.out]; exact hb2⟩
                case measure => simp [intOf]; omega
    · obtain rfl : k = l.length := by omega
      have hpe : p = n - 1 := by rw [HP.out, HPE.out]
      rw [List.take_of_length_le (Nat.le_refl _)] at hb
      subst hpe
      go_wp2
      go_ret2
      exact ⟨_, N, rfl, hb⟩
end Go.Proofs.Qxb6000883aMods
