import Derived.Test.Qxb6603995aModsHexWalks
import Derived.Test.Qxb6603995aModsCopyWalks
import Derived.ProofKit
import Derived.OpenShut
import Derived.ShutString
import Derived.ChangeOld
import Derived.Below
namespace Go.Proofs.Qxb6603995aMods.fnHexRuneMatchesPositionalValue
open Go.ChangeShapes Go.WideShapes Go.ChangeAt Go.RowKit
open Go.ChangeMaps (open_string shut_string)
set_option linter.unusedVariables false

/-! ### hexValue -/
def lo (d : Nat) : Int := if d < 10 then 48 + d else 87 + d
def up (d : Nat) : Int := if d < 10 then 48 + d else 55 + d
def hv (c : Int) : Int := if (48 ≤ c ∧ c ≤ 57) ∨ (65 ≤ c ∧ c ≤ 70) ∨ (97 ≤ c ∧ c ≤ 102) then nib c else -1

theorem lo_all : ∀ d : Fin 16, ((({ data := #[48, 49, 50, 51, 52, 53, 54, 55, 56, 57, 97, 98, 99, 100, 101, 102] } : ByteArray)[d.val]'d.isLt).toNat : Int) = lo d.val := by
  unfold lo
  decide
theorem up_all : ∀ d : Fin 16, ((({ data := #[48, 49, 50, 51, 52, 53, 54, 55, 56, 57, 65, 66, 67, 68, 69, 70] } : ByteArray)[d.val]'d.isLt).toNat : Int) = up d.val := by
  unfold up
  decide
theorem lo_at (d : Nat) (h : d < 16) : ((({ data := #[48, 49, 50, 51, 52, 53, 54, 55, 56, 57, 97, 98, 99, 100, 101, 102] } : ByteArray)[d]'h).toNat : Int) = lo d := lo_all ⟨d, h⟩
theorem up_at (d : Nat) (h : d < 16) : ((({ data := #[48, 49, 50, 51, 52, 53, 54, 55, 56, 57, 65, 66, 67, 68, 69, 70] } : ByteArray)[d]'h).toNat : Int) = up d := up_all ⟨d, h⟩
theorem hv_lo (d : Nat) (h : d < 16) (c : Int) (e : lo d = c) : (d : Int) = hv c := by
  subst e; unfold hv nib lo; split <;> repeat' split
  all_goals omega
theorem hv_up (d : Nat) (h : d < 16) (c : Int) (e : up d = c) : (d : Int) = hv c := by
  subst e; unfold hv nib up; split <;> repeat' split
  all_goals omega
theorem hv_none (c : Int) (h : ∀ d, d < 16 → lo d ≠ c ∧ up d ≠ c) : hv c = -1 := by
  unfold hv
  rw [if_neg]
  intro hc
  rcases hc with hc | hc | hc
  · have := (h (c - 48).toNat (by omega)).1
    unfold lo at this; rw [if_pos (by omega)] at this; omega
  · have := (h (c - 55).toNat (by omega)).2
    unfold up at this; rw [if_neg (by omega)] at this; omega
  · have := (h (c - 87).toNat (by omega)).1
    unfold lo at this; rw [if_neg (by omega)] at this; omega
theorem hv_neg {c : Int} (h : hv c < 0) : ¬ isHex c := by
  intro hx
  have := nib_bd hx
  unfold isHex at hx
  unfold hv at h
  rw [if_pos hx] at h
  omega
theorem hv_pos {c : Int} (h : ¬ hv c < 0) : isHex c ∧ hv c = nib c := by
  unfold hv at h ⊢
  unfold isHex
  by_cases hx : (48 ≤ c ∧ c ≤ 57) ∨ (65 ≤ c ∧ c ≤ 70) ∨ (97 ≤ c ∧ c ≤ 102)
  · exact ⟨hx, by rw [if_pos hx]⟩
  · rw [if_neg hx] at h; omega
theorem ret_int {k : IntKind} {a b : Int} (h : a = b) : Ending.returned (.int k a) = .returned (.int k b) := by rw [h]

set_option maxHeartbeats 400000 in
theorem hexValue_any (c : Int) (w : World) :
    Calls Trym.prog 18 #[.int .u8 c] w fun e w' => e = .returned (.int .i32 (hv c)) ∧ w' = w := by
  go_enter Trym.func18, Trym.ntmps18
  go_wp2
  go_loop [3] (fun i => ∃ d : Nat, d ≤ 16 ∧ i = .int .i64 d ∧ ∀ e, e < d → lo e ≠ c ∧ up e ≠ c) (fun i => 16 - (intOf i).toNat)
  case atStart => exact ⟨0, Nat.zero_le _, rfl, fun e he => by omega⟩
  case round =>
    obtain ⟨d, hd, rfl, hne⟩ := hrel
    by_cases hlt : d < 16
    · have e1 := lo_at d hlt
      have e2 := up_at d hlt
      have HN : Hid (∀ e, e < d → lo e ≠ c ∧ up e ≠ c) := hne
      clear hne
      by_cases h1 : (lo d == c) = true
      · go_wp2
        go_ret
        exact ⟨ret_int (hv_lo d hlt c (by simpa using h1)), rfl⟩
      · have h1' : (lo d == c) = false := by simpa using h1
        clear h1
        by_cases h2 : (up d == c) = true
        · go_wp2
          go_ret
          exact ⟨ret_int (hv_up d hlt c (by simpa using h2)), rfl⟩
        · have h2' : (up d == c) = false := by simpa using h2
          clear h2
          go_wp2
          go_round
          case rel => exact ⟨d + 1, by omega, by go_num, fun e he => by
            by_cases h : e = d
            · subst h; exact ⟨by simpa using h1', by simpa using h2'⟩
            · exact HN.out e (by omega)⟩
          case measure => simp [intOf]; omega
    · obtain rfl : d = 16 := by omega
      have e := hv_none c hne
      clear hne
      go_wp2
      go_ret
      exact ⟨rfl, rfl⟩

theorem own : ownKnob Trym.prog.godebug = none := by kernel_rfl
theorem laidOut : laidOutB Trym.prog = true := by kernel_rfl

/-- WHAT THE WALK IS TOLD OF A SLICE OF INTEGERS THAT CAME IN: it is nil; or it leads to a row of 'cap' cells, the numbers 'zs' (the first 'len' are its elements, the rest its spare room), each fitting its kind. -/
def IsRow (k : IntKind) (w : World) (a : Option Addr) (len cap : Nat) (zs : List Int) : Prop :=
  (a = none ∧ len = 0 ∧ cap = 0 ∧ zs = []) ∨
  ∃ x, a = some x ∧ len ≤ cap ∧ cap ≤ maxLen ∧ zs.length = cap ∧ (∀ i, i < zs.length → w.cell? (x.add i) = some (.int k (zs.getD i 0))) ∧ ∀ n ∈ zs, (Lit.int k n).wf = true

set_option maxHeartbeats 400000 in
theorem zzBytes_any (a : Option Addr) (len cap : Nat) (w : World) (h : len ≤ maxLen) :
    Calls Trym.prog 17 #[.slice a len cap] w fun e w' => e = .returned (.bool (decide (len ≤ 1048576))) ∧ w' = w := by
  unfold maxLen at h
  by_cases c : len ≤ 1048576
  · rw [show decide (len ≤ 1048576) = true from by simpa using c]
    go_enter Trym.func17, Trym.ntmps17
    go_wp2
    go_ret
    exact ⟨rfl, rfl⟩
  · rw [show decide (len ≤ 1048576) = false from by simpa using c]
    go_enter Trym.func17, Trym.ntmps17
    go_wp2
    go_ret
    exact ⟨rfl, rfl⟩

def place (k : Nat) : Int := if k = 0 then 4096 else if k = 1 then 256 else if k = 2 then 16 else 1
theorem hexPlace_any (k : Nat) (hk : k < 4) (w : World) : Calls Trym.prog 19 #[.int .i64 k] w fun e w' => e = .returned (.int .i32 (place k)) ∧ w' = w := by
  obtain rfl | rfl | rfl | rfl : k = 0 ∨ k = 1 ∨ k = 2 ∨ k = 3 := by omega
  all_goals go_enter Trym.func19, Trym.ntmps19
  all_goals go_wp2
  all_goals go_ret
  all_goals exact ⟨rfl, rfl⟩

/-- the sum of the first k digits' values at their places -/
def sumP (f : Nat → Int) : Nat → Int
  | 0 => 0
  | k + 1 => sumP f k + hv (f k) * place k

theorem hv_bd (c : Int) : -1 ≤ hv c ∧ hv c ≤ 15 := by
  by_cases h : hv c < 0
  · unfold hv at h ⊢; unfold nib at h ⊢; repeat' split
    all_goals omega
  · obtain ⟨hx, e⟩ := hv_pos h
    have := nib_bd hx
    omega
theorem hv_hex {c : Int} (h : isHex c) : hv c = nib c := by
  unfold hv; unfold isHex at h; rw [if_pos h]
theorem sumP_bd (f : Nat → Int) (k : Nat) (hk : k ≤ 4) (hx : ∀ j, j < k → isHex (f j)) : 0 ≤ sumP f k ∧ sumP f k ≤ 65535 := by
  have hb := fun j (h : j < k) => nib_bd (hx j h)
  have he := fun j (h : j < k) => hv_hex (hx j h)
  obtain rfl | rfl | rfl | rfl | rfl : k = 0 ∨ k = 1 ∨ k = 2 ∨ k = 3 ∨ k = 4 := by omega
  · simp [sumP]
  · have b0 := hb 0 (by omega)
    simp [sumP, he, place]; omega
  · have b0 := hb 0 (by omega)
    have b1 := hb 1 (by omega)
    simp [sumP, he, place]; omega
  · have b0 := hb 0 (by omega)
    have b1 := hb 1 (by omega)
    have b2 := hb 2 (by omega)
    simp [sumP, he, place]; omega
  · have b0 := hb 0 (by omega)
    have b1 := hb 1 (by omega)
    have b2 := hb 2 (by omega)
    have b3 := hb 3 (by omega)
    simp [sumP, he, place]; omega
theorem acc_sum (f : Nat → Int) (hx : ∀ j, j < 4 → isHex (f j)) : acc f 4 = sumP f 4 := by
  have he := fun j (h : j < 4) => hv_hex (hx j h)
  simp [sumP, acc, he, place]; omega

set_option maxHeartbeats 400000 in
theorem walk_row (b off cap : Nat) (zs : List Int) (w : World) (hl : zs.length ≤ 1048576) (h4 : 4 ≤ zs.length)
    (hc : ∀ j, j < zs.length → w.cell? ⟨b, off + j, none⟩ = some (.int .u8 (zs.getD j 0))) (hwf : ∀ j, j < zs.length → 0 ≤ zs.getD j 0 ∧ zs.getD j 0 ≤ 255) :
    Calls Trym.prog 6 #[.slice (some ⟨b, off, none⟩) zs.length cap] w fun e w' => e = .returned (.bool true) ∧ Below w.heap.size w w' := by
  have hz := zzBytes_any (some ⟨b, off, none⟩) zs.length cap w (by unfold maxLen; omega)
  rw [show decide (zs.length ≤ 1048576) = true from by simpa using hl] at hz
  obtain ⟨i0, hi, hz0, hz1, hz2⟩ := info_parts info5c
  obtain ⟨cs, hcs⟩ : ∃ cs, cs = zs.map (Value.int .u8) := ⟨_, rfl⟩
  have HC : Hid (cs = zs.map (Value.int .u8)) := hcs
  have HC1 : Hid (∀ v ∈ cs, v.oneCell' = true) := by rw [hcs]; exact cs_one zs
  have HL : Hid (cs.length = zs.length) := by rw [hcs]; simp [Hid]
  have HF : Hid (∀ x : World, Below w.heap.size w x → ∀ j v, cs[j]? = some v → x.cell? ((⟨b, off, none⟩ : Addr).add j) = some v) := by
    intro x hb j v hj
    rw [hcs] at hj
    obtain ⟨h1, h2⟩ := cs_at zs j v hj
    rw [h2, Addr.add_lit]
    exact cell_later hb (hc j h1)
  clear hcs hc
  go_enter Trym.func6, Trym.ntmps6
  go_wp2_with (first
    | (go_at_call 17; refine hz.mono ?_; rintro e w' ⟨rfl, hw'⟩; replace hw' := hw'.symm; subst hw')
    | (at_make; refine wpList_make_full _ rfl _ _ 22 rfl w.heap.size 5 i0 (.int .u8 0) 1 Trym.underlying22 hi hz0 hz1 _ _ _ _ zs.length rfl rfl rfl rfl (by rw [hz2]; omega) (by unfold maxLen; omega) (Nat.le_refl _) ?_; intro w1 hown hgr; have HM : Hid _ := made_row hown; have hb1 : Below w.heap.size w w1 := (Below.refl _ _).grown hgr (Nat.le_refl _) (fun k hk => by cases hk); clear hown hgr)
    | (refine wpList_copy_splice rfl (.tmp 21) (.tmp 22) 22 22 rfl 5 Trym.underlying22 size5c _ _ _ _ _ _ rfl rfl w.heap.size 0 _ 5 HM.out.1 cs (by rw [HL.out]; exact (Nat.min_self _).symm) (fun _ => ⟨rfl, _, rfl, HF.out _ hb1⟩) (by rw [HM.out.2, HL.out]; omega) HC1.out w.heap.size w hb1 (Nat.le_refl _) ?_; intro w2 hrow hb2))
  have hcell : ∀ j, j < zs.length → w2.cell? ⟨w.heap.size, 0 + j, none⟩ = some (.int .u8 (zs.getD j 0)) := row_cells (by have h := hrow.out; rw [splice_all _ _ (by rw [HL.out, HM.out.2]), HC.out] at h; exact h)
  obtain ⟨f, hf⟩ : ∃ f : Nat → Int, f = fun j => zs.getD j 0 := ⟨_, rfl⟩
  have hcf : ∀ j, j < 4 → w2.cell? ⟨w.heap.size, 0 + j, none⟩ = some (.int .u8 (f j)) := fun j hj => by rw [hf]; exact hcell j (by omega)
  clear hf hcell hrow HM hb1 HC HC1 HL HF hz hwf
  go_loop [4, 5] (fun t i => ∃ k : Nat, k ≤ 4 ∧ i = .int .i64 k ∧ t = .int .i32 (sumP f k) ∧ ∀ j, j < k → isHex (f j)) (fun _ i => 4 - (intOf i).toNat)
  case atStart => exact ⟨0, Nat.zero_le _, rfl, rfl, fun j hj => by omega⟩
  case round =>
    obtain ⟨k, hk, rfl, rfl, hx⟩ := hrel
    by_cases hlt : k < 4
    · have hck := hcf k hlt
      rw [Nat.zero_add] at hck
      obtain ⟨s0, s1⟩ := sumP_bd f k hk hx
      have hvb := hv_bd (f k)
      have HX : Hid (∀ j, j < k → isHex (f j)) := hx
      have HS : Hid (sumP f (k + 1) = sumP f k + hv (f k) * place k) := rfl
      clear hx hcf
      by_cases hneg : hv (f k) < 0
      · go_wp2_with (go_at_call 18; refine (hexValue_any _ _).mono ?_; rintro e w' ⟨rfl, hw'⟩; replace hw' := hw'.symm; subst hw')
        go_ret
        exact ⟨rfl, hb2⟩
      · have hpk := hexPlace_any k hlt
        obtain ⟨p, hp⟩ : ∃ p, p = place k := ⟨_, rfl⟩
        have HP : Hid (∀ w, Calls Trym.prog 19 #[.int .i64 k] w fun e w' => e = .returned (.int .i32 (place k)) ∧ w' = w) := hpk
        have hkk := hlt
        clear hpk hp
        obtain ⟨q, hq, q0, q1⟩ : ∃ q, hv (f k) * place k = q ∧ 0 ≤ q ∧ q ≤ 65535 := by
          refine ⟨_, rfl, ?_, ?_⟩ <;> (unfold place; repeat' split) <;> omega
        go_wp2_with (first | (go_at_call 18; refine (hexValue_any _ _).mono ?_; rintro e w' ⟨rfl, hw'⟩; replace hw' := hw'.symm; subst hw') | (go_at_call 19; refine (HP.out _).mono ?_; rintro e w' ⟨rfl, hw'⟩; replace hw' := hw'.symm; subst hw'))
        go_round
        case rel => exact ⟨k + 1, by omega, by go_num, by rw [HS.out, hq], fun j hj => by
          by_cases h : j = k
          · subst h; exact (hv_pos (by omega)).1
          · exact HX.out j (by omega)⟩
        case measure => simp [intOf]; omega
    · obtain rfl : k = 4 := by omega
      have hacc := acc_sum f hx
      go_wp2_with (go_at_call 20; refine (zzHexRune_any _ 0 _ _ f _ h4 (Nat.le_refl _) (by unfold maxLen; omega) hcf hx).mono ?_; rintro e w' ⟨rfl, hw'⟩; replace hw' := hw'.symm; subst hw')
      go_ret
      exact ⟨by simp, hb2⟩

theorem wf_at (zs : List Int) (h : ∀ n ∈ zs, (Lit.int .u8 n).wf = true) : ∀ j, j < zs.length → 0 ≤ zs.getD j 0 ∧ zs.getD j 0 ≤ 255 := by
  intro j hj
  have := bounds_u8 (h _ (List.getElem_mem hj))
  rw [List.getD_eq_getElem?_getD, List.getElem?_eq_getElem hj]
  simpa using this

theorem take_getD (zs : List Int) (n j : Nat) (h : j < n) : (zs.take n).getD j 0 = zs.getD j 0 := by
  simp [List.getD_eq_getElem?_getD, List.getElem?_take_of_lt h]

set_option maxHeartbeats 400000 in
theorem walk (a0 : Option Addr) (len0 cap0 : Nat) (z0 : List Int) (w : World) (w0 : IsRow .u8 w a0 len0 cap0 z0) :
    Calls Trym.prog 6 #[.slice a0 len0 cap0] w fun e w' => e = .returned (.bool true) ∧ Below w.heap.size w w' := by
  have hlm : len0 ≤ maxLen := by
    rcases w0 with ⟨_, h, _⟩ | ⟨x, _, h1, h2, _⟩
    · rw [h]; exact Nat.zero_le _
    · omega
  have hz := zzBytes_any a0 len0 cap0 w hlm
  unfold maxLen at hlm
  by_cases hs : len0 ≤ 1048576
  · by_cases h4 : len0 < 4
    · clear w0
      rw [show decide (len0 ≤ 1048576) = true from by simpa using hs] at hz
      go_enter Trym.func6, Trym.ntmps6
      go_wp2_with (go_at_call 17; refine hz.mono ?_; rintro e w' ⟨rfl, hw'⟩; replace hw' := hw'.symm; subst hw')
      go_ret
      exact ⟨rfl, Below.refl _ _⟩
    · clear hz
      rcases w0 with ⟨_, h, _⟩ | ⟨x, rfl, h1, h2, h3, hcell, hwf⟩
      · omega
      · obtain ⟨b, off, rfl, hc⟩ := ints_at hcell (by omega)
        have e : (z0.take len0).length = len0 := by simp; omega
        have := walk_row b off cap0 (z0.take len0) w (by omega) (by omega) (fun j hj => by rw [take_getD _ _ _ (by omega)]; exact hc j (by omega)) (fun j hj => by rw [take_getD _ _ _ (by omega)]; exact wf_at z0 hwf j (by omega))
        rw [e] at this
        exact this
  · clear w0
    rw [show decide (len0 ≤ 1048576) = false from by simpa using hs] at hz
    go_enter Trym.func6, Trym.ntmps6
    go_wp2_with (go_at_call 17; refine hz.mono ?_; rintro e w' ⟨rfl, hw'⟩; replace hw' := hw'.symm; subst hw')
    go_ret
    exact ⟨rfl, Below.refl _ _⟩
/-! ### THE ROW's STEP: WRITTEN OUT: LEAVE IT -/
set_option maxRecDepth 100000 in
theorem lifted (os : Os) (started : os.Started) (H : Type) (enc : TypeId × Value → H) :
    ReturnsInHanded {} Trym.checked os 6 .any (Rows.fnHexRuneMatchesPositionalValueSpec.pre6 enc Trym.prog Trym.f6 Rows.fnHexRuneMatchesPositionalValueRow.domain false) (Rows.fnHexRuneMatchesPositionalValueSpec.post enc Trym.prog Trym.f6 false true false false) := by
  refine returnsInHanded_of_change (C := Trym.checked) own started (by kernel_rfl) Trym.func6
    (ChangeSpec.witness6 (enc := enc) (C := Trym.checked) false ⟨#[], #[.slice none 0 0], []⟩ 8 (by kernel_rfl) (by kernel_rfl) (by kernel_rfl) (by kernel_rfl)) ?_
  intro W base args ds gs before hval0 hW hcnd _
  have hval : ∀ (j : Nat) t v, Trym.f6.params[j]? = some t → args[j]? = some v → Value.okWide Trym.prog W .any base t v := hval0
  have hW' := hW
  obtain ⟨p, q, hA0, hV, rfl, hfz, hnd⟩ := hW
  have hA : DataW.TrodAll enc Trym.prog W 0 (fun _ => true) true Trym.f6.params.toList args.toList ds p := hA0
  rw [Trym.params6] at hA hval
  obtain ⟨v0, vs0, d0, ds0, p0, q0, hargs, rfl, rfl, h0, r0⟩ := trodAll_cons hA
  obtain ⟨rfl, rfl, rfl⟩ := trodAll_nil r0
  obtain rfl : args = #[v0] := by cases args; simp_all
  obtain ⟨rfl, rfl⟩ := trodVars_none hV
  obtain ⟨a0, len0, cap0, rfl⟩ := okWide_slice Trym.underlying22 (hval 0 22 v0 rfl rfl)
  have k0 := h0
  have lt0 : ∀ x ∈ p0, x.block < W.heap.size := by obtain ⟨m, hm⟩ := k0; exact DataW.trod_lt m _ _ _ hm
  obtain ⟨z0, w0⟩ : ∃ zs, IsRow .u8 W a0 len0 cap0 zs := by
    obtain ⟨fuel, hf⟩ := h0
    rcases open_ints Trym.underlying22 Trym.underlying5 (by kernel_rfl) hf with ⟨hcs, _⟩ | ⟨x, l, c, zs, hcs, _, hl, hm, hz, _, hcell, hwz⟩
    · simp [Value.cells] at hcs
      obtain ⟨rfl, rfl, rfl⟩ := hcs
      exact ⟨[], .inl ⟨rfl, rfl, rfl, rfl⟩⟩
    · simp [Value.cells] at hcs
      obtain ⟨rfl, rfl, rfl⟩ := hcs
      exact ⟨zs, .inr ⟨_, rfl, hl, hm, by simpa using hz, hcell, hwz⟩⟩
  clear hA0 hval0
  refine (walk a0 len0 cap0 z0 W w0).mono fun e W' ⟨he, bel⟩ => ?_
  subst he
  exact ⟨_, rfl, _, _, _, [], _, [], hW', trodAll_mk1 (shut_bool Trym.underlying4 _), (trodAll_cons_mk (Below.trod laidOut (by kernel_rfl) (of_decide_eq_true (by kernel_rfl)) k0 bel lt0) trodAll_mk0), rfl, bel.frame _, fun h => by cases h⟩

theorem over : Rows.fnHexRuneMatchesPositionalValueRow.holds Trym.pinned (OpenSpec.ofChange Rows.fnHexRuneMatchesPositionalValueSpec) :=
  OpenClaim.holds_of_wide 6 Trym.f6 rfl rfl rfl rfl rfl rfl rfl ⟨rfl, rfl, rfl, rfl, rfl⟩ rfl rfl rfl rfl rfl (by kernel_rfl) Trym.func6 (by kernel_rfl)
    (of_decide_eq_true (by kernel_rfl)) (by unfold Func.isWrapper; first | (rw [if_pos (by decide +kernel)]; kernel_rfl) | (rw [if_neg (by decide +kernel)]; exact ⟨rfl, rfl⟩))
    (fun os started H enc _ => lifted os started H enc)

/-- ████ THE STATEMENT ████ -/
theorem proved : Rows.FnHexRuneMatchesPositionalValueSaid := over
#print axioms proved
end Go.Proofs.Qxb6603995aMods.fnHexRuneMatchesPositionalValue
