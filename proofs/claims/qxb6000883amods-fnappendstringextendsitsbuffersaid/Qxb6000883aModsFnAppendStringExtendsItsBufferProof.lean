import Derived.Test.Qxb6000883aModsEscWalks
import Derived.ProofKit
import Derived.OpenShut
import Derived.ShutString
import Derived.ChangeOld
import Derived.Below
import Derived.Deep.QuietTactic
import Derived.BigQuiet
namespace Go.Proofs.Qxb6000883aMods.fnAppendStringExtendsItsBuffer
open Go.ChangeShapes Go.WideShapes Go.ChangeAt Go.RowKit
open Go.ChangeMaps (open_string shut_string)
set_option linter.unusedVariables false

theorem own : ownKnob Trym.prog.godebug = none := by kernel_rfl
theorem laidOut : laidOutB Trym.prog = true := by kernel_rfl

/-- WHAT THE WALK IS TOLD OF A SLICE OF INTEGERS THAT CAME IN: it is nil; or it leads to a row of 'cap' cells, the numbers 'zs' (the first 'len' are its elements, the rest its spare room), each fitting its kind. -/
def IsRow (k : IntKind) (w : World) (a : Option Addr) (len cap : Nat) (zs : List Int) : Prop :=
  (a = none ∧ len = 0 ∧ cap = 0 ∧ zs = []) ∨
  ∃ x, a = some x ∧ len ≤ cap ∧ cap ≤ maxLen ∧ zs.length = cap ∧ (∀ i, i < zs.length → w.cell? (x.add i) = some (.int k (zs.getD i 0))) ∧ ∀ n ∈ zs, (Lit.int k n).wf = true

theorem eqNil : ∀ (w : World) (a : Option Addr) (n c n' c' : Nat), (binOp .eql 23 (.slice a n c) (.slice none n' c')).run Trym.prog w = .ok (.bool a.isNone) w := fun w a n c n' c' => Lib.run_eql_slice_nil w _ _ a n c n' c' Trym.underlying23

/-! ### zzClone -/
theorem clone_nil (w : World) : Calls Trym.prog 14 #[.slice none 0 0] w fun e w' => e = .returned (.slice none 0 0) ∧ w' = w := by
  have hq := eqNil
  go_enter Trym.func14, Trym.ntmps14
  go_wp2
  go_ret
  exact ⟨rfl, rfl⟩

/-- the new row behind k rounds -/
def Copied (zs : List Int) (B k : Nat) (wr : World) : Prop :=
  (∀ j, j < k → wr.cell? ⟨B, j, none⟩ = some (.int .u8 (zs.getD j 0))) ∧ (∀ j, j < zs.length → ∃ u, wr.cell? ⟨B, j, none⟩ = some u) ∧ (∀ j, wr.frozen? ⟨B, j, none⟩ = false)
theorem Copied.step {zs : List Int} {B k : Nat} {wr : World} (h : Copied zs B k wr) (hk : k < zs.length) : Copied zs B (k + 1) (wr.setCell ⟨B, k, none⟩ (.int .u8 (zs.getD k 0))) := by
  obtain ⟨h1, h2, h3⟩ := h
  obtain ⟨u, hu⟩ := h2 k hk
  have hs : (wr.setCell ⟨B, k, none⟩ (.int .u8 (zs.getD k 0))).cell? ⟨B, k, none⟩ = some (.int .u8 (zs.getD k 0)) := World.cell?_setCell_same (w := wr) (a := ⟨B, k, none⟩) (v := .int .u8 (zs.getD k 0)) hu
  have ho : ∀ j, j ≠ k → (wr.setCell ⟨B, k, none⟩ (.int .u8 (zs.getD k 0))).cell? ⟨B, j, none⟩ = wr.cell? ⟨B, j, none⟩ := fun j hj =>
    World.cell?_setCell_other (w := wr) (a := ⟨B, k, none⟩) (b := ⟨B, j, none⟩) (v := .int .u8 (zs.getD k 0)) (by intro h; injection h; omega)
  refine ⟨fun j hj => ?_, fun j hj => ?_, fun j => by simpa using h3 j⟩
  · by_cases e : j = k
    · subst e; exact hs
    · rw [ho j e]; exact h1 j (by omega)
  · by_cases e : j = k
    · subst e; exact ⟨_, hs⟩
    · rw [ho j e]; exact h2 j hj
theorem Copied.made {w : World} {B : Nat} {zs : List Int} {xs : List Value} (h : w.ownsRow B 5 1 (.slice (some ⟨B, 0, none⟩) zs.length zs.length) zs.length xs) : Copied zs B 0 w := by
  obtain ⟨h1, h2⟩ := h
  rcases h2 with ⟨h2, _⟩ | ⟨g, cap, cur, hv, hg, hh, hn, hm, hs, ht⟩
  · cases h2
  · injection hv with e1 e2 e3
    injection e1 with e1
    injection e1 with e1
    subst e1
    subst e3
    refine ⟨fun j hj => by omega, fun j hj => ?_, fun j => ?_⟩
    · simp [World.cell?, hh, hs, hj]
    · simp [World.frozen?, hh]

set_option maxHeartbeats 400000 in
theorem clone_empty (x : Addr) (cap : Nat) (w : World) : Calls Trym.prog 14 #[.slice (some x) 0 cap] w fun e w' => e = .returned (.slice (some ⟨w.heap.size, 0, none⟩) 0 0) ∧ Below w.heap.size w w' ∧ w.heap.size < w'.heap.size := by
  have hq := eqNil
  obtain ⟨i0, hi, hz0, hz1, hz2⟩ := info_parts info5
  go_enter Trym.func14, Trym.ntmps14
  go_wp2_with (at_make; refine wpList_make_full _ rfl _ _ 23 rfl w.heap.size 5 i0 (.int .u8 0) 1 Trym.underlying23 hi hz0 hz1 _ _ _ _ 0 rfl rfl rfl rfl (by rw [hz2]; omega) (by unfold maxLen; omega) (Nat.le_refl _) ?_; intro w1 hown hgr; have hb1 : Below w.heap.size w w1 := (Below.refl _ _).grown hgr (Nat.le_refl _) (fun k hk => by cases hk); have hlt := (hown.lt _ rfl).2; clear hown hgr)
  go_loop [4] (fun ix => ix = .int .i64 0) (fun _ => 0)
  case atStart => exact rfl
  case round =>
    obtain rfl := hrel
    go_wp2
    go_ret
    exact ⟨rfl, hb1, hlt⟩

set_option maxHeartbeats 400000 in
theorem clone_row (b off cap : Nat) (zs : List Int) (w : World) (hl : zs.length ≤ 1048576) (hc : ∀ j, j < zs.length → w.cell? ⟨b, off + j, none⟩ = some (.int .u8 (zs.getD j 0))) :
    Calls Trym.prog 14 #[.slice (some ⟨b, off, none⟩) zs.length cap] w fun e w' => e = .returned (.slice (some ⟨w.heap.size, 0, none⟩) zs.length zs.length) ∧ Below w.heap.size w w' ∧ w.heap.size < w'.heap.size ∧
      ∀ j, j < zs.length → w'.cell? ⟨w.heap.size, j, none⟩ = some (.int .u8 (zs.getD j 0)) := by
  have hq := eqNil
  obtain ⟨i0, hi, hz0, hz1, hz2⟩ := info_parts info5
  have HC : Hid (∀ j, j < zs.length → w.cell? ⟨b, off + j, none⟩ = some (.int .u8 (zs.getD j 0))) := hc
  clear hc
  go_enter Trym.func14, Trym.ntmps14
  go_wp2_with (at_make; refine wpList_make_full _ rfl _ _ 23 rfl w.heap.size 5 i0 (.int .u8 0) 1 Trym.underlying23 hi hz0 hz1 _ _ _ _ zs.length rfl rfl rfl rfl (by rw [hz2]; omega) (by unfold maxLen; omega) (Nat.le_refl _) ?_; intro w1 hown hgr; have hb1 : Below w.heap.size w w1 := (Below.refl _ _).grown hgr (Nat.le_refl _) (fun k hk => by cases hk); have hlt := (hown.lt _ rfl).2; have hcp := Copied.made hown; clear hown hgr)
  go_loopw [4] (fun ix wr => ∃ k : Nat, k ≤ zs.length ∧ ix = .int .i64 k ∧ Below w.heap.size w wr ∧ w.heap.size < wr.heap.size ∧ Copied zs w.heap.size k wr) (fun ix _ => zs.length - (intOf ix).toNat)
  case atStart => exact ⟨0, Nat.zero_le _, rfl, hb1, hlt, hcp⟩
  case round =>
    obtain ⟨k, hk, rfl, hbr, hlr, hcr⟩ := hrel
    by_cases hlt2 : k < zs.length
    · have hck := cell_later hbr (HC.out k hlt2)
      obtain ⟨c, hcc⟩ : ∃ c, c = zs.getD k 0 := ⟨_, rfl⟩
      rw [← hcc] at hck
      have HCC : Hid (c = zs.getD k 0) := hcc
      clear hcc
      obtain ⟨u, hu⟩ := hcr.2.1 k hlt2
      have hfz := hcr.2.2 k
      go_wp2
      go_roundw
      case rel => exact ⟨k + 1, by omega, by go_num, hbr.setCell (Nat.le_refl _) _, by simpa using hlr, by rw [HCC.out]; exact hcr.step hlt2⟩
      case measure => simp [intOf]; omega
    · obtain rfl : k = zs.length := by omega
      go_wp2
      go_ret
      exact ⟨rfl, hbr, hlr, hcr.1⟩

theorem clone_any (a : Option Addr) (cap : Nat) (zs : List Int) (w : World) (hl : zs.length ≤ 1048576) (hn : a = none → zs = [] ∧ cap = 0)
    (hc : ∀ x, a = some x → ∀ j, j < zs.length → w.cell? (x.add j) = some (.int .u8 (zs.getD j 0))) :
    Calls Trym.prog 14 #[.slice a zs.length cap] w fun e w' => ∃ ao, e = .returned (.slice ao zs.length zs.length) ∧ Below w.heap.size w w' ∧ (ao = none → zs = []) ∧
      ∀ x, ao = some x → ∃ g, x = ⟨g, 0, none⟩ ∧ g < w'.heap.size ∧ ∀ j, j < zs.length → w'.cell? ⟨g, 0 + j, none⟩ = some (.int .u8 (zs.getD j 0)) := by
  cases a with
  | none =>
    obtain ⟨rfl, rfl⟩ := hn rfl
    exact (clone_nil w).mono fun e w' ⟨he, hw⟩ => ⟨none, he, by rw [hw]; exact Below.refl _ _, fun _ => rfl, fun x h => by cases h⟩
  | some x =>
    by_cases h0 : zs.length = 0
    · obtain rfl := List.eq_nil_of_length_eq_zero h0
      exact (clone_empty x cap w).mono fun e w' ⟨he, hb, hlt⟩ => ⟨_, he, hb, (fun h => by cases h), fun y hy => by injection hy with hy; exact ⟨_, hy.symm, hlt, fun j hj => by simp at hj⟩⟩
    · obtain ⟨b, off, rfl, hc'⟩ := ints_at (hc x rfl) (by omega)
      exact (clone_row b off cap zs w hl hc').mono fun e w' ⟨he, hb, hlt, hcs⟩ => ⟨_, he, hb, (fun h => by cases h), fun y hy => by injection hy with hy; exact ⟨_, hy.symm, hlt, fun j hj => by rw [Nat.zero_add]; exact hcs j hj⟩⟩

set_option maxHeartbeats 400000 in
theorem zzBytes_any (a : Option Addr) (len cap : Nat) (s : ByteArray) (w : World) (h : len ≤ maxLen) (h2 : s.size ≤ maxLen) :
    Calls Trym.prog 13 #[.slice a len cap, .string s] w fun e w' => e = .returned (.bool (decide (len + s.size ≤ 1048576))) ∧ w' = w := by
  unfold maxLen at h h2
  by_cases c1 : len ≤ 1048576
  · by_cases c2 : s.size ≤ 1048576
    · by_cases c3 : len + s.size ≤ 1048576
      · rw [show decide (len + s.size ≤ 1048576) = true from by simpa using c3]
        go_enter Trym.func13, Trym.ntmps13
        go_wp2
        go_ret
        exact ⟨rfl, rfl⟩
      · rw [show decide (len + s.size ≤ 1048576) = false from by simpa using c3]
        go_enter Trym.func13, Trym.ntmps13
        go_wp2
        go_ret
        exact ⟨rfl, rfl⟩
    · rw [show decide (len + s.size ≤ 1048576) = false from by simp; omega]
      go_enter Trym.func13, Trym.ntmps13
      go_wp2
      go_ret
      exact ⟨rfl, rfl⟩
  · rw [show decide (len + s.size ≤ 1048576) = false from by simp; omega]
    go_enter Trym.func13, Trym.ntmps13
    go_wp2
    go_ret
    exact ⟨rfl, rfl⟩

theorem getD_l (a b : List Int) (j : Nat) (h : j < a.length) : (a ++ b).getD j 0 = a.getD j 0 := by
  simp [List.getD_eq_getElem?_getD, List.getElem?_append, h]
theorem getD_r (a b : List Int) (j : Nat) : (a ++ b).getD (a.length + j) 0 = b.getD j 0 := by
  rw [List.getD_eq_getElem?_getD, List.getD_eq_getElem?_getD, List.getElem?_append_right (by omega), Nat.add_sub_cancel_left]

set_option maxHeartbeats 1000000 in
theorem walk_row (a : Option Addr) (cap : Nat) (zs : List Int) (s : ByteArray) (w : World) (hsum : zs.length + s.size ≤ 1048576) (hn : a = none → zs = [] ∧ cap = 0)
    (hc : ∀ x, a = some x → ∀ j, j < zs.length → w.cell? (x.add j) = some (.int .u8 (zs.getD j 0))) :
    Calls Trym.prog 5 #[.slice a zs.length cap, .string s] w fun e w' => e = .returned (.bool true) ∧ Below w.heap.size w w' := by
  have hz := zzBytes_any a zs.length cap s w (by unfold maxLen; omega) (by unfold maxLen; omega)
  rw [show decide (zs.length + s.size ≤ 1048576) = true from by simpa using hsum] at hz
  have hcl := clone_any a cap zs w (by omega) hn hc
  clear hn hc
  have hzl : zs.length ≤ 1048576 := by omega
  have hsl : s.size ≤ 1048576 := by omega
  obtain ⟨en, hen⟩ : ∃ en, en = enc (bI s) := ⟨_, rfl⟩
  have hel := enc_len (bI s)
  rw [bI_length, ← hen] at hel
  obtain ⟨he1, he2⟩ := hel
  have HEN : Hid (en = enc (bI s)) := hen
  clear hen
  go_enter Trym.func5, Trym.ntmps5
  go_wp2_with (go_at_call 13; refine hz.mono ?_; rintro e w' ⟨rfl, hw'⟩; replace hw' := hw'.symm; subst hw')
  refine hcl.mono ?_
  clear hcl hz
  rintro e w1 ⟨ao, rfl, hb1, hn1, hc1⟩
  have H1 : Hid ((ao = none → zs = []) ∧ ∀ x, ao = some x → ∃ g, x = ⟨g, 0, none⟩ ∧ g < w1.heap.size ∧ ∀ j, j < zs.length → w1.cell? ⟨g, 0 + j, none⟩ = some (.int .u8 (zs.getD j 0))) := ⟨hn1, hc1⟩
  clear hn1 hc1
  go_wp2_with fail
  refine (clone_any ao zs.length zs w1 hzl (fun h => by have := H1.out.1 h; exact ⟨this, by rw [this]; rfl⟩) (fun x hx j hj => by obtain ⟨g, rfl, _, h⟩ := H1.out.2 x hx; rw [Addr.add_lit]; exact h j hj)).mono ?_
  rintro e w2 ⟨a2, rfl, hb2, hn2, hc2⟩
  have H2 : Hid ((a2 = none → zs = []) ∧ ∀ x, a2 = some x → ∃ g, x = ⟨g, 0, none⟩ ∧ g < w2.heap.size ∧ ∀ j, j < zs.length → w2.cell? ⟨g, 0 + j, none⟩ = some (.int .u8 (zs.getD j 0))) := ⟨hn2, hc2⟩
  clear hn2 hc2
  go_wp2_with fail
  have h3 := zzAppendString_any ao zs s w2 hsl hzl H1.out.1 (fun x hx j hj => by obtain ⟨g, rfl, _, h⟩ := H1.out.2 x hx; rw [Addr.add_lit]; exact cell_later hb2 (h j hj))
  rw [← HEN.out] at h3
  refine h3.mono ?_
  clear h3
  rintro e w3 ⟨v3, N3, rfl, ho3⟩
  clear H1
  have hb3 := ho3.2.1
  obtain ⟨g3, cap3, rfl, _, hg3, hcap3, hm3, hc3⟩ := ownedAt ho3 (by simp; omega)
  rw [List.length_append] at hc3 hcap3 ⊢
  have H3 : Hid (∀ j, j < zs.length + en.length → w3.cell? ⟨g3, 0 + j, none⟩ = some (.int .u8 ((zs ++ en).getD j 0))) := hc3
  clear hc3 ho3
  go_wp2_with fail
  have h4 : Calls Trym.prog 9 #[.slice none 0 0, .string s] w3 _ := zzAppendString_any none [] s w3 hsl (Nat.zero_le _) (fun _ => rfl) (fun x hx => by cases hx)
  refine h4.mono ?_
  clear h4
  rintro e w4 ⟨v4, N4, rfl, ho4⟩
  rw [← HEN.out, List.nil_append] at ho4
  have hb4 := ho4.2.1
  obtain ⟨g4, cap4, rfl, _, hg4, hcap4, hm4, hc4⟩ := ownedAt ho4 (by omega)
  have H4 : Hid (∀ j, j < en.length → w4.cell? ⟨g4, 0 + j, none⟩ = some (.int .u8 (en.getD j 0))) := hc4
  clear hc4 ho4
  unfold maxLen at hm3 hm4
  have hB : Below w.heap.size w w4 := (hb1.trans (hb2.mono hb1.size)).trans ((hb3.mono (Nat.le_trans hb1.size hb2.size)).trans (hb4.mono (Nat.le_trans (Nat.le_trans hb1.size hb2.size) hb3.size)))
  go_wp2_with fail
  go_loopw [8] (fun ix wr => ∃ i : Nat, i ≤ zs.length ∧ ix = .int .i64 i ∧ Below w4.heap.size w4 wr) (fun ix _ => zs.length - (intOf ix).toNat)
  case atStart => exact ⟨0, Nat.zero_le _, rfl, Below.refl _ _⟩
  case round =>
    obtain ⟨i, hi, rfl, hbr⟩ := hrel
    by_cases hlt : i < zs.length
    · cases a2 with
      | none => exact absurd (H2.out.1 rfl) (by intro h; rw [h] at hlt; simp at hlt)
      | some x =>
        obtain ⟨g2, rfl, hg2, hc2⟩ := H2.out.2 x rfl
        have f1 := cell_later hbr (cell_later hb4 (H3.out i (by omega)))
        have f2 := cell_later hbr (cell_later hb4 (cell_later hb3 (hc2 i hlt)))
        rw [Nat.zero_add, getD_l zs en i hlt] at f1
        rw [Nat.zero_add] at f2
        obtain ⟨c, hc⟩ : ∃ c, c = zs.getD i 0 := ⟨_, rfl⟩
        rw [← hc] at f1 f2
        clear hc hc2
        go_wp2
        go_quiet (fail)
        go_wp2
        go_roundw
        case rel => exact ⟨i + 1, by omega, by go_num, below_drewN hbr _⟩
        case measure => simp [intOf]; omega
    · go_wp2
      go_loopw [9] (fun ix wr => ∃ i : Nat, i ≤ en.length ∧ ix = .int .i64 i ∧ Below w4.heap.size w4 wr) (fun ix _ => en.length - (intOf ix).toNat)
      case atStart => exact ⟨0, Nat.zero_le _, rfl, hbr⟩
      case round =>
        clear hbr
        obtain ⟨j, hj, rfl, hbr⟩ := hrel
        by_cases hlt2 : j < en.length
        · have f1 := cell_later hbr (cell_later hb4 (H3.out (zs.length + j) (by omega)))
          have f2 := cell_later hbr (H4.out j hlt2)
          rw [Nat.zero_add, getD_r zs en j] at f1
          rw [Nat.zero_add] at f2
          obtain ⟨c, hc⟩ : ∃ c, c = en.getD j 0 := ⟨_, rfl⟩
          rw [← hc] at f1 f2
          clear hc
          go_wp2
          go_quiet (fail)
          go_wp2
          go_roundw
          case rel => exact ⟨j + 1, by omega, by go_num, below_drewN hbr _⟩
          case measure => simp [intOf]; omega
        · go_wp2
          go_ret
          exact ⟨rfl, hB.trans (hbr.mono hB.size)⟩

theorem take_getD (zs : List Int) (n j : Nat) (h : j < n) : (zs.take n).getD j 0 = zs.getD j 0 := by
  simp [List.getD_eq_getElem?_getD, List.getElem?_take_of_lt h]

set_option maxHeartbeats 400000 in
theorem walk (a0 : Option Addr) (len0 cap0 : Nat) (z0 : List Int) (a1 : ByteArray) (w : World) (w0 : IsRow .u8 w a0 len0 cap0 z0) (w1 : a1.size ≤ maxLen) :
    Calls Trym.prog 5 #[.slice a0 len0 cap0, .string a1] w fun e w' => e = .returned (.bool true) ∧ Below w.heap.size w w' := by
  have hlm : len0 ≤ maxLen := by
    rcases w0 with ⟨_, h, _⟩ | ⟨x, _, h1, h2, _⟩
    · rw [h]; exact Nat.zero_le _
    · omega
  have hz := zzBytes_any a0 len0 cap0 a1 w hlm w1
  by_cases hs : len0 + a1.size ≤ 1048576
  · clear hz
    rcases w0 with ⟨rfl, rfl, rfl, _⟩ | ⟨x, rfl, h1, h2, h3, hcell, hwf⟩
    · exact walk_row none 0 [] a1 w (by simpa using hs) (fun _ => ⟨rfl, rfl⟩) (fun x hx => by cases hx)
    · have e : (z0.take len0).length = len0 := by simp; omega
      have := walk_row (some x) cap0 (z0.take len0) a1 w (by omega) (fun h => by cases h) (fun y hy j hj => by injection hy with hy; subst hy; rw [take_getD _ _ _ (by omega)]; exact hcell j (by omega))
      rw [e] at this
      exact this
  · clear w0
    rw [show decide (len0 + a1.size ≤ 1048576) = false from by simpa using hs] at hz
    go_enter Trym.func5, Trym.ntmps5
    go_wp2_with (go_at_call 13; refine hz.mono ?_; rintro e w' ⟨rfl, hw'⟩; replace hw' := hw'.symm; subst hw')
    go_ret
    exact ⟨rfl, Below.refl _ _⟩
/-! ### THE ROW's STEP: WRITTEN OUT: LEAVE IT -/
set_option maxRecDepth 100000 in
theorem lifted (os : Os) (started : os.Started) (H : Type) (enc : TypeId × Value → H) :
    ReturnsInHanded {} Trym.checked os 5 .any (Rows.fnAppendStringExtendsItsBufferSpec.pre6 enc Trym.prog Trym.f5 Rows.fnAppendStringExtendsItsBufferRow.domain false) (Rows.fnAppendStringExtendsItsBufferSpec.post enc Trym.prog Trym.f5 false true false false) := by
  refine returnsInHanded_of_change (C := Trym.checked) own started (by kernel_rfl) Trym.func5
    (ChangeSpec.witness6 (enc := enc) (C := Trym.checked) false ⟨#[], #[.slice none 0 0, .string ByteArray.empty], []⟩ 8 (by kernel_rfl) (by kernel_rfl) (by kernel_rfl) (by kernel_rfl)) ?_
  intro W base args ds gs before hval0 hW hcnd _
  have hval : ∀ (j : Nat) t v, Trym.f5.params[j]? = some t → args[j]? = some v → Value.okWide Trym.prog W .any base t v := hval0
  have hW' := hW
  obtain ⟨p, q, hA0, hV, rfl, hfz, hnd⟩ := hW
  have hA : DataW.TrodAll enc Trym.prog W 0 (fun _ => true) true Trym.f5.params.toList args.toList ds p := hA0
  rw [Trym.params5] at hA hval
  obtain ⟨v0, vs0, d0, ds0, p0, q0, hargs, rfl, rfl, h0, r0⟩ := trodAll_cons hA
  obtain ⟨v1, vs1, d1, ds1, p1, q1, rfl, rfl, rfl, h1, r1⟩ := trodAll_cons r0
  obtain ⟨rfl, rfl, rfl⟩ := trodAll_nil r1
  obtain rfl : args = #[v0, v1] := by cases args; simp_all
  obtain ⟨rfl, rfl⟩ := trodVars_none hV
  obtain ⟨a0, len0, cap0, rfl⟩ := okWide_slice Trym.underlying23 (hval 0 23 v0 rfl rfl)
  have k0 := h0
  have lt0 : ∀ x ∈ p0, x.block < W.heap.size := by obtain ⟨m, hm⟩ := k0; exact DataW.trod_lt m _ _ _ hm
  obtain ⟨z0, w0⟩ : ∃ zs, IsRow .u8 W a0 len0 cap0 zs := by
    obtain ⟨fuel, hf⟩ := h0
    rcases open_ints Trym.underlying23 Trym.underlying5 (by kernel_rfl) hf with ⟨hcs, _⟩ | ⟨x, l, c, zs, hcs, _, hl, hm, hz, _, hcell, hwz⟩
    · simp [Value.cells] at hcs
      obtain ⟨rfl, rfl, rfl⟩ := hcs
      exact ⟨[], .inl ⟨rfl, rfl, rfl, rfl⟩⟩
    · simp [Value.cells] at hcs
      obtain ⟨rfl, rfl, rfl⟩ := hcs
      exact ⟨zs, .inr ⟨_, rfl, hl, hm, by simpa using hz, hcell, hwz⟩⟩
  obtain ⟨a1, rfl, rfl, rfl, w1⟩ := open_string Trym.underlying9 (hval 1 9 v1 rfl rfl) h1
  clear hA0 hval0
  refine (walk a0 len0 cap0 z0 a1 W w0 w1).mono fun e W' ⟨he, bel⟩ => ?_
  subst he
  exact ⟨_, rfl, _, _, _, [], _, [], hW', trodAll_mk1 (shut_bool Trym.underlying4 _), (trodAll_cons_mk (Below.trod laidOut (by kernel_rfl) (of_decide_eq_true (by kernel_rfl)) k0 bel lt0) (trodAll_cons_mk (shut_string Trym.underlying9 w1) trodAll_mk0)), rfl, bel.frame _, fun h => by cases h⟩

theorem over : Rows.fnAppendStringExtendsItsBufferRow.holds Trym.pinned (OpenSpec.ofChange Rows.fnAppendStringExtendsItsBufferSpec) :=
  OpenClaim.holds_of_wide 5 Trym.f5 rfl rfl rfl rfl rfl rfl rfl ⟨rfl, rfl, rfl, rfl, rfl⟩ rfl rfl rfl rfl rfl (by kernel_rfl) Trym.func5 (by kernel_rfl)
    (of_decide_eq_true (by kernel_rfl)) (by unfold Func.isWrapper; first | (rw [if_pos (by decide +kernel)]; kernel_rfl) | (rw [if_neg (by decide +kernel)]; exact ⟨rfl, rfl⟩))
    (fun os started H enc _ => lifted os started H enc)

/-- ████ THE STATEMENT ████ -/
theorem proved : Rows.FnAppendStringExtendsItsBufferSaid := over
#print axioms proved
end Go.Proofs.Qxb6000883aMods.fnAppendStringExtendsItsBuffer
