import Derived.Test.Qxb6603995aModsHexWalks
import Derived.ProofKit
import Derived.OpenShut
import Derived.ShutString
namespace Go.Proofs.Qxb6603995aMods.fnHexRuneInvertsHexEncoding
open Go.ChangeShapes Go.WideShapes Go.ChangeAt Go.RowKit
open Go.ChangeMaps (open_string shut_string)
set_option linter.unusedVariables false 

theorem own : ownKnob Trym.prog.godebug = none := by kernel_rfl

theorem mk4 : ∀ w : World, (Instr.makeSlice 22 (.int .i64 4) (.int .i64 4)).run Trym.prog w = .ok (.slice (some ⟨w.heap.size, 0, none⟩) 4 4) (w.alloc (.cells #[.int .u8 0, .int .u8 0, .int .u8 0, .int .u8 0] 5)) := fun _ => by kernel_rfl

theorem and15 (a : Int) (h0 : 0 ≤ a) (h1 : a < 65536) : bits .and .u16 a 15 = a % 16 := by
  rw [u16_and a 15 h0 h1 (by omega) (by omega)]
  have : a.toNat &&& (15 : Int).toNat = a.toNat % 16 := Nat.and_two_pow_sub_one_eq_mod a.toNat 4
  rw [this]; omega

/-- the digit at place k, most significant first -/
def dg (v : Int) : Nat → Nat
  | 0 => (v / 4096 % 16).toNat
  | 1 => (v / 256 % 16).toNat
  | 2 => (v / 16 % 16).toNat
  | _ => (v % 16).toNat

theorem lower_all : ∀ d : Fin 16, (isHex (({ data := #[48, 49, 50, 51, 52, 53, 54, 55, 56, 57, 97, 98, 99, 100, 101, 102] } : ByteArray)[d.val]'d.isLt).toNat ∧ nib (({ data := #[48, 49, 50, 51, 52, 53, 54, 55, 56, 57, 97, 98, 99, 100, 101, 102] } : ByteArray)[d.val]'d.isLt).toNat = (d.val : Int)) := by
  unfold isHex nib
  decide
theorem lower (d : Nat) (h : d < 16) : isHex (({ data := #[48, 49, 50, 51, 52, 53, 54, 55, 56, 57, 97, 98, 99, 100, 101, 102] } : ByteArray)[d]'h).toNat ∧ nib (({ data := #[48, 49, 50, 51, 52, 53, 54, 55, 56, 57, 97, 98, 99, 100, 101, 102] } : ByteArray)[d]'h).toNat = (d : Int) := lower_all ⟨d, h⟩
theorem upper_all : ∀ d : Fin 16, (isHex (({ data := #[48, 49, 50, 51, 52, 53, 54, 55, 56, 57, 65, 66, 67, 68, 69, 70] } : ByteArray)[d.val]'d.isLt).toNat ∧ nib (({ data := #[48, 49, 50, 51, 52, 53, 54, 55, 56, 57, 65, 66, 67, 68, 69, 70] } : ByteArray)[d.val]'d.isLt).toNat = (d.val : Int)) := by
  unfold isHex nib
  decide
theorem upper (d : Nat) (h : d < 16) : isHex (({ data := #[48, 49, 50, 51, 52, 53, 54, 55, 56, 57, 65, 66, 67, 68, 69, 70] } : ByteArray)[d]'h).toNat ∧ nib (({ data := #[48, 49, 50, 51, 52, 53, 54, 55, 56, 57, 65, 66, 67, 68, 69, 70] } : ByteArray)[d]'h).toNat = (d : Int) := upper_all ⟨d, h⟩

/-- what holds of the new row behind k rounds -/
def Filled (a0 : Int) (B k : Nat) (wr : World) : Prop :=
  (∃ f : Nat → Int, (∀ j, j < k → isHex (f j) ∧ nib (f j) = (dg a0 j : Int)) ∧ ∀ j, j < 4 → wr.cell? ⟨B, j, none⟩ = some (.int .u8 (f j))) ∧ ∀ j, j < 4 → wr.frozen? ⟨B, j, none⟩ = false

theorem Filled.step {a0 : Int} {B k : Nat} {wr : World} (h : Filled a0 B k wr) (hk : k < 4) {v : Int} (hv : isHex v ∧ nib v = (dg a0 k : Int)) :
    Filled a0 B (k + 1) (wr.setCell ⟨B, k, none⟩ (.int .u8 v)) := by
  obtain ⟨⟨f, hf, hc⟩, hz⟩ := h
  refine ⟨⟨fun j => if j = k then v else f j, fun j hj => ?_, fun j hj => ?_⟩, fun j hj => by simpa using hz j hj⟩
  · by_cases e : j = k
    · subst e; simpa using hv
    · simp only [e, if_false]; exact hf j (by omega)
  · by_cases e : j = k
    · subst e; simp only [if_true]; exact World.cell?_setCell_same (w := wr) (a := ⟨B, j, none⟩) (v := .int .u8 v) (hc j hj)
    · simp only [e, if_false]; rw [World.cell?_setCell_other (w := wr) (a := ⟨B, k, none⟩) (b := ⟨B, j, none⟩) (v := .int .u8 v) (by intro h; injection h; omega)]; exact hc j hj

theorem acc_dg (a0 : Int) (h0 : 0 ≤ a0) (h1 : a0 ≤ 65535) (f : Nat → Int) (hf : ∀ j, j < 4 → isHex (f j) ∧ nib (f j) = (dg a0 j : Int)) : acc f 4 = a0 := by
  simp only [acc]
  rw [(hf 0 (by omega)).2, (hf 1 (by omega)).2, (hf 2 (by omega)).2, (hf 3 (by omega)).2]
  simp only [dg]
  omega

set_option maxHeartbeats 400000 in
theorem walk (a0 : Int) (a1 : Int) (w0 : (Lit.int .u16 a0).wf = true) (w1 : (Lit.int .u8 a1).wf = true) (w : World) :
    Calls Trym.prog 7 #[.int .u16 a0, .int .u8 a1] w fun e w' => e = .returned (.bool true) ∧ Grown w w' := by
  have hmk := mk4
  obtain ⟨l0, u0⟩ := bounds_u16 w0
  obtain ⟨l1, u1⟩ := bounds_u8 w1
  have e0 := and15 (a0 / 4096) (by omega) (by omega)
  have e1 := and15 (a0 / 256) (by omega) (by omega)
  have e2 := and15 (a0 / 16) (by omega) (by omega)
  have e3 := and15 a0 (by omega) (by omega)
  go_enter Trym.func7, Trym.ntmps7
  go_wp2
  go_loopw [6] (fun i wr => ∃ k : Nat, k ≤ 4 ∧ i = .int .i64 k ∧ Grown w wr ∧ Filled a0 w.heap.size k wr) (fun i _ => 4 - (intOf i).toNat)
  case atStart => 
    refine ⟨0, Nat.zero_le _, rfl, (Grown.refl _).alloc _ _, ⟨fun _ => 0, fun j hj => by omega, fun j hj => ?_⟩, fun j hj => ?_⟩
    · obtain rfl | rfl | rfl | rfl : j = 0 ∨ j = 1 ∨ j = 2 ∨ j = 3 := by omega
      all_goals simp
    · go_simp
  case round =>
    obtain ⟨k, hk, rfl, hg, hfl⟩ := hrel
    obtain ⟨⟨f, hf, hc⟩, hz⟩ := id hfl
    by_cases hlt : k < 4
    · have hck := hc k hlt
      have hzk := hz k hlt
      clear hc hz hf
      obtain rfl | rfl | rfl | rfl : k = 0 ∨ k = 1 ∨ k = 2 ∨ k = 3 := by omega
      all_goals go_wp2
      all_goals go_roundw
      case rel => exact ⟨1, by omega, by go_num, hg.setCell (Nat.le_refl _) _, hfl.step hlt (upper _ (by omega))⟩
      case measure => simp [intOf]
      case rel => exact ⟨1, by omega, by go_num, hg.setCell (Nat.le_refl _) _, hfl.step hlt (lower _ (by omega))⟩
      case measure => simp [intOf]
      case rel => exact ⟨2, by omega, by go_num, hg.setCell (Nat.le_refl _) _, hfl.step hlt (upper _ (by omega))⟩
      case measure => simp [intOf]
      case rel => exact ⟨2, by omega, by go_num, hg.setCell (Nat.le_refl _) _, hfl.step hlt (lower _ (by omega))⟩
      case measure => simp [intOf]
      case rel => exact ⟨3, by omega, by go_num, hg.setCell (Nat.le_refl _) _, hfl.step hlt (upper _ (by omega))⟩
      case measure => simp [intOf]
      case rel => exact ⟨3, by omega, by go_num, hg.setCell (Nat.le_refl _) _, hfl.step hlt (lower _ (by omega))⟩
      case measure => simp [intOf]
      case rel => exact ⟨4, by omega, by go_num, hg.setCell (Nat.le_refl _) _, hfl.step hlt (upper _ (by omega))⟩
      case measure => simp [intOf]
      case rel => exact ⟨4, by omega, by go_num, hg.setCell (Nat.le_refl _) _, hfl.step hlt (lower _ (by omega))⟩
      case measure => simp [intOf]
    · obtain rfl : k = 4 := by omega
      have hacc := acc_dg a0 l0 u0 f hf
      have hx : ∀ j, j < 4 → isHex (f j) := fun j hj => (hf j hj).1
      have hc' : ∀ j, j < 4 → wr.cell? ⟨w.heap.size, 0 + j, none⟩ = some (.int .u8 (f j)) := fun j hj => by rw [Nat.zero_add]; exact hc j hj
      clear hf hc hfl hz e0 e1 e2 e3
      go_wp2_with (go_at_call 20; refine (zzHexRune_any _ 0 4 4 f _ (by omega) (by omega) (by decide) hc' hx).mono ?_; rintro e w' ⟨rfl, rfl⟩)
      go_ret
      exact ⟨by simp, hg⟩
/-! ### THE ROW's STEP: WRITTEN OUT: LEAVE IT -/
set_option maxRecDepth 100000 in
theorem lifted (os : Os) (started : os.Started) (H : Type) (enc : TypeId × Value → H) :
    ReturnsInHanded {} Trym.checked os 7 .any (Rows.fnHexRuneInvertsHexEncodingSpec.pre6 enc Trym.prog Trym.f7 Rows.fnHexRuneInvertsHexEncodingRow.domain false) (Rows.fnHexRuneInvertsHexEncodingSpec.post enc Trym.prog Trym.f7 false true false false) := by
  refine returnsInHanded_of_change (C := Trym.checked) own started (by kernel_rfl) Trym.func7
    (ChangeSpec.witness6 (enc := enc) (C := Trym.checked) false ⟨#[], #[.int .u16 0, .int .u8 0], []⟩ 8 (by kernel_rfl) (by kernel_rfl) (by kernel_rfl) (by kernel_rfl)) ?_
  intro W base args ds gs before hval0 hW hcnd _
  have hval : ∀ (j : Nat) t v, Trym.f7.params[j]? = some t → args[j]? = some v → Value.okWide Trym.prog W .any base t v := hval0
  have hW' := hW
  obtain ⟨p, q, hA0, hV, rfl, hfz, hnd⟩ := hW
  have hA : DataW.TrodAll enc Trym.prog W 0 (fun _ => true) true Trym.f7.params.toList args.toList ds p := hA0
  rw [Trym.params7] at hA hval
  obtain ⟨v0, vs0, d0, ds0, p0, q0, hargs, rfl, rfl, h0, r0⟩ := trodAll_cons hA
  obtain ⟨v1, vs1, d1, ds1, p1, q1, rfl, rfl, rfl, h1, r1⟩ := trodAll_cons r0
  obtain ⟨rfl, rfl, rfl⟩ := trodAll_nil r1
  obtain rfl : args = #[v0, v1] := by cases args; simp_all
  obtain ⟨rfl, rfl⟩ := trodVars_none hV
  obtain ⟨a0, rfl, rfl, rfl, w0⟩ := open_int Trym.underlying35 (hval 0 35 v0 rfl rfl) h0
  obtain ⟨a1, rfl, rfl, rfl, w1⟩ := open_int Trym.underlying5 (hval 1 5 v1 rfl rfl) h1
  clear hA0 hval0
  simp only [List.append_nil] at hW'
  refine (walk a0 a1 w0 w1 W).mono fun e W' ⟨he, hg⟩ => ?_
  subst he
  exact ⟨_, rfl, post_of_same (pa := []) (pv := []) hW' (fun _ _ _ => (trodAll_cons_mk (shut_bool Trym.underlying4 _) trodAll_mk0)) (fun sp _ => (trodAll_cons_mk (shut_int Trym.underlying35 w0) (trodAll_cons_mk (shut_int Trym.underlying5 w1) trodAll_mk0))) (fun _ _ => rfl) rfl
    (hg.frame _) hg.2.1 (ok_one (by kernel_rfl) rfl (okWide_bool_mk Trym.underlying4 _))⟩

theorem over : Rows.fnHexRuneInvertsHexEncodingRow.holds Trym.pinned (OpenSpec.ofChange Rows.fnHexRuneInvertsHexEncodingSpec) :=
  OpenClaim.holds_of_wide 7 Trym.f7 rfl rfl rfl rfl rfl rfl rfl ⟨rfl, rfl, rfl, rfl, rfl⟩ rfl rfl rfl rfl rfl (by kernel_rfl) Trym.func7 (by kernel_rfl)
    (of_decide_eq_true (by kernel_rfl)) (by unfold Func.isWrapper; first | (rw [if_pos (by decide +kernel)]; kernel_rfl) | (rw [if_neg (by decide +kernel)]; exact ⟨rfl, rfl⟩))
    (fun os started H enc _ => lifted os started H enc)

/-- ████ THE STATEMENT ████ -/
theorem proved : Rows.FnHexRuneInvertsHexEncodingSaid :=
  over
#print axioms proved
end Go.Proofs.Qxb6603995aMods.fnHexRuneInvertsHexEncoding
