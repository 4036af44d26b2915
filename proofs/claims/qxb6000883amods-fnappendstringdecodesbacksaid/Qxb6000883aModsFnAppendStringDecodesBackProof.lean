import Derived.Test.Qxb6000883aModsDecWalks
import Derived.ProofKit
import Derived.OpenShut
import Derived.ShutString
import Derived.ChangeOld
import Derived.Below
import Derived.Deep.QuietTactic
import Derived.BigQuiet
namespace Go.Proofs.Qxb6000883aMods.fnAppendStringDecodesBack
open Go.ChangeShapes Go.WideShapes Go.ChangeAt Go.RowKit
open Go.ChangeMaps (open_string shut_string)
set_option linter.unusedVariables false

theorem own : ownKnob Trym.prog.godebug = none := by kernel_rfl

set_option maxHeartbeats 400000 in
theorem zzBytes_any (s : ByteArray) (w : World) (h : s.size ≤ maxLen) :
    Calls Trym.prog 8 #[.string s] w fun e w' => e = .returned (.bool (decide (s.size ≤ 1048576))) ∧ w' = w := by
  unfold maxLen at h
  by_cases c : s.size ≤ 1048576
  · rw [show decide (s.size ≤ 1048576) = true from by simpa using c]
    go_enter Trym.func8, Trym.ntmps8
    go_wp2
    go_ret
    exact ⟨rfl, rfl⟩
  · rw [show decide (s.size ≤ 1048576) = false from by simpa using c]
    go_enter Trym.func8, Trym.ntmps8
    go_wp2
    go_ret
    exact ⟨rfl, rfl⟩

theorem bI_range (s : ByteArray) : ∀ j, j < (bI s).length → 0 ≤ (bI s).getD j 0 ∧ (bI s).getD j 0 < 256 := by
  intro j hj
  rw [bI_length] at hj
  rw [← bI_get s j hj]
  have := s[j].toNat_lt
  omega

theorem shapeAt {B : Nat} {v : Value} {N : Nat} {zs : List Int} {W w : World} (h : Lib.OwnBuf B 5 v N (cI zs) W w) :
    ∃ ao cap, v = .slice ao zs.length cap ∧ ∀ j, j < zs.length → ∃ g, ao = some ⟨g, 0, none⟩ ∧ w.cell? ⟨g, 0 + j, none⟩ = some (.int .u8 (zs.getD j 0)) := by
  by_cases h0 : 0 < zs.length
  · obtain ⟨g, cap, hv, _, _, _, _, hc⟩ := ownedAt h h0
    exact ⟨_, cap, hv, fun j hj => ⟨g, rfl, hc j hj⟩⟩
  · have hN := lenBuf h
    rw [cI_length] at hN
    rcases h.1.2 with ⟨h1, h2⟩ | ⟨g, cap, cur, fz, h1, _⟩
    · exact ⟨none, 0, by rw [h1, hN, h2], fun j hj => by omega⟩
    · exact ⟨_, cap, by rw [h1, hN], fun j hj => by omega⟩

set_option maxHeartbeats 400000 in
theorem zzEqualStr_any (ao : Option Addr) (cap : Nat) (s : ByteArray) (l : List Int) (w : World) (hs : s.size ≤ 1048576) (HG : Hid (∀ j (h : j < s.size), (s[j].toNat : Int) = l.getD j 0))
    (HC : Hid (∀ j, j < s.size → ∃ g, ao = some ⟨g, 0, none⟩ ∧ w.cell? ⟨g, 0 + j, none⟩ = some (.int .u8 (l.getD j 0)))) :
    Calls Trym.prog 11 #[.slice ao s.size cap, .string s] w fun e w' => e = .returned (.bool true) ∧ Below w.heap.size w w' := by
  go_enter Trym.func11, Trym.ntmps11
  go_wp2
  go_loopw [5] (fun ix wr => ∃ j : Nat, j ≤ s.size ∧ ix = .int .i64 j ∧ Below w.heap.size w wr) (fun ix _ => s.size - (intOf ix).toNat)
  case atStart => exact ⟨0, Nat.zero_le _, rfl, Below.refl _ _⟩
  case round =>
    obtain ⟨j, hj, rfl, hbr⟩ := hrel
    by_cases hlt : j < s.size
    · obtain ⟨g, rfl, hc⟩ := HC.out j hlt
      have f1 := cell_later hbr hc
      have f2 := HG.out j hlt
      rw [Nat.zero_add] at f1
      obtain ⟨c, hcc⟩ : ∃ c, c = l.getD j 0 := ⟨_, rfl⟩
      rw [← hcc] at f1 f2
      clear hcc hc
      go_wp2
      go_quiet (fail)
      go_wp2
      go_roundw
      case rel => exact ⟨j + 1, by omega, by go_num, below_drewN hbr _⟩
      case measure => simp [intOf]; omega
    · go_wp2
      go_ret
      exact ⟨rfl, hbr⟩

set_option maxHeartbeats 400000 in
theorem walk (a0 : ByteArray) (w0 : a0.size ≤ maxLen) (w : World) :
    Calls Trym.prog 3 #[.string a0] w fun e w' => e = .returned (.bool true) ∧ Below w.heap.size w w' := by
  have hz := zzBytes_any a0 w w0
  by_cases hs : a0.size ≤ 1048576
  · rw [show decide (a0.size ≤ 1048576) = true from by simpa using hs] at hz
    obtain ⟨l, hl⟩ : ∃ l, l = bI a0 := ⟨_, rfl⟩
    have HLL : Hid (l.length = a0.size) := by show _ = _; rw [hl, bI_length]
    obtain ⟨he1, he2⟩ := enc_len l
    rw [HLL.out] at he1 he2
    have HR : Hid (∀ j, j < l.length → 0 ≤ l.getD j 0 ∧ l.getD j 0 < 256) := by rw [hl]; exact bI_range a0
    have h1 : Calls Trym.prog 9 #[.slice none 0 0, .string a0] w _ := zzAppendString_any none [] a0 w hs (Nat.zero_le _) (fun _ => rfl) (fun x hx => by cases hx)
    rw [← hl, List.nil_append] at h1
    have HL : Hid (l = bI a0) := hl
    clear hl
    obtain ⟨n, hn⟩ : ∃ n, n = (enc l).length := ⟨_, rfl⟩
    have hd := fun gb cap w' hc => zzDecode_any gb cap l false w' (by rw [HLL.out]; exact hs) HR.out hc
    rw [← hn] at he1 he2 hd
    have HN : Hid (n = (enc l).length) := hn
    have HD : Hid _ := hd
    clear hn hd
    go_enter Trym.func3, Trym.ntmps3
    go_wp2_with (first | (go_at_call 8; refine hz.mono ?_; rintro e w' ⟨rfl, hw'⟩; replace hw' := hw'.symm; subst hw'))
    refine h1.mono ?_
    clear h1 hz
    rintro e w1 ⟨v1, N1, rfl, ho1⟩
    have hb1 := ho1.2.1
    obtain ⟨g, cap, rfl, _, hg, hcap, hm, hc⟩ := ownedAt ho1 (by rw [← HN.out]; omega)
    rw [← HN.out] at hc hcap ⊢
    clear ho1
    go_wp2_with fail
    refine (HD.out g cap w1 hc).mono ?_
    clear HD hc
    rintro e w2 ⟨v2, N2, rfl, ho2⟩
    have hb2 := ho2.2.1
    obtain ⟨ao, cap2, rfl, hc2⟩ := shapeAt ho2
    rw [HLL.out] at hc2 ⊢
    have HG : Hid (∀ j (h : j < a0.size), (a0[j].toNat : Int) = l.getD j 0) := by rw [HL.out]; exact bI_get a0
    have HC2 : Hid (∀ j, j < a0.size → ∃ g, ao = some ⟨g, 0, none⟩ ∧ w2.cell? ⟨g, 0 + j, none⟩ = some (.int .u8 (l.getD j 0))) := hc2
    clear ho2 hc2
    unfold maxLen at hm
    go_wp2_with fail
    refine (zzEqualStr_any ao cap2 a0 l w2 hs HG HC2).mono ?_
    rintro e w3 ⟨rfl, hb3⟩
    go_wp2_with fail
    go_ret
    exact ⟨rfl, (hb1.trans (hb2.mono hb1.size)).trans (hb3.mono (Nat.le_trans hb1.size hb2.size))⟩
  · rw [show decide (a0.size ≤ 1048576) = false from by simpa using hs] at hz
    go_enter Trym.func3, Trym.ntmps3
    go_wp2_with (go_at_call 8; refine hz.mono ?_; rintro e w' ⟨rfl, hw'⟩; replace hw' := hw'.symm; subst hw')
    go_ret
    exact ⟨rfl, Below.refl _ _⟩
/-! ### THE ROW's STEP: WRITTEN OUT: LEAVE IT -/
set_option maxRecDepth 100000 in
theorem lifted (os : Os) (started : os.Started) (H : Type) (enc : TypeId × Value → H) :
    ReturnsInHanded {} Trym.checked os 3 .any (Rows.fnAppendStringDecodesBackSpec.pre6 enc Trym.prog Trym.f3 Rows.fnAppendStringDecodesBackRow.domain false) (Rows.fnAppendStringDecodesBackSpec.post enc Trym.prog Trym.f3 false true false false) := by
  refine returnsInHanded_of_change (C := Trym.checked) own started (by kernel_rfl) Trym.func3
    (ChangeSpec.witness6 (enc := enc) (C := Trym.checked) false ⟨#[], #[.string ByteArray.empty], []⟩ 8 (by kernel_rfl) (by kernel_rfl) (by kernel_rfl) (by kernel_rfl)) ?_
  intro W base args ds gs before hval0 hW hcnd _
  have hval : ∀ (j : Nat) t v, Trym.f3.params[j]? = some t → args[j]? = some v → Value.okWide Trym.prog W .any base t v := hval0
  have hW' := hW
  obtain ⟨p, q, hA0, hV, rfl, hfz, hnd⟩ := hW
  have hA : DataW.TrodAll enc Trym.prog W 0 (fun _ => true) true Trym.f3.params.toList args.toList ds p := hA0
  rw [Trym.params3] at hA hval
  obtain ⟨v0, vs0, d0, ds0, p0, q0, hargs, rfl, rfl, h0, r0⟩ := trodAll_cons hA
  obtain ⟨rfl, rfl, rfl⟩ := trodAll_nil r0
  obtain rfl : args = #[v0] := by cases args; simp_all
  obtain ⟨rfl, rfl⟩ := trodVars_none hV
  obtain ⟨a0, rfl, rfl, rfl, w0⟩ := open_string Trym.underlying9 (hval 0 9 v0 rfl rfl) h0
  clear hA0 hval0
  simp only [List.append_nil] at hW'
  refine (walk a0 w0 W).mono fun e W' ⟨he, bel⟩ => ?_
  subst he
  exact ⟨_, rfl, _, _, _, [], _, [], hW', trodAll_mk1 (shut_bool Trym.underlying4 _), (trodAll_cons_mk (shut_string Trym.underlying9 w0) trodAll_mk0), rfl, bel.frame _, fun h => by cases h⟩

theorem over : Rows.fnAppendStringDecodesBackRow.holds Trym.pinned (OpenSpec.ofChange Rows.fnAppendStringDecodesBackSpec) :=
  OpenClaim.holds_of_wide 3 Trym.f3 rfl rfl rfl rfl rfl rfl rfl ⟨rfl, rfl, rfl, rfl, rfl⟩ rfl rfl rfl rfl rfl (by kernel_rfl) Trym.func3 (by kernel_rfl)
    (of_decide_eq_true (by kernel_rfl)) (by unfold Func.isWrapper; first | (rw [if_pos (by decide +kernel)]; kernel_rfl) | (rw [if_neg (by decide +kernel)]; exact ⟨rfl, rfl⟩))
    (fun os started H enc _ => lifted os started H enc)

/-- ████ THE STATEMENT ████ -/
theorem proved : Rows.FnAppendStringDecodesBackSaid :=
  over
#print axioms proved
end Go.Proofs.Qxb6000883aMods.fnAppendStringDecodesBack
