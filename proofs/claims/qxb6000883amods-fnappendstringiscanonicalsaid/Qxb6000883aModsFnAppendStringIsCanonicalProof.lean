import Derived.Test.Qxb6000883aModsDecWalks
import Derived.ProofKit
import Derived.OpenShut
import Derived.ShutString
import Derived.ChangeOld
import Derived.Below
namespace Go.Proofs.Qxb6000883aMods.fnAppendStringIsCanonical
open Go.ChangeShapes Go.WideShapes Go.ChangeAt Go.RowKit
open Go.ChangeMaps (open_string shut_string)
set_option linter.unusedVariables false

theorem own : ownKnob Trym.prog.godebug = none := by kernel_rfl

set_option maxHeartbeats 400000 in
theorem zzBytes_any (s : ByteArray) (w : World) (h : s.size ≤ maxLen) :
    Calls Trym.prog 12 #[.string s] w fun e w' => e = .returned (.bool (decide (s.size ≤ 1048576))) ∧ w' = w := by
  unfold maxLen at h
  by_cases c : s.size ≤ 1048576
  · rw [show decide (s.size ≤ 1048576) = true from by simpa using c]
    go_enter Trym.func12, Trym.ntmps12
    go_wp2
    go_ret
    exact ⟨rfl, rfl⟩
  · rw [show decide (s.size ≤ 1048576) = false from by simpa using c]
    go_enter Trym.func12, Trym.ntmps12
    go_wp2
    go_ret
    exact ⟨rfl, rfl⟩

theorem bI_range (s : ByteArray) : ∀ j, j < (bI s).length → 0 ≤ (bI s).getD j 0 ∧ (bI s).getD j 0 < 256 := by
  intro j hj
  rw [bI_length] at hj
  rw [← bI_get s j hj]
  have := s[j].toNat_lt
  omega

set_option maxHeartbeats 400000 in
theorem walk (a0 : ByteArray) (w0 : a0.size ≤ maxLen) (w : World) :
    Calls Trym.prog 4 #[.string a0] w fun e w' => e = .returned (.bool true) ∧ Below w.heap.size w w' := by
  have hz := zzBytes_any a0 w w0
  by_cases hs : a0.size ≤ 1048576
  · rw [show decide (a0.size ≤ 1048576) = true from by simpa using hs] at hz
    obtain ⟨l, hl⟩ : ∃ l, l = bI a0 := ⟨_, rfl⟩
    have HLL : Hid (l.length = a0.size) := by show _ = _; rw [hl, bI_length]
    obtain ⟨he1, he2⟩ := enc_len l
    rw [HLL.out] at he1 he2
    have HR : Hid (∀ j, j < l.length → 0 ≤ l.getD j 0 ∧ l.getD j 0 < 256) := by rw [hl]; exact bI_range a0
    have h1 : Calls Trym.prog 9 #[.slice none 0 0, .string a0] w _ := zzAppendString_any none [] a0 w hs (Nat.zero_le _) (fun _ => rfl) (fun x hx => by cases hx)
    rw [← hl, List.nil_append] at h1
    have HL : Hid (l = bI a0) := hl
    clear hl
    obtain ⟨n, hn⟩ : ∃ n, n = (enc l).length := ⟨_, rfl⟩
    have hd := fun gb cap w' hc => zzDecode_any gb cap l true w' (by rw [HLL.out]; exact hs) HR.out hc
    rw [← hn] at he1 he2 hd
    have HN : Hid (n = (enc l).length) := hn
    have HD : Hid _ := hd
    clear hn hd
    go_enter Trym.func4, Trym.ntmps4
    go_wp2_with (first | (go_at_call 12; refine hz.mono ?_; rintro e w' ⟨rfl, hw'⟩; replace hw' := hw'.symm; subst hw'))
    refine h1.mono ?_
    clear h1 hz
    rintro e w1 ⟨v1, N1, rfl, ho1⟩
    have hb1 := ho1.2.1
    obtain ⟨g, cap, rfl, _, hg, hcap, hm, hc⟩ := ownedAt ho1 (by rw [← HN.out]; omega)
    rw [← HN.out] at hc hcap ⊢
    clear ho1
    go_wp2_with fail
    refine (HD.out g cap w1 hc).mono ?_
    clear HD hc
    rintro e w2 ⟨v2, N2, rfl, ho2⟩
    have hb2 := ho2.2.1
    clear ho2
    unfold maxLen at hm
    have t1 : decide ((a0.size : Int) + 2 ≤ (n : Int)) = true := by simp; omega
    go_wp2_with fail
    go_ret
    exact ⟨by simp; try omega, hb1.trans (hb2.mono hb1.size)⟩
  · rw [show decide (a0.size ≤ 1048576) = false from by simpa using hs] at hz
    go_enter Trym.func4, Trym.ntmps4
    go_wp2_with (go_at_call 12; refine hz.mono ?_; rintro e w' ⟨rfl, hw'⟩; replace hw' := hw'.symm; subst hw')
    go_ret
    exact ⟨rfl, Below.refl _ _⟩
/-! ### THE ROW's STEP: WRITTEN OUT: LEAVE IT -/
set_option maxRecDepth 100000 in
theorem lifted (os : Os) (started : os.Started) (H : Type) (enc : TypeId × Value → H) :
    ReturnsInHanded {} Trym.checked os 4 .any (Rows.fnAppendStringIsCanonicalSpec.pre6 enc Trym.prog Trym.f4 Rows.fnAppendStringIsCanonicalRow.domain false) (Rows.fnAppendStringIsCanonicalSpec.post enc Trym.prog Trym.f4 false true false false) := by
  refine returnsInHanded_of_change (C := Trym.checked) own started (by kernel_rfl) Trym.func4
    (ChangeSpec.witness6 (enc := enc) (C := Trym.checked) false ⟨#[], #[.string ByteArray.empty], []⟩ 8 (by kernel_rfl) (by kernel_rfl) (by kernel_rfl) (by kernel_rfl)) ?_
  intro W base args ds gs before hval0 hW hcnd _
  have hval : ∀ (j : Nat) t v, Trym.f4.params[j]? = some t → args[j]? = some v → Value.okWide Trym.prog W .any base t v := hval0
  have hW' := hW
  obtain ⟨p, q, hA0, hV, rfl, hfz, hnd⟩ := hW
  have hA : DataW.TrodAll enc Trym.prog W 0 (fun _ => true) true Trym.f4.params.toList args.toList ds p := hA0
  rw [Trym.params4] at hA hval
  obtain ⟨v0, vs0, d0, ds0, p0, q0, hargs, rfl, rfl, h0, r0⟩ := trodAll_cons hA
  obtain ⟨rfl, rfl, rfl⟩ := trodAll_nil r0
  obtain rfl : args = #[v0] := by cases args; simp_all
  obtain ⟨rfl, rfl⟩ := trodVars_none hV
  obtain ⟨a0, rfl, rfl, rfl, w0⟩ := open_string Trym.underlying9 (hval 0 9 v0 rfl rfl) h0
  clear hA0 hval0
  simp only [List.append_nil] at hW'
  refine (walk a0 w0 W).mono fun e W' ⟨he, bel⟩ => ?_
  subst he
  exact ⟨_, rfl, _, _, _, [], _, [], hW', trodAll_mk1 (shut_bool Trym.underlying4 _), (trodAll_cons_mk (shut_string Trym.underlying9 w0) trodAll_mk0), rfl, bel.frame _, fun h => by cases h⟩

theorem over : Rows.fnAppendStringIsCanonicalRow.holds Trym.pinned (OpenSpec.ofChange Rows.fnAppendStringIsCanonicalSpec) :=
  OpenClaim.holds_of_wide 4 Trym.f4 rfl rfl rfl rfl rfl rfl rfl ⟨rfl, rfl, rfl, rfl, rfl⟩ rfl rfl rfl rfl rfl (by kernel_rfl) Trym.func4 (by kernel_rfl)
    (of_decide_eq_true (by kernel_rfl)) (by unfold Func.isWrapper; first | (rw [if_pos (by decide +kernel)]; kernel_rfl) | (rw [if_neg (by decide +kernel)]; exact ⟨rfl, rfl⟩))
    (fun os started H enc _ => lifted os started H enc)

/-- ████ THE STATEMENT ████ -/
theorem proved : Rows.FnAppendStringIsCanonicalSaid :=
  over
#print axioms proved
end Go.Proofs.Qxb6000883aMods.fnAppendStringIsCanonical
