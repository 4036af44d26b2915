import Derived.Test.Qxb6603995aModsNumCopy
import Derived.Test.Qxb6603995aModsRunWalks
import Derived.ProofKit
import Derived.OpenShut
import Derived.ShutString
import Derived.ChangeOld
import Derived.Below
namespace Go.Proofs.Qxb6603995aMods.fnNumberEndMatchesGrammarAutomaton
open Go.ChangeShapes Go.WideShapes Go.ChangeAt Go.RowKit
open Go.ChangeMaps (open_string shut_string)
set_option linter.unusedVariables false

theorem own : ownKnob Trym.prog.godebug = none := by kernel_rfl
theorem laidOut : laidOutB Trym.prog = true := by kernel_rfl

/-- WHAT THE WALK IS TOLD OF A SLICE OF INTEGERS THAT CAME IN: it is nil; or it leads to a row of 'cap' cells, the numbers 'zs' (the first 'len' are its elements, the rest its spare room), each fitting its kind. -/
def IsRow (k : IntKind) (w : World) (a : Option Addr) (len cap : Nat) (zs : List Int) : Prop :=
  (a = none ∧ len = 0 ∧ cap = 0 ∧ zs = []) ∨
  ∃ x, a = some x ∧ len ≤ cap ∧ cap ≤ maxLen ∧ zs.length = cap ∧ (∀ i, i < zs.length → w.cell? (x.add i) = some (.int k (zs.getD i 0))) ∧ ∀ n ∈ zs, (Lit.int k n).wf = true

set_option maxHeartbeats 400000 in
theorem zzBytes_any (a : Option Addr) (len cap : Nat) (i : Int) (w : World) (h : len ≤ maxLen) :
    Calls Trym.prog 8 #[.slice a len cap, .int .i64 i] w fun e w' => e = .returned (.bool (decide (len ≤ 1048576))) ∧ w' = w := by
  unfold maxLen at h
  by_cases c : len ≤ 1048576
  · rw [show decide (len ≤ 1048576) = true from by simpa using c]
    go_enter Trym.func8, Trym.ntmps8
    go_wp2
    go_ret
    exact ⟨rfl, rfl⟩
  · rw [show decide (len ≤ 1048576) = false from by simpa using c]
    go_enter Trym.func8, Trym.ntmps8
    go_wp2
    go_ret
    exact ⟨rfl, rfl⟩

/-- both answers tell where the one automaton stops -/
theorem walk_dat (a : Option Addr) (len cap n : Nat) (g : Nat → Int) (w : World) (v1 : Value) (hl : len ≤ 1048576) (hn : n ≤ 9223372036854775807)
    (hcp : Calls Trym.prog 9 #[.slice a len cap] w fun e w' => e = .returned v1 ∧ Below w.heap.size w w' ∧ Dat w' v1 len g) :
    Calls Trym.prog 3 #[.slice a len cap, .int .i64 n] w fun e w' => e = .returned (.bool true) ∧ Below w.heap.size w w' := by
  have hz := zzBytes_any a len cap n w (by unfold maxLen; omega)
  rw [show decide (len ≤ 1048576) = true from by simpa using hl] at hz
  go_enter Trym.func3, Trym.ntmps3
  go_wp2_with (first | (go_at_call 8; refine hz.mono ?_; rintro e w' ⟨rfl, hw'⟩; replace hw' := hw'.symm; subst hw') | (go_at_call 9; refine hcp.mono ?_; rintro e w1 ⟨rfl, hb1, hd'⟩; have HD : Hid (Dat w1 v1 len g) := hd'; clear hd') | (go_at_call 10; refine (zzNumberEnd_any v1 len g n w1 HD.out hl hn).mono ?_; rintro e w' ⟨⟨q, t, rfl, hst'⟩, hw'⟩; replace hw' := hw'.symm; subst hw'; have hst : Hid (Stops g 0 n q t) := hst'; clear hst') | (go_at_call 11; refine (numRun_any v1 len g n w1 HD.out hl hn).mono ?_; rintro e w' ⟨⟨q2, t2, rfl, hst2⟩, hw'⟩; replace hw' := hw'.symm; subst hw'; obtain ⟨rfl, rfl⟩ := hst.out.det hst2; clear hst2))
  all_goals go_ret
  all_goals exact ⟨by simp, hb1⟩

theorem getD_past (zs : List Int) (j : Nat) (h : zs.length ≤ j) : zs.getD j 0 = 0 := by
  rw [List.getD_eq_getElem?_getD, List.getElem?_eq_none h]; rfl
theorem take_getD (zs : List Int) (n j : Nat) (h : j < n) : (zs.take n).getD j 0 = zs.getD j 0 := by
  simp [List.getD_eq_getElem?_getD, List.getElem?_take_of_lt h]

set_option maxHeartbeats 400000 in
theorem walk (a0 : Option Addr) (len0 cap0 : Nat) (z0 : List Int) (a1 : Int) (w : World) (w0 : IsRow .u8 w a0 len0 cap0 z0) (w1 : (Lit.int .i64 a1).wf = true) :
    Calls Trym.prog 3 #[.slice a0 len0 cap0, .int .i64 a1] w fun e w' => e = .returned (.bool true) ∧ Below w.heap.size w w' := by
  have hlm : len0 ≤ maxLen := by
    rcases w0 with ⟨_, h, _⟩ | ⟨x, _, h1, h2, _⟩
    · rw [h]; exact Nat.zero_le _
    · omega
  have hz := zzBytes_any a0 len0 cap0 a1 w hlm
  obtain ⟨l1, u1⟩ := bounds_i64 w1
  unfold maxLen at hlm
  by_cases hs : len0 ≤ 1048576
  · rw [show decide (len0 ≤ 1048576) = true from by simpa using hs] at hz
    by_cases hneg : a1 < 0
    · clear w0
      go_enter Trym.func3, Trym.ntmps3
      go_wp2_with (go_at_call 8; refine hz.mono ?_; rintro e w' ⟨rfl, hw'⟩; replace hw' := hw'.symm; subst hw')
      go_ret
      exact ⟨rfl, Below.refl _ _⟩
    · clear hz
      obtain ⟨n, rfl⟩ := Int.eq_ofNat_of_zero_le (by omega : 0 ≤ a1)
      rcases w0 with ⟨rfl, rfl, rfl, _⟩ | ⟨x, rfl, h1, h2, h3, hcell, hwf⟩
      · exact walk_dat none 0 0 n (fun _ => 0) w (.slice none 0 0) hs (by omega) ((numCopy_nil w).mono fun e w' ⟨he, hw⟩ => ⟨he, by rw [hw]; exact Below.refl _ _, fun _ _ => rfl, .inl ⟨rfl, rfl⟩⟩)
      · have e : (z0.take len0).length = len0 := by simp; omega
        have hcp := numCopy_at x cap0 (z0.take len0) w (by omega) (fun j hj => by rw [take_getD _ _ _ (by omega)]; exact hcell j (by omega))
        rw [e] at hcp
        exact walk_dat (some x) len0 cap0 n (fun j => (z0.take len0).getD j 0) w (.slice (some ⟨w.heap.size, 0, none⟩) len0 len0) hs (by omega) (hcp.mono fun e' w' ⟨he, hb, hc⟩ => ⟨he, hb, fun j hj => getD_past _ _ (by omega), .inr ⟨_, _, _, rfl, hc⟩⟩)
  · clear w0
    rw [show decide (len0 ≤ 1048576) = false from by simpa using hs] at hz
    go_enter Trym.func3, Trym.ntmps3
    go_wp2_with (go_at_call 8; refine hz.mono ?_; rintro e w' ⟨rfl, hw'⟩; replace hw' := hw'.symm; subst hw')
    go_ret
    exact ⟨rfl, Below.refl _ _⟩
/-! ### THE ROW's STEP: WRITTEN OUT: LEAVE IT -/
set_option maxRecDepth 100000 in
theorem lifted (os : Os) (started : os.Started) (H : Type) (enc : TypeId × Value → H) :
    ReturnsInHanded {} Trym.checked os 3 .any (Rows.fnNumberEndMatchesGrammarAutomatonSpec.pre6 enc Trym.prog Trym.f3 Rows.fnNumberEndMatchesGrammarAutomatonRow.domain false) (Rows.fnNumberEndMatchesGrammarAutomatonSpec.post enc Trym.prog Trym.f3 false true false false) := by
  refine returnsInHanded_of_change (C := Trym.checked) own started (by kernel_rfl) Trym.func3
    (ChangeSpec.witness6 (enc := enc) (C := Trym.checked) false ⟨#[], #[.slice none 0 0, .int .i64 0], []⟩ 8 (by kernel_rfl) (by kernel_rfl) (by kernel_rfl) (by kernel_rfl)) ?_
  intro W base args ds gs before hval0 hW hcnd _
  have hval : ∀ (j : Nat) t v, Trym.f3.params[j]? = some t → args[j]? = some v → Value.okWide Trym.prog W .any base t v := hval0
  have hW' := hW
  obtain ⟨p, q, hA0, hV, rfl, hfz, hnd⟩ := hW
  have hA : DataW.TrodAll enc Trym.prog W 0 (fun _ => true) true Trym.f3.params.toList args.toList ds p := hA0
  rw [Trym.params3] at hA hval
  obtain ⟨v0, vs0, d0, ds0, p0, q0, hargs, rfl, rfl, h0, r0⟩ := trodAll_cons hA
  obtain ⟨v1, vs1, d1, ds1, p1, q1, rfl, rfl, rfl, h1, r1⟩ := trodAll_cons r0
  obtain ⟨rfl, rfl, rfl⟩ := trodAll_nil r1
  obtain rfl : args = #[v0, v1] := by cases args; simp_all
  obtain ⟨rfl, rfl⟩ := trodVars_none hV
  obtain ⟨a0, len0, cap0, rfl⟩ := okWide_slice Trym.underlying22 (hval 0 22 v0 rfl rfl)
  have k0 := h0
  have lt0 : ∀ x ∈ p0, x.block < W.heap.size := by obtain ⟨m, hm⟩ := k0; exact DataW.trod_lt m _ _ _ hm
  obtain ⟨z0, w0⟩ : ∃ zs, IsRow .u8 W a0 len0 cap0 zs := by
    obtain ⟨fuel, hf⟩ := h0
    rcases open_ints Trym.underlying22 Trym.underlying5 (by kernel_rfl) hf with ⟨hcs, _⟩ | ⟨x, l, c, zs, hcs, _, hl, hm, hz, _, hcell, hwz⟩
    · simp [Value.cells] at hcs
      obtain ⟨rfl, rfl, rfl⟩ := hcs
      exact ⟨[], .inl ⟨rfl, rfl, rfl, rfl⟩⟩
    · simp [Value.cells] at hcs
      obtain ⟨rfl, rfl, rfl⟩ := hcs
      exact ⟨zs, .inr ⟨_, rfl, hl, hm, by simpa using hz, hcell, hwz⟩⟩
  obtain ⟨a1, rfl, rfl, rfl, w1⟩ := open_int Trym.underlying3 (hval 1 3 v1 rfl rfl) h1
  clear hA0 hval0
  refine (walk a0 len0 cap0 z0 a1 W w0 w1).mono fun e W' ⟨he, bel⟩ => ?_
  subst he
  exact ⟨_, rfl, _, _, _, [], _, [], hW', trodAll_mk1 (shut_bool Trym.underlying4 _), (trodAll_cons_mk (Below.trod laidOut (by kernel_rfl) (of_decide_eq_true (by kernel_rfl)) k0 bel lt0) (trodAll_cons_mk (shut_int Trym.underlying3 w1) trodAll_mk0)), rfl, bel.frame _, fun h => by cases h⟩

theorem over : Rows.fnNumberEndMatchesGrammarAutomatonRow.holds Trym.pinned (OpenSpec.ofChange Rows.fnNumberEndMatchesGrammarAutomatonSpec) :=
  OpenClaim.holds_of_wide 3 Trym.f3 rfl rfl rfl rfl rfl rfl rfl ⟨rfl, rfl, rfl, rfl, rfl⟩ rfl rfl rfl rfl rfl (by kernel_rfl) Trym.func3 (by kernel_rfl)
    (of_decide_eq_true (by kernel_rfl)) (by unfold Func.isWrapper; first | (rw [if_pos (by decide +kernel)]; kernel_rfl) | (rw [if_neg (by decide +kernel)]; exact ⟨rfl, rfl⟩))
    (fun os started H enc _ => lifted os started H enc)

/-- ████ THE STATEMENT ████ -/
theorem proved : Rows.FnNumberEndMatchesGrammarAutomatonSaid := over
#print axioms proved
end Go.Proofs.Qxb6603995aMods.fnNumberEndMatchesGrammarAutomaton
