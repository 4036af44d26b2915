import Derived.Test.Qxb6603995aModsNumCopy
import Derived.Test.Qxb6603995aModsNumWalks
import Derived.ProofKit
import Derived.OpenShut
import Derived.ShutString
import Derived.ChangeOld
import Derived.Below
namespace Go.Proofs.Qxb6603995aMods.fnNumberEndVerdictRestsOnBytesBeforeEnd
open Go.ChangeShapes Go.WideShapes Go.ChangeAt Go.RowKit
open Go.ChangeMaps (open_string shut_string)
set_option linter.unusedVariables false

theorem own : ownKnob Trym.prog.godebug = none := by kernel_rfl
theorem laidOut : laidOutB Trym.prog = true := by kernel_rfl

/-- WHAT THE WALK IS TOLD OF A SLICE OF INTEGERS THAT CAME IN: it is nil; or it leads to a row of 'cap' cells, the numbers 'zs' (the first 'len' are its elements, the rest its spare room), each fitting its kind. -/
def IsRow (k : IntKind) (w : World) (a : Option Addr) (len cap : Nat) (zs : List Int) : Prop :=
  (a = none ∧ len = 0 ∧ cap = 0 ∧ zs = []) ∨
  ∃ x, a = some x ∧ len ≤ cap ∧ cap ≤ maxLen ∧ zs.length = cap ∧ (∀ i, i < zs.length → w.cell? (x.add i) = some (.int k (zs.getD i 0))) ∧ ∀ n ∈ zs, (Lit.int k n).wf = true

set_option maxHeartbeats 400000 in
theorem zzBytes_any (a : Option Addr) (len cap : Nat) (i : Int) (w : World) (h : len ≤ maxLen) :
    Calls Trym.prog 12 #[.slice a len cap, .int .i64 i] w fun e w' => e = .returned (.bool (decide (len ≤ 1048576))) ∧ w' = w := by
  unfold maxLen at h
  by_cases c : len ≤ 1048576
  · rw [show decide (len ≤ 1048576) = true from by simpa using c]
    go_enter Trym.func12, Trym.ntmps12
    go_wp2
    go_ret
    exact ⟨rfl, rfl⟩
  · rw [show decide (len ≤ 1048576) = false from by simpa using c]
    go_enter Trym.func12, Trym.ntmps12
    go_wp2
    go_ret
    exact ⟨rfl, rfl⟩

/-- nil: the only place is 0 -/
theorem walk_nil (w : World) : Calls Trym.prog 4 #[.slice none 0 0, .int .i64 0] w fun e w' => e = .returned (.bool true) ∧ Below w.heap.size w w' := by
  have hz := zzBytes_any none 0 0 0 w (Nat.zero_le _)
  have hd : Dat w (.slice none 0 0) 0 (fun _ => 0) := ⟨fun _ _ => rfl, .inl ⟨rfl, rfl⟩⟩
  have hne := zzNumberEnd_any _ 0 _ 0 w hd (by omega) (by omega)
  have hcp := numCopy_nil w
  have h0 : ∀ q t, Stops (fun _ => 0) 0 0 q t → q = 0 ∧ t = 0 := fun q t h => h.det (Stops.here (stepN_zero 0))
  have H0 : Hid (∀ q t, Stops (fun _ => 0) 0 0 q t → q = 0 ∧ t = 0) := h0
  clear hd h0
  go_enter Trym.func4, Trym.ntmps4
  go_wp2_with (first | (go_at_call 12; refine hz.mono ?_; rintro e w' ⟨rfl, hw'⟩; replace hw' := hw'.symm; subst hw'; rw [show decide (0 ≤ 1048576) = true from rfl]) | (go_at_call 9; refine hcp.mono ?_; rintro e w' ⟨rfl, hw'⟩; replace hw' := hw'.symm; subst hw') | (go_at_call 10; refine hne.mono ?_; rintro e w' ⟨⟨q, t, rfl, hst⟩, hw'⟩; replace hw' := hw'.symm; subst hw'; obtain ⟨rfl, rfl⟩ := H0.out q t hst; clear hst; rw [show accN 0 = false from rfl]))
  go_ret
  exact ⟨rfl, Below.refl _ _⟩

def cutG (g : Nat → Int) (n m j : Nat) : Int := if j < m then g (n + j) else 0
theorem cutG_lt (g : Nat → Int) (n m j : Nat) (h : j < m) : cutG g n m j = g (n + j) := if_pos h
theorem cutG_ge (g : Nat → Int) (n m j : Nat) (h : m ≤ j) : cutG g n m j = 0 := if_neg (by omega)

set_option maxHeartbeats 400000 in
theorem walk_row (x : Addr) (cap n : Nat) (zs : List Int) (w : World) (hl : zs.length ≤ 1048576) (hn : n ≤ zs.length)
    (hc : ∀ j, j < zs.length → w.cell? (x.add j) = some (.int .u8 (zs.getD j 0))) :
    Calls Trym.prog 4 #[.slice (some x) zs.length cap, .int .i64 n] w fun e w' => e = .returned (.bool true) ∧ Below w.heap.size w w' := by
  have hz := zzBytes_any (some x) zs.length cap n w (by unfold maxLen; omega)
  rw [show decide (zs.length ≤ 1048576) = true from by simpa using hl] at hz
  have hcp := numCopy_at x cap zs w hl hc
  clear hc
  obtain ⟨g, hg⟩ : ∃ g : Nat → Int, g = fun j => zs.getD j 0 := ⟨_, rfl⟩
  have G0 : Hid (∀ j, zs.length ≤ j → g j = 0) := fun j hj => by rw [hg]; simp [hj]
  have GE : Hid (∀ j, zs.getD j 0 = g j) := fun j => by rw [hg]
  clear hg
  go_enter Trym.func4, Trym.ntmps4
  go_wp2_with (first | (go_at_call 12; refine hz.mono ?_; rintro e w' ⟨rfl, hw'⟩; replace hw' := hw'.symm; subst hw') | (go_at_call 9; refine hcp.mono ?_; rintro e w1 ⟨rfl, hb1, hc1⟩; have HC : Hid (∀ j, j < zs.length → w1.cell? ⟨w.heap.size, 0 + j, none⟩ = some (.int .u8 (zs.getD j 0))) := hc1; clear hc1))
  refine (zzNumberEnd_any _ zs.length g n w1 ⟨G0.out, .inr ⟨_, _, _, rfl, fun j hj => by rw [HC.out j hj, GE.out]⟩⟩ hl (by omega)).mono ?_
  rintro e w' ⟨⟨q, t, rfl, hst'⟩, hw'⟩
  replace hw' := hw'.symm
  subst hw'
  have hst : Hid (Stops g 0 n q t) := hst'
  obtain ⟨hq1, hq2⟩ := hst'.le G0.out hn
  clear hst'
  clear hz hcp
  cases hacc : accN t
  · go_wp2_with fail
    refine (zzNumberEnd_any _ q (cutG g 0 q) n w1 ⟨cutG_ge g 0 q, .inr ⟨_, _, _, rfl, fun j hj => by rw [HC.out j (by omega), GE.out, cutG_lt g 0 q j hj, Nat.zero_add]⟩⟩ (by omega) (by omega)).mono ?_
    rintro e w' ⟨⟨q2, t2, rfl, hst2⟩, hw'⟩
    replace hw' := hw'.symm
    subst hw'
    obtain ⟨rfl, rfl⟩ := (hst.out.cut (g' := cutG g 0 q) (fun j hj => by rw [cutG_lt g 0 q j hj, Nat.zero_add]) (cutG_ge g 0 q q (Nat.le_refl _))).det hst2
    clear hst2
    rw [hacc]
    go_wp2_with fail
    go_ret
    exact ⟨rfl, hb1⟩
  · have hne : n < q := by have := hst.out.moved hacc; omega
    go_wp2_with fail
    refine (zzNumberEnd_any _ q (cutG g 0 q) n w1 ⟨cutG_ge g 0 q, .inr ⟨_, _, _, rfl, fun j hj => by rw [HC.out j (by omega), GE.out, cutG_lt g 0 q j hj, Nat.zero_add]⟩⟩ (by omega) (by omega)).mono ?_
    rintro e w' ⟨⟨q2, t2, rfl, hst2⟩, hw'⟩
    replace hw' := hw'.symm
    subst hw'
    obtain ⟨rfl, rfl⟩ := (hst.out.cut (g' := cutG g 0 q) (fun j hj => by rw [cutG_lt g 0 q j hj, Nat.zero_add]) (cutG_ge g 0 q q (Nat.le_refl _))).det hst2
    clear hst2
    rw [hacc]
    go_wp2_with fail
    have h3 : Calls Trym.prog 10 #[.slice (some ⟨w.heap.size, n, none⟩) (q - n) (zs.length - n), .int .i64 0] w1 _ := zzNumberEnd_any (.slice (some ⟨w.heap.size, n, none⟩) (q - n) (zs.length - n)) (q - n) (cutG g n (q - n)) 0 w1 ⟨cutG_ge g n (q - n), .inr ⟨_, _, _, rfl, fun j hj => by have := HC.out (n + j) (by omega); rw [Nat.zero_add] at this; rw [this, GE.out, cutG_lt g n (q - n) j hj]⟩⟩ (by omega) (by omega)
    refine h3.mono ?_
    clear h3
    rintro e w' ⟨⟨q3, t3, rfl, hst3⟩, hw'⟩
    replace hw' := hw'.symm
    subst hw'
    obtain ⟨rfl, rfl⟩ := (hst.out.shift (g' := cutG g n (q - n)) (fun j hj => cutG_lt g n (q - n) j hj) (cutG_ge g n (q - n) (q - n) (Nat.le_refl _))).det hst3
    clear hst3
    rw [hacc]
    have e3 : ((q - n : Nat) : Int) = (q : Int) - n := by omega
    rw [e3]
    go_wp2_with fail
    go_ret
    exact ⟨rfl, hb1⟩

theorem take_getD (zs : List Int) (n j : Nat) (h : j < n) : (zs.take n).getD j 0 = zs.getD j 0 := by
  simp [List.getD_eq_getElem?_getD, List.getElem?_take_of_lt h]

set_option maxHeartbeats 400000 in
theorem walk (a0 : Option Addr) (len0 cap0 : Nat) (z0 : List Int) (a1 : Int) (w : World) (w0 : IsRow .u8 w a0 len0 cap0 z0) (w1 : (Lit.int .i64 a1).wf = true) :
    Calls Trym.prog 4 #[.slice a0 len0 cap0, .int .i64 a1] w fun e w' => e = .returned (.bool true) ∧ Below w.heap.size w w' := by
  have hlm : len0 ≤ maxLen := by
    rcases w0 with ⟨_, h, _⟩ | ⟨x, _, h1, h2, _⟩
    · rw [h]; exact Nat.zero_le _
    · omega
  have hz := zzBytes_any a0 len0 cap0 a1 w hlm
  obtain ⟨l1, u1⟩ := bounds_i64 w1
  unfold maxLen at hlm
  by_cases hs : len0 ≤ 1048576
  · rw [show decide (len0 ≤ 1048576) = true from by simpa using hs] at hz
    by_cases hneg : a1 < 0
    · clear w0
      have hd : decide (a1 < 0) = true := by simpa using hneg
      go_enter Trym.func4, Trym.ntmps4
      go_wp2_with (go_at_call 12; refine hz.mono ?_; rintro e w' ⟨rfl, hw'⟩; replace hw' := hw'.symm; subst hw')
      go_ret
      exact ⟨rfl, Below.refl _ _⟩
    · by_cases hbig : (len0 : Int) < a1
      · clear w0
        have hd : decide (a1 < 0) = false := by simpa using hneg
        go_enter Trym.func4, Trym.ntmps4
        go_wp2_with (go_at_call 12; refine hz.mono ?_; rintro e w' ⟨rfl, hw'⟩; replace hw' := hw'.symm; subst hw')
        go_ret
        exact ⟨rfl, Below.refl _ _⟩
      · clear hz
        obtain ⟨n, rfl⟩ := Int.eq_ofNat_of_zero_le (by omega : 0 ≤ a1)
        rcases w0 with ⟨rfl, rfl, rfl, _⟩ | ⟨x, rfl, h1, h2, h3, hcell, hwf⟩
        · obtain rfl : n = 0 := by omega
          exact walk_nil w
        · have e : (z0.take len0).length = len0 := by simp; omega
          have := walk_row x cap0 n (z0.take len0) w (by omega) (by omega) (fun j hj => by rw [take_getD _ _ _ (by omega)]; exact hcell j (by omega))
          rw [e] at this
          exact this
  · clear w0
    rw [show decide (len0 ≤ 1048576) = false from by simpa using hs] at hz
    go_enter Trym.func4, Trym.ntmps4
    go_wp2_with (go_at_call 12; refine hz.mono ?_; rintro e w' ⟨rfl, hw'⟩; replace hw' := hw'.symm; subst hw')
    go_ret
    exact ⟨rfl, Below.refl _ _⟩
/-! ### THE ROW's STEP: WRITTEN OUT: LEAVE IT -/
set_option maxRecDepth 100000 in
theorem lifted (os : Os) (started : os.Started) (H : Type) (enc : TypeId × Value → H) :
    ReturnsInHanded {} Trym.checked os 4 .any (Rows.fnNumberEndVerdictRestsOnBytesBeforeEndSpec.pre6 enc Trym.prog Trym.f4 Rows.fnNumberEndVerdictRestsOnBytesBeforeEndRow.domain false) (Rows.fnNumberEndVerdictRestsOnBytesBeforeEndSpec.post enc Trym.prog Trym.f4 false true false false) := by
  refine returnsInHanded_of_change (C := Trym.checked) own started (by kernel_rfl) Trym.func4
    (ChangeSpec.witness6 (enc := enc) (C := Trym.checked) false ⟨#[], #[.slice none 0 0, .int .i64 0], []⟩ 8 (by kernel_rfl) (by kernel_rfl) (by kernel_rfl) (by kernel_rfl)) ?_
  intro W base args ds gs before hval0 hW hcnd _
  have hval : ∀ (j : Nat) t v, Trym.f4.params[j]? = some t → args[j]? = some v → Value.okWide Trym.prog W .any base t v := hval0
  have hW' := hW
  obtain ⟨p, q, hA0, hV, rfl, hfz, hnd⟩ := hW
  have hA : DataW.TrodAll enc Trym.prog W 0 (fun _ => true) true Trym.f4.params.toList args.toList ds p := hA0
  rw [Trym.params4] at hA hval
  obtain ⟨v0, vs0, d0, ds0, p0, q0, hargs, rfl, rfl, h0, r0⟩ := trodAll_cons hA
  obtain ⟨v1, vs1, d1, ds1, p1, q1, rfl, rfl, rfl, h1, r1⟩ := trodAll_cons r0
  obtain ⟨rfl, rfl, rfl⟩ := trodAll_nil r1
  obtain rfl : args = #[v0, v1] := by cases args; simp_all
  obtain ⟨rfl, rfl⟩ := trodVars_none hV
  obtain ⟨a0, len0, cap0, rfl⟩ := okWide_slice Trym.underlying22 (hval 0 22 v0 rfl rfl)
  have k0 := h0
  have lt0 : ∀ x ∈ p0, x.block < W.heap.size := by obtain ⟨m, hm⟩ := k0; exact DataW.trod_lt m _ _ _ hm
  obtain ⟨z0, w0⟩ : ∃ zs, IsRow .u8 W a0 len0 cap0 zs := by
    obtain ⟨fuel, hf⟩ := h0
    rcases open_ints Trym.underlying22 Trym.underlying5 (by kernel_rfl) hf with ⟨hcs, _⟩ | ⟨x, l, c, zs, hcs, _, hl, hm, hz, _, hcell, hwz⟩
    · simp [Value.cells] at hcs
      obtain ⟨rfl, rfl, rfl⟩ := hcs
      exact ⟨[], .inl ⟨rfl, rfl, rfl, rfl⟩⟩
    · simp [Value.cells] at hcs
      obtain ⟨rfl, rfl, rfl⟩ := hcs
      exact ⟨zs, .inr ⟨_, rfl, hl, hm, by simpa using hz, hcell, hwz⟩⟩
  obtain ⟨a1, rfl, rfl, rfl, w1⟩ := open_int Trym.underlying3 (hval 1 3 v1 rfl rfl) h1
  clear hA0 hval0
  refine (walk a0 len0 cap0 z0 a1 W w0 w1).mono fun e W' ⟨he, bel⟩ => ?_
  subst he
  exact ⟨_, rfl, _, _, _, [], _, [], hW', trodAll_mk1 (shut_bool Trym.underlying4 _), (trodAll_cons_mk (Below.trod laidOut (by kernel_rfl) (of_decide_eq_true (by kernel_rfl)) k0 bel lt0) (trodAll_cons_mk (shut_int Trym.underlying3 w1) trodAll_mk0)), rfl, bel.frame _, fun h => by cases h⟩

theorem over : Rows.fnNumberEndVerdictRestsOnBytesBeforeEndRow.holds Trym.pinned (OpenSpec.ofChange Rows.fnNumberEndVerdictRestsOnBytesBeforeEndSpec) :=
  OpenClaim.holds_of_wide 4 Trym.f4 rfl rfl rfl rfl rfl rfl rfl ⟨rfl, rfl, rfl, rfl, rfl⟩ rfl rfl rfl rfl rfl (by kernel_rfl) Trym.func4 (by kernel_rfl)
    (of_decide_eq_true (by kernel_rfl)) (by unfold Func.isWrapper; first | (rw [if_pos (by decide +kernel)]; kernel_rfl) | (rw [if_neg (by decide +kernel)]; exact ⟨rfl, rfl⟩))
    (fun os started H enc _ => lifted os started H enc)

/-- ████ THE STATEMENT ████ -/
theorem proved : Rows.FnNumberEndVerdictRestsOnBytesBeforeEndSaid := over
#print axioms proved
end Go.Proofs.Qxb6603995aMods.fnNumberEndVerdictRestsOnBytesBeforeEnd
