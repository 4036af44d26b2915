import Derived.Test.Qxb6603995aModsCanWalks
import Derived.ProofKit
import Derived.OpenShut
import Derived.ShutString
import Derived.Deep.QuietTactic
import Derived.BigQuiet
namespace Go.Proofs.Qxb6603995aMods.fnCanonicalHeadIsPrefixOfCanonicalForm
open Go.ChangeShapes Go.WideShapes Go.ChangeAt Go.RowKit
open Go.ChangeMaps (open_string shut_string)
set_option linter.unusedVariables false
set_option linter.unusedSimpArgs false

theorem own : ownKnob Trym.prog.godebug = none := by kernel_rfl

def canonL (neg : Bool) (wh fr : ByteArray) : List UInt8 :=
  (if neg = true then [45] else []) ++ ((if wh.size = 0 then [48] else wh.data.toList) ++ (if fr.size = 0 then [] else 46 :: fr.data.toList))

theorem canonLen_any (neg : Bool) (wh fr : ByteArray) (w : World) (hw : wh.size + fr.size ≤ 1048576) :
    Calls Trym.prog 15 #[.bool neg, .string wh, .string fr] w fun e w' => e = .returned (.int .i64 (canonL neg wh fr).length) ∧ w' = w := by
  unfold canonL
  rcases isEmpty_size wh with ⟨a, b⟩ | ⟨a, b⟩ <;> rcases isEmpty_size fr with ⟨c, d⟩ | ⟨c, d⟩ <;> cases neg
  all_goals go_enter Trym.func15, Trym.ntmps15
  all_goals go_wp2
  all_goals go_ret
  all_goals exact ⟨by simp [b, d]; try omega, rfl⟩

theorem get_nat (s : ByteArray) (j : Nat) (h : j < s.size) : (s[j].toNat : Int) = ((s.data.toList.getD j 0).toNat : Int) := by
  have e : s.data.toList.getD j 0 = s[j] := by
    rw [List.getD_eq_getElem?_getD, List.getElem?_eq_getElem (by simpa using h)]; rfl
  rw [e]

theorem byte_congr (s : ByteArray) {a b : Nat} (ha : a < s.size) (hb : b < s.size) (h : a = b) : (s[a].toNat : Int) = s[b].toNat := by subst h; rfl
theorem ret_int {k : IntKind} {a b : Int} (h : a = b) : Ending.returned (.int k a) = .returned (.int k b) := by rw [h]

theorem cb1 (wh fr : ByteArray) (w : World) :
    Calls Trym.prog 16 #[.bool true, .string wh, .string fr, .int .i64 0] w fun e w' => e = .returned (.int .u8 45) ∧ w' = w := by
  go_enter Trym.func16, Trym.ntmps16
  go_wp2
  go_ret
  exact ⟨rfl, rfl⟩
theorem cb2 (neg : Bool) (wh fr : ByteArray) (w : World) (a : wh.toList.isEmpty = true) (j : Int) (hj : j = if neg = true then 1 else 0) :
    Calls Trym.prog 16 #[.bool neg, .string wh, .string fr, .int .i64 j] w fun e w' => e = .returned (.int .u8 48) ∧ w' = w := by
  cases neg <;> (simp only [if_true, if_false, Bool.false_eq_true] at hj; subst hj; go_enter Trym.func16, Trym.ntmps16)
  all_goals go_wp2
  all_goals go_ret
  all_goals exact ⟨rfl, rfl⟩
theorem cb3 (neg : Bool) (wh fr : ByteArray) (w : World) (a : wh.toList.isEmpty = false) (i : Nat) (hi : i < wh.size) (hw : wh.size ≤ 1048576) (j : Int) (hj : j = if neg = true then (i : Int) + 1 else i) :
    Calls Trym.prog 16 #[.bool neg, .string wh, .string fr, .int .i64 j] w fun e w' => e = .returned (.int .u8 wh[i].toNat) ∧ w' = w := by
  cases neg <;> (simp only [if_true, if_false, Bool.false_eq_true] at hj; subst hj; go_enter Trym.func16, Trym.ntmps16)
  all_goals go_wp2
  all_goals go_ret
  all_goals exact ⟨ret_int (byte_congr _ _ _ (by omega)), rfl⟩
theorem cb4 (neg : Bool) (wh fr : ByteArray) (w : World) (a : wh.toList.isEmpty = true) (j : Int) (hj : j = if neg = true then 2 else 1) :
    Calls Trym.prog 16 #[.bool neg, .string wh, .string fr, .int .i64 j] w fun e w' => e = .returned (.int .u8 46) ∧ w' = w := by
  cases neg <;> (simp only [if_true, if_false, Bool.false_eq_true] at hj; subst hj; go_enter Trym.func16, Trym.ntmps16)
  all_goals go_wp2
  all_goals go_ret
  all_goals exact ⟨rfl, rfl⟩
theorem cb5 (neg : Bool) (wh fr : ByteArray) (w : World) (a : wh.toList.isEmpty = false) (hw : wh.size ≤ 1048576) (j : Int) (hj : j = if neg = true then (wh.size : Int) + 1 else wh.size) :
    Calls Trym.prog 16 #[.bool neg, .string wh, .string fr, .int .i64 j] w fun e w' => e = .returned (.int .u8 46) ∧ w' = w := by
  cases neg <;> (simp only [if_true, if_false, Bool.false_eq_true] at hj; subst hj; go_enter Trym.func16, Trym.ntmps16)
  all_goals go_wp2
  all_goals go_ret
  all_goals exact ⟨rfl, rfl⟩
theorem cb6 (neg : Bool) (wh fr : ByteArray) (w : World) (a : wh.toList.isEmpty = true) (i : Nat) (hi : i < fr.size) (hw : fr.size ≤ 1048576) (j : Int) (hj : j = if neg = true then (i : Int) + 3 else i + 2) :
    Calls Trym.prog 16 #[.bool neg, .string wh, .string fr, .int .i64 j] w fun e w' => e = .returned (.int .u8 fr[i].toNat) ∧ w' = w := by
  cases neg <;> (simp only [if_true, if_false, Bool.false_eq_true] at hj; subst hj; go_enter Trym.func16, Trym.ntmps16)
  all_goals go_wp2
  all_goals go_ret
  all_goals exact ⟨ret_int (byte_congr _ _ _ (by omega)), rfl⟩
theorem cb7 (neg : Bool) (wh fr : ByteArray) (w : World) (a : wh.toList.isEmpty = false) (i : Nat) (hi : i < fr.size) (hw : wh.size + fr.size ≤ 1048576) (j : Int) (hj : j = if neg = true then (i : Int) + 2 + wh.size else i + 1 + wh.size) :
    Calls Trym.prog 16 #[.bool neg, .string wh, .string fr, .int .i64 j] w fun e w' => e = .returned (.int .u8 fr[i].toNat) ∧ w' = w := by
  cases neg <;> (simp only [if_true, if_false, Bool.false_eq_true] at hj; subst hj; go_enter Trym.func16, Trym.ntmps16)
  all_goals go_wp2
  all_goals go_ret
  all_goals exact ⟨ret_int (byte_congr _ _ _ (by omega)), rfl⟩

theorem getD_left (a b : List UInt8) (j : Nat) (h : j < a.length) : (a ++ b).getD j 0 = a.getD j 0 := by
  simp [List.getD_eq_getElem?_getD, List.getElem?_append, h]
theorem getD_right (a b : List UInt8) (j : Nat) (h : a.length ≤ j) : (a ++ b).getD j 0 = b.getD (j - a.length) 0 := by
  simp [List.getD_eq_getElem?_getD, List.getElem?_append, Nat.not_lt.2 h]
theorem len_canonL (neg : Bool) (wh fr : ByteArray) : (canonL neg wh fr).length = (if neg = true then 1 else 0) + ((if wh.size = 0 then 1 else wh.size) + (if fr.size = 0 then 0 else fr.size + 1)) := by
  unfold canonL
  cases neg <;> by_cases h : wh.size = 0 <;> by_cases k : fr.size = 0 <;> simp [h, k] <;> omega

/-- the canonical form behind its sign, position by position -/
theorem canonL_at (neg : Bool) (wh fr : ByteArray) (j : Nat) : (canonL neg wh fr).getD ((if neg = true then 1 else 0) + j) 0 = (canonL false wh fr).getD j 0 := by
  cases neg
  · simp
  · unfold canonL
    rw [if_pos rfl, if_pos rfl, getD_right _ _ _ (by simp)]
    simp

theorem canonByteAt_any (neg : Bool) (wh fr : ByteArray) (j : Nat) (w : World) (hw : wh.size + fr.size ≤ 1048576) (hj : j < (canonL neg wh fr).length) :
    Calls Trym.prog 16 #[.bool neg, .string wh, .string fr, .int .i64 j] w fun e w' => e = .returned (.int .u8 ((canonL neg wh fr).getD j 0).toNat) ∧ w' = w := by
  by_cases h0 : neg = true ∧ j = 0
  · obtain ⟨rfl, rfl⟩ := h0
    exact cb1 wh fr w
  · obtain ⟨i, hi⟩ : ∃ i, j = (if neg = true then 1 else 0) + i := ⟨j - (if neg = true then 1 else 0), by cases neg <;> simp_all; omega⟩
    rw [len_canonL, hi] at hj
    have e : (canonL neg wh fr).getD j 0 = (canonL false wh fr).getD i 0 := by rw [hi]; exact canonL_at neg wh fr i
    rw [e]
    unfold canonL
    rw [if_neg (by decide), List.nil_append]
    rcases isEmpty_size wh with ⟨a, b⟩ | ⟨a, b⟩
    · rw [if_pos b]
      rw [if_pos b] at hj
      match i, hi with
      | 0, hi => exact cb2 neg wh fr w a j (by rw [hi]; cases neg <;> simp)
      | 1, hi =>
        rw [if_neg (by intro h; rw [if_pos h] at hj; omega)]
        exact cb4 neg wh fr w a j (by rw [hi]; cases neg <;> simp)
      | i + 2, hi =>
        have hf : fr.size ≠ 0 := by intro h; rw [if_pos h] at hj; omega
        rw [if_neg hf] at hj ⊢
        have hi2 : i < fr.size := by omega
        have := cb6 neg wh fr w a i hi2 (by omega) j (by rw [hi]; cases neg <;> simp <;> omega)
        rw [get_nat fr i hi2] at this
        exact this
    · rw [if_neg b]
      rw [if_neg b] at hj
      by_cases h1 : i < wh.size
      · have := cb3 neg wh fr w a i h1 (by omega) j (by rw [hi]; cases neg <;> simp <;> omega)
        rw [get_nat wh i h1] at this
        rw [getD_left _ _ _ (by rw [← size_list]; exact h1)]
        exact this
      · have hf : fr.size ≠ 0 := by intro h; rw [if_pos h] at hj; omega
        rw [if_neg hf] at hj ⊢
        rw [getD_right _ _ _ (by rw [← size_list]; omega), ← size_list]
        obtain ⟨k, hk⟩ : ∃ k, i = wh.size + k := ⟨i - wh.size, by omega⟩
        subst hk
        rw [Nat.add_sub_cancel_left]
        match k, hi with
        | 0, hi => exact cb5 neg wh fr w a (by omega) j (by rw [hi]; cases neg <;> simp <;> omega)
        | k + 1, hi =>
          have hi2 : k < fr.size := by omega
          have := cb7 neg wh fr w a k hi2 hw j (by rw [hi]; cases neg <;> simp <;> omega)
          rw [get_nat fr k hi2] at this
          exact this

theorem take_head (neg : Bool) (wh fr : ByteArray) (n : Nat) : (headL neg wh fr n).take n = (canonL neg wh fr).take n := by
  unfold headL canonL
  have h1 : ∀ (P A B B' : List UInt8), B.take n = B'.take n → (P ++ (A.take n ++ B)).take n = (P ++ (A ++ B')).take n := by
    intro P A B B' hB
    rw [List.take_append, List.take_append (l₁ := P)]
    congr 1
    rw [List.take_append, List.take_append (l₁ := A)]
    by_cases h : A.length ≤ n
    · rw [List.take_of_length_le (l := A) h]
      congr 1
      have := congrArg (List.take (n - P.length - A.length)) hB
      rw [List.take_take, List.take_take, Nat.min_eq_left (by omega)] at this
      exact this
    · have e : n - P.length - (A.take n).length = 0 := by simp; omega
      have e2 : n - P.length - A.length = 0 := by omega
      rw [e, e2, List.take_take, Nat.min_eq_left (by omega)]
      simp
  apply h1
  by_cases h : fr.size = 0
  · simp [h]
  · rw [if_neg h, if_neg h]
    cases n with
    | zero => simp
    | succ n => simp [List.take_take]

set_option maxHeartbeats 400000 in
theorem zzBytes_any (neg : Bool) (wh fr : ByteArray) (n : Int) (w : World) (h1 : wh.size ≤ maxLen) (h2 : fr.size ≤ maxLen) :
    Calls Trym.prog 13 #[.bool neg, .string wh, .string fr, .int .i64 n] w fun e w' => e = .returned (.bool (decide (wh.size + fr.size ≤ 1048576))) ∧ w' = w := by
  unfold maxLen at h1 h2
  by_cases a : wh.size ≤ 1048576
  · by_cases b : fr.size ≤ 1048576
    · by_cases c : wh.size + fr.size ≤ 1048576
      · have e : decide (wh.size + fr.size ≤ 1048576) = true := by simpa using c
        rw [e]
        go_enter Trym.func13, Trym.ntmps13
        go_wp2
        go_ret
        exact ⟨rfl, rfl⟩
      · have e : decide (wh.size + fr.size ≤ 1048576) = false := by simpa using c
        rw [e]
        go_enter Trym.func13, Trym.ntmps13
        go_wp2
        go_ret
        exact ⟨rfl, rfl⟩
    · have e : decide (wh.size + fr.size ≤ 1048576) = false := by simp; omega
      rw [e]
      go_enter Trym.func13, Trym.ntmps13
      go_wp2
      go_ret
      exact ⟨rfl, rfl⟩
  · have e : decide (wh.size + fr.size ≤ 1048576) = false := by simp; omega
    rw [e]
    go_enter Trym.func13, Trym.ntmps13
    go_wp2
    go_ret
    exact ⟨rfl, rfl⟩

theorem eq_bytes (L : List UInt8) (n j : Nat) (h : j < (⟨(L.take n).toArray⟩ : ByteArray).size) : ((⟨(L.take n).toArray⟩ : ByteArray)[j].toNat : Int) = ((L.getD j 0).toNat : Int) := by
  rw [get_nat _ j h]
  have hj : j < (L.take n).length := h
  simp only [List.getD_eq_getElem?_getD]
  rw [List.getElem?_take_of_lt (by simp at hj; omega)]

set_option maxHeartbeats 400000 in
theorem walk (a0 : Bool) (a1 : ByteArray) (a2 : ByteArray) (a3 : Int) (w1 : a1.size ≤ maxLen) (w2 : a2.size ≤ maxLen) (w3 : (Lit.int .i64 a3).wf = true) (w : World) :
    Calls Trym.prog 5 #[.bool a0, .string a1, .string a2, .int .i64 a3] w fun e w' => e = .returned (.bool true) ∧ Below w.heap.size w w' := by
  obtain ⟨l3, u3⟩ := bounds_i64 w3
  have hz := zzBytes_any a0 a1 a2 a3 w w1 w2
  by_cases hs : a1.size + a2.size ≤ 1048576
  · rw [show decide (a1.size + a2.size ≤ 1048576) = true from by simpa using hs] at hz
    by_cases hn : a3 < 0
    · go_enter Trym.func5, Trym.ntmps5
      go_wp2_with (go_at_call 13; refine hz.mono ?_; rintro e w' ⟨rfl, rfl⟩)
      go_ret
      exact ⟨rfl, Below.refl _ _⟩
    · obtain ⟨n, rfl⟩ := Int.eq_ofNat_of_zero_le (by omega : 0 ≤ a3)
      obtain ⟨L, hL⟩ : ∃ L, canonL a0 a1 a2 = L := ⟨_, rfl⟩
      obtain ⟨G, hG⟩ : ∃ G : ByteArray, G = ⟨(L.take n).toArray⟩ := ⟨_, rfl⟩
      have hh := zzCanonicalHead_any a0 a1 a2 n w hs (by omega)
      rw [take_head, hL, ← hG] at hh
      have hlen := fun w => canonLen_any a0 a1 a2 w hs
      rw [hL] at hlen
      have hlb : L.length ≤ 1048579 := by rw [← hL, len_canonL]; split <;> split <;> split <;> omega
      have hat := fun j w h => canonByteAt_any a0 a1 a2 j w hs h
      rw [hL] at hat
      have hGs : G.size = min n L.length := by rw [hG]; show (L.take n).length = _; simp
      have hGe : ∀ j (h : j < G.size), (G[j].toNat : Int) = ((L.getD j 0).toNat : Int) := by subst hG; exact eq_bytes L n
      clear hG hL
      by_cases hnl : n < L.length
      · have hgs : G.size = n := by omega
        clear hGs
        go_enter Trym.func5, Trym.ntmps5
        go_wp2_with (first | (go_at_call 13; refine hz.mono ?_; rintro e w' ⟨rfl, hw'⟩; replace hw' := hw'.symm; subst hw') | (go_at_call 14; refine hh.mono ?_; rintro e w1 ⟨rfl, hb⟩) | (go_at_call 15; refine (hlen _).mono ?_; rintro e w' ⟨rfl, hw'⟩; replace hw' := hw'.symm; subst hw'))
        clear hh hlen hz
        go_loopw [11] (fun i wr => ∃ j : Nat, j ≤ n ∧ i = .int .i64 j ∧ Below w.heap.size w wr) (fun i _ => n - (intOf i).toNat)
        case atStart => exact ⟨0, Nat.zero_le _, rfl, hb⟩
        case round =>
          obtain ⟨j, hj, rfl, hbr⟩ := hrel
          by_cases hlt : j < n
          · have hjG : j < G.size := by omega
            have e := hGe j hjG
            have ha := fun w => hat j w (by omega)
            obtain ⟨c, hc⟩ : ∃ c : Int, c = ((L.getD j 0).toNat : Int) := ⟨_, rfl⟩
            rw [← hc] at e ha
            clear hc hGe hat hb
            go_wp2
            go_quiet ((go_at_call 16; exact Calls.quiet_of_same (ha _)))
            go_wp2
            go_roundw
            case rel => exact ⟨j + 1, by omega, by go_num, below_drewN hbr _⟩
            case measure => simp [intOf]; omega
          · clear hGe hat hb
            go_wp2
            go_ret
            exact ⟨rfl, hbr⟩
      · have hgs : G.size = L.length := by omega
        clear hGs
        go_enter Trym.func5, Trym.ntmps5
        go_wp2_with (first | (go_at_call 13; refine hz.mono ?_; rintro e w' ⟨rfl, hw'⟩; replace hw' := hw'.symm; subst hw') | (go_at_call 14; refine hh.mono ?_; rintro e w1 ⟨rfl, hb⟩) | (go_at_call 15; refine (hlen _).mono ?_; rintro e w' ⟨rfl, hw'⟩; replace hw' := hw'.symm; subst hw'))
        clear hh hlen hz
        go_loopw [11] (fun i wr => ∃ j : Nat, j ≤ L.length ∧ i = .int .i64 j ∧ Below w.heap.size w wr) (fun i _ => L.length - (intOf i).toNat)
        case atStart => exact ⟨0, Nat.zero_le _, rfl, hb⟩
        case round =>
          obtain ⟨j, hj, rfl, hbr⟩ := hrel
          by_cases hlt : j < L.length
          · have hjG : j < G.size := by omega
            have e := hGe j hjG
            have ha := fun w => hat j w (by omega)
            obtain ⟨c, hc⟩ : ∃ c : Int, c = ((L.getD j 0).toNat : Int) := ⟨_, rfl⟩
            rw [← hc] at e ha
            clear hc hGe hat hb
            go_wp2
            go_quiet ((go_at_call 16; exact Calls.quiet_of_same (ha _)))
            go_wp2
            go_roundw
            case rel => exact ⟨j + 1, by omega, by go_num, below_drewN hbr _⟩
            case measure => simp [intOf]; omega
          · clear hGe hat hb
            go_wp2
            go_ret
            exact ⟨rfl, hbr⟩
  · rw [show decide (a1.size + a2.size ≤ 1048576) = false from by simpa using hs] at hz
    go_enter Trym.func5, Trym.ntmps5
    go_wp2_with (go_at_call 13; refine hz.mono ?_; rintro e w' ⟨rfl, rfl⟩)
    go_ret
    exact ⟨rfl, Below.refl _ _⟩
/-! ### THE ROW's STEP: WRITTEN OUT: LEAVE IT -/
set_option maxRecDepth 100000 in
theorem lifted (os : Os) (started : os.Started) (H : Type) (enc : TypeId × Value → H) :
    ReturnsInHanded {} Trym.checked os 5 .any (Rows.fnCanonicalHeadIsPrefixOfCanonicalFormSpec.pre6 enc Trym.prog Trym.f5 Rows.fnCanonicalHeadIsPrefixOfCanonicalFormRow.domain false) (Rows.fnCanonicalHeadIsPrefixOfCanonicalFormSpec.post enc Trym.prog Trym.f5 false true false false) := by
  refine returnsInHanded_of_change (C := Trym.checked) own started (by kernel_rfl) Trym.func5
    (ChangeSpec.witness6 (enc := enc) (C := Trym.checked) false ⟨#[], #[.bool false, .string ByteArray.empty, .string ByteArray.empty, .int .i64 0], []⟩ 8 (by kernel_rfl) (by kernel_rfl) (by kernel_rfl) (by kernel_rfl)) ?_
  intro W base args ds gs before hval0 hW hcnd _
  have hval : ∀ (j : Nat) t v, Trym.f5.params[j]? = some t → args[j]? = some v → Value.okWide Trym.prog W .any base t v := hval0
  have hW' := hW
  obtain ⟨p, q, hA0, hV, rfl, hfz, hnd⟩ := hW
  have hA : DataW.TrodAll enc Trym.prog W 0 (fun _ => true) true Trym.f5.params.toList args.toList ds p := hA0
  rw [Trym.params5] at hA hval
  obtain ⟨v0, vs0, d0, ds0, p0, q0, hargs, rfl, rfl, h0, r0⟩ := trodAll_cons hA
  obtain ⟨v1, vs1, d1, ds1, p1, q1, rfl, rfl, rfl, h1, r1⟩ := trodAll_cons r0
  obtain ⟨v2, vs2, d2, ds2, p2, q2, rfl, rfl, rfl, h2, r2⟩ := trodAll_cons r1
  obtain ⟨v3, vs3, d3, ds3, p3, q3, rfl, rfl, rfl, h3, r3⟩ := trodAll_cons r2
  obtain ⟨rfl, rfl, rfl⟩ := trodAll_nil r3
  obtain rfl : args = #[v0, v1, v2, v3] := by cases args; simp_all
  obtain ⟨rfl, rfl⟩ := trodVars_none hV
  obtain ⟨a0, rfl, rfl, rfl⟩ := open_bool Trym.underlying4 (hval 0 4 v0 rfl rfl) h0
  obtain ⟨a1, rfl, rfl, rfl, w1⟩ := open_string Trym.underlying9 (hval 1 9 v1 rfl rfl) h1
  obtain ⟨a2, rfl, rfl, rfl, w2⟩ := open_string Trym.underlying9 (hval 2 9 v2 rfl rfl) h2
  obtain ⟨a3, rfl, rfl, rfl, w3⟩ := open_int Trym.underlying3 (hval 3 3 v3 rfl rfl) h3
  clear hA0 hval0
  simp only [List.append_nil] at hW'
  refine (walk a0 a1 a2 a3 w1 w2 w3 W).mono fun e W' ⟨he, bel⟩ => ?_
  subst he
  exact ⟨_, rfl, _, _, _, [], _, [], hW', trodAll_mk1 (shut_bool Trym.underlying4 _), (trodAll_cons_mk (shut_bool Trym.underlying4 _) (trodAll_cons_mk (shut_string Trym.underlying9 w1) (trodAll_cons_mk (shut_string Trym.underlying9 w2) (trodAll_cons_mk (shut_int Trym.underlying3 w3) trodAll_mk0)))), rfl, bel.frame _, fun h => by cases h⟩

theorem over : Rows.fnCanonicalHeadIsPrefixOfCanonicalFormRow.holds Trym.pinned (OpenSpec.ofChange Rows.fnCanonicalHeadIsPrefixOfCanonicalFormSpec) :=
  OpenClaim.holds_of_wide 5 Trym.f5 rfl rfl rfl rfl rfl rfl rfl ⟨rfl, rfl, rfl, rfl, rfl⟩ rfl rfl rfl rfl rfl (by kernel_rfl) Trym.func5 (by kernel_rfl)
    (of_decide_eq_true (by kernel_rfl)) (by unfold Func.isWrapper; first | (rw [if_pos (by decide +kernel)]; kernel_rfl) | (rw [if_neg (by decide +kernel)]; exact ⟨rfl, rfl⟩))
    (fun os started H enc _ => lifted os started H enc)

/-- ████ THE STATEMENT ████ -/
theorem proved : Rows.FnCanonicalHeadIsPrefixOfCanonicalFormSaid :=
  over
#print axioms proved
end Go.Proofs.Qxb6603995aMods.fnCanonicalHeadIsPrefixOfCanonicalForm
