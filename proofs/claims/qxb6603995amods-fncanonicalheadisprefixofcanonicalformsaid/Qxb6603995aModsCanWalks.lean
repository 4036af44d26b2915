import Derived.Test.Qxb6603995aModsRows
import Derived.WalkKit
import Derived.WalkSpells
import Derived.WalkLawsBesides
import Derived.Lib.BufSteps
import Derived.Laws.BytesArg
namespace Go.Proofs.Qxb6603995aMods
open Go.RowKit
set_option linter.unusedVariables false

theorem info5 : (Trym.prog.info? 5).map (fun i => (i.zero, i.size, i.bytes)) = some (some (.int .u8 0), 1, 1) := by kernel_rfl

/-- bytes as cells -/
def bc (l : List UInt8) : List Value := l.map fun b => Value.int .u8 b.toNat
theorem bc_append (a b : List UInt8) : bc (a ++ b) = bc a ++ bc b := by simp [bc]
theorem bc_length (a : List UInt8) : (bc a).length = a.length := by simp [bc]
theorem strCells_bc (s : ByteArray) : Lib.strCells s = bc s.data.toList := rfl
theorem size_list (s : ByteArray) : s.size = s.data.toList.length := rfl

def headL (neg : Bool) (wh fr : ByteArray) (n : Nat) : List UInt8 :=
  (if neg = true then [45] else []) ++ ((if wh.size = 0 then [48] else wh.data.toList).take n ++ (if fr.size = 0 then [] else 46 :: fr.data.toList.take n))

theorem finBuf {B : Nat} {v : Value} {N : Nat} {xs : List Value} {W w : World} (h : Lib.OwnBuf B 5 v N xs W w) (L : List UInt8) (hx : xs = bc L) :
    (v = .slice none 0 0 ∧ L.length = 0) ∨ ∃ g cap, v = .slice (some ⟨g, 0, none⟩) L.length cap ∧ L.length ≤ cap ∧ cap ≤ maxLen ∧
      ∀ k, k ≤ L.length → (convert 22 9 (.slice (some ⟨g, 0, none⟩) k cap)).run Trym.prog w = .ok (.string ⟨(L.take k).toArray⟩) w := by
  obtain rfl : N = L.length := by have := h.1.1; rw [hx, bc_length] at this; omega
  subst hx
  rcases h.1.2 with ⟨h1, h2⟩ | ⟨g, cap, cur, fz, h1, h2, h3, h4, h5, h6, h7⟩
  · exact .inl ⟨h1, h2⟩
  · refine .inr ⟨g, cap, h1, h5, h6, fun k hk => ?_⟩
    have hc := h.1.cells (g := g) (by rw [h1]; rfl)
    have e : (L.take k).length = k := by simp; omega
    have := run_convert_bytes_back (P := Trym.prog) w 22 9 5 ⟨g, 0, none⟩ cap (L.take k) Trym.underlying22 Trym.underlying5 Trym.underlying9 (fun j hj => hc j _ (by
      simp only [bc, List.getElem?_map]
      have hj' : j < L.length := by rw [e] at hj; omega
      rw [List.getElem?_eq_getElem hj']
      simp))
    rw [e] at this
    exact this

theorem take_over (L : List UInt8) (n : Nat) (h : ¬ n < L.length) : L.take L.length = L.take n := by
  rw [List.take_of_length_le (Nat.le_refl _), List.take_of_length_le (by omega)]

theorem ext_le (s : ByteArray) (n : Nat) : (s.extract 0 n).size ≤ s.size := by rw [ByteArray.size_extract]; omega
theorem ext_bc (s : ByteArray) (n : Nat) : Lib.strCells (s.extract 0 n) = bc (s.data.toList.take n) := by
  rw [strCells_bc]; congr 1; simp [ByteArray.data_extract]
theorem all_bc (s : ByteArray) (n : Nat) (h : ¬ n < s.size) : Lib.strCells s = bc (s.data.toList.take n) := by
  rw [strCells_bc, List.take_of_length_le]; rw [← size_list]; omega

theorem ret_str {a b : List UInt8} (h : a = b) : Ending.returned (Value.string ⟨a.toArray⟩) = .returned (.string ⟨b.toArray⟩) := by rw [h]
theorem finPos {B : Nat} {v : Value} {N : Nat} {xs : List Value} {W w : World} (h : Lib.OwnBuf B 5 v N xs W w) (L : List UInt8) (hx : xs = bc L) (hpos : 0 < L.length) :
    ∃ g cap, v = .slice (some ⟨g, 0, none⟩) L.length cap ∧ L.length ≤ cap ∧ cap ≤ maxLen ∧
      ∀ k, k ≤ L.length → (convert 22 9 (.slice (some ⟨g, 0, none⟩) k cap)).run Trym.prog w = .ok (.string ⟨(L.take k).toArray⟩) w := by
  rcases finBuf h L hx with ⟨_, h0⟩ | h
  · omega
  · exact h

set_option maxHeartbeats 400000 in
theorem canonicalHead_1 (neg : Bool) (wh fr : ByteArray) (n : Nat) (w : World) (hw : wh.size + fr.size ≤ 1048576) (hn : n ≤ 9223372036854775807)
    (hw0 : wh.toList.isEmpty = false) (hw1 : wh.size ≠ 0) (hf0 : fr.toList.isEmpty = false) (hf1 : fr.size ≠ 0) :
    Calls Trym.prog 24 #[.bool neg, .string wh, .string fr, .int .i64 n] w fun e w' => e = .returned (.string ⟨((headL neg wh fr n).take n).toArray⟩) ∧ Below w.heap.size w w' := by
  obtain ⟨i0, hi, hz0, hz1, hz2⟩ := info_parts info5
  have hb0 : Lib.OwnBuf w.heap.size 5 (.slice none 0 0) 0 [] w w := ⟨World.ownsRowF_nil _ _ _ _, Below.refl _ _, Nat.le_refl _⟩
  obtain ⟨L, hL⟩ : ∃ L, headL neg wh fr n = L := ⟨_, rfl⟩
  rw [hL]
  unfold headL at hL
  rw [if_neg hw1, if_neg hf1] at hL
  have hpos : 0 < L.length := by rw [← hL]; simp; try omega
  have HL : Hid (_ = _) := hL
  clear hL
  obtain ⟨A, HA, hA2, hA3⟩ : ∃ A, Hid (Lib.strCells A = bc (wh.data.toList.take n)) ∧ A.size ≤ 1048576 ∧ ((n < wh.size ∧ wh.extract 0 n = A) ∨ (¬ n < wh.size ∧ A = wh)) := by
    by_cases h : n < wh.size
    · exact ⟨_, ext_bc wh n, by have := ext_le wh n; omega, .inl ⟨h, rfl⟩⟩
    · exact ⟨wh, all_bc wh n h, by omega, .inr ⟨h, rfl⟩⟩
  obtain ⟨F, HF, hF2, hF3⟩ : ∃ A, Hid (Lib.strCells A = bc (fr.data.toList.take n)) ∧ A.size ≤ 1048576 ∧ ((n < fr.size ∧ fr.extract 0 n = A) ∨ (¬ n < fr.size ∧ A = fr)) := by
    by_cases h : n < fr.size
    · exact ⟨_, ext_bc fr n, by have := ext_le fr n; omega, .inl ⟨h, rfl⟩⟩
    · exact ⟨fr, all_bc fr n h, by omega, .inr ⟨h, rfl⟩⟩
  cases neg
  all_goals rcases hA3 with ⟨hn1, hA4⟩ | ⟨hn1, rfl⟩
  all_goals rcases hF3 with ⟨hn2, hF4⟩ | ⟨hn2, rfl⟩
  all_goals
    go_enter Trym.func24, Trym.ntmps24
    go_wp2_with (at_builtin; first
      | (refine Lib.wpList_append_byte rfl (.tmp 11) (.tmp 12) 22 rfl w.heap.size 5 i0 Trym.underlying22 hi hz0 hz1 hz2 _ _ _ rfl w _ _ hb0 rfl (by omega) ?_; intro v1 w1 hb1)
      | (refine Lib.wpList_append_text rfl (.tmp 16) (.tmp 22) 22 9 rfl w.heap.size 5 i0 Trym.underlying22 Trym.underlying9 hi hz0 hz1 hz2 _ _ _ rfl w (by assumption) _ rfl (by omega) ?_; intro v2 w2 hb2)
      | (refine Lib.wpList_append_byte rfl (.tmp 26) (.tmp 27) 22 rfl w.heap.size 5 i0 Trym.underlying22 hi hz0 hz1 hz2 _ _ _ rfl w _ _ hb2 rfl (by omega) ?_; intro v3 w3 hb3)
      | (refine Lib.wpList_append_text rfl (.tmp 29) (.tmp 35) 22 9 rfl w.heap.size 5 i0 Trym.underlying22 Trym.underlying9 hi hz0 hz1 hz2 _ _ _ rfl w hb3 _ rfl (by omega) ?_; intro v4 w4 hb4; have hbel := hb4.2.1; obtain ⟨g, cap, rfl, hs1, hs2, hcv⟩ := finPos hb4 L (by rw [HA.out, HF.out, ← HL.out]; simp [bc]) hpos; clear hb4; have hcv1 := hcv L.length (Nat.le_refl _); have hcv2 : ((n : Int) < (L.length : Int)) → _ := fun h => hcv n (by omega); clear hcv; unfold maxLen at hs2))
    all_goals go_ret
    all_goals first | exact ⟨rfl, hbel⟩ | exact ⟨ret_str (List.take_of_length_le (by omega)).symm, hbel⟩

set_option maxHeartbeats 400000 in
theorem canonicalHead_2 (neg : Bool) (wh fr : ByteArray) (n : Nat) (w : World) (hw : wh.size + fr.size ≤ 1048576) (hn : n ≤ 9223372036854775807)
    (hw0 : wh.toList.isEmpty = false) (hw1 : wh.size ≠ 0) (hf0 : fr.toList.isEmpty = true) (hf1 : fr.size = 0) (hx : neg = true ∨ 0 < n) :
    Calls Trym.prog 24 #[.bool neg, .string wh, .string fr, .int .i64 n] w fun e w' => e = .returned (.string ⟨((headL neg wh fr n).take n).toArray⟩) ∧ Below w.heap.size w w' := by
  obtain ⟨i0, hi, hz0, hz1, hz2⟩ := info_parts info5
  have hb0 : Lib.OwnBuf w.heap.size 5 (.slice none 0 0) 0 [] w w := ⟨World.ownsRowF_nil _ _ _ _, Below.refl _ _, Nat.le_refl _⟩
  obtain ⟨L, hL⟩ : ∃ L, headL neg wh fr n = L := ⟨_, rfl⟩
  rw [hL]
  unfold headL at hL
  rw [if_neg hw1, if_pos hf1] at hL
  have hpos : 0 < L.length := by rw [← hL]; rcases hx with rfl | hx <;> simp <;> try omega
  have HL : Hid (_ = _) := hL
  clear hL
  obtain ⟨A, HA, hA2, hA3⟩ : ∃ A, Hid (Lib.strCells A = bc (wh.data.toList.take n)) ∧ A.size ≤ 1048576 ∧ ((n < wh.size ∧ wh.extract 0 n = A) ∨ (¬ n < wh.size ∧ A = wh)) := by
    by_cases h : n < wh.size
    · exact ⟨_, ext_bc wh n, by have := ext_le wh n; omega, .inl ⟨h, rfl⟩⟩
    · exact ⟨wh, all_bc wh n h, by omega, .inr ⟨h, rfl⟩⟩
  clear hx
  cases neg
  all_goals rcases hA3 with ⟨hn1, hA4⟩ | ⟨hn1, rfl⟩
  all_goals
    go_enter Trym.func24, Trym.ntmps24
    go_wp2_with (at_builtin; first
      | (refine Lib.wpList_append_byte rfl (.tmp 11) (.tmp 12) 22 rfl w.heap.size 5 i0 Trym.underlying22 hi hz0 hz1 hz2 _ _ _ rfl w _ _ hb0 rfl (by omega) ?_; intro v1 w1 hb1)
      | (refine Lib.wpList_append_text rfl (.tmp 16) (.tmp 22) 22 9 rfl w.heap.size 5 i0 Trym.underlying22 Trym.underlying9 hi hz0 hz1 hz2 _ _ _ rfl w (by assumption) _ rfl (by omega) ?_; intro v2 w2 hb2; have hbel := hb2.2.1; obtain ⟨g, cap, rfl, hs1, hs2, hcv⟩ := finPos hb2 L (by rw [HA.out, ← HL.out]; simp [bc]) hpos; clear hb2; have hcv1 := hcv L.length (Nat.le_refl _); have hcv2 : ((n : Int) < (L.length : Int)) → _ := fun h => hcv n (by omega); clear hcv; unfold maxLen at hs2))
    all_goals go_ret
    all_goals first | exact ⟨rfl, hbel⟩ | exact ⟨ret_str (List.take_of_length_le (by omega)).symm, hbel⟩

set_option maxHeartbeats 400000 in
theorem canonicalHead_3 (neg : Bool) (wh fr : ByteArray) (n : Nat) (w : World) (hw : wh.size + fr.size ≤ 1048576) (hn : n ≤ 9223372036854775807)
    (hw0 : wh.toList.isEmpty = true) (hw1 : wh.size = 0) (hf0 : fr.toList.isEmpty = false) (hf1 : fr.size ≠ 0) (h1 : 1 ≤ n) :
    Calls Trym.prog 24 #[.bool neg, .string wh, .string fr, .int .i64 n] w fun e w' => e = .returned (.string ⟨((headL neg wh fr n).take n).toArray⟩) ∧ Below w.heap.size w w' := by
  obtain ⟨i0, hi, hz0, hz1, hz2⟩ := info_parts info5
  have hb0 : Lib.OwnBuf w.heap.size 5 (.slice none 0 0) 0 [] w w := ⟨World.ownsRowF_nil _ _ _ _, Below.refl _ _, Nat.le_refl _⟩
  obtain ⟨L, hL⟩ : ∃ L, headL neg wh fr n = L := ⟨_, rfl⟩
  rw [hL]
  unfold headL at hL
  rw [if_pos hw1, if_neg hf1] at hL
  have hpos : 0 < L.length := by rw [← hL]; simp; try omega
  have HL : Hid (_ = _) := hL
  clear hL
  obtain ⟨A, HA, hA2, hA4⟩ : ∃ A, Hid (Lib.strCells A = bc (([48] : List UInt8).take n)) ∧ A.size ≤ 1048576 ∧ ({ data := #[48] } : ByteArray).extract 0 1 = A :=
    ⟨_, (ext_bc { data := #[48] } 1).trans (by rw [List.take_of_length_le (by decide), List.take_of_length_le (by simpa using h1)]), Nat.le_trans (ext_le _ _) (by decide), rfl⟩
  obtain ⟨F, HF, hF2, hF3⟩ : ∃ A, Hid (Lib.strCells A = bc (fr.data.toList.take n)) ∧ A.size ≤ 1048576 ∧ ((n < fr.size ∧ fr.extract 0 n = A) ∨ (¬ n < fr.size ∧ A = fr)) := by
    by_cases h : n < fr.size
    · exact ⟨_, ext_bc fr n, by have := ext_le fr n; omega, .inl ⟨h, rfl⟩⟩
    · exact ⟨fr, all_bc fr n h, by omega, .inr ⟨h, rfl⟩⟩
  cases neg
  all_goals rcases hF3 with ⟨hn2, hF4⟩ | ⟨hn2, rfl⟩
  all_goals
    go_enter Trym.func24, Trym.ntmps24
    go_wp2_with (at_builtin; first
      | (refine Lib.wpList_append_byte rfl (.tmp 11) (.tmp 12) 22 rfl w.heap.size 5 i0 Trym.underlying22 hi hz0 hz1 hz2 _ _ _ rfl w _ _ hb0 rfl (by omega) ?_; intro v1 w1 hb1)
      | (refine Lib.wpList_append_text rfl (.tmp 16) (.tmp 22) 22 9 rfl w.heap.size 5 i0 Trym.underlying22 Trym.underlying9 hi hz0 hz1 hz2 _ _ _ rfl w (by assumption) _ rfl (by omega) ?_; intro v2 w2 hb2)
      | (refine Lib.wpList_append_byte rfl (.tmp 26) (.tmp 27) 22 rfl w.heap.size 5 i0 Trym.underlying22 hi hz0 hz1 hz2 _ _ _ rfl w _ _ hb2 rfl (by omega) ?_; intro v3 w3 hb3)
      | (refine Lib.wpList_append_text rfl (.tmp 29) (.tmp 35) 22 9 rfl w.heap.size 5 i0 Trym.underlying22 Trym.underlying9 hi hz0 hz1 hz2 _ _ _ rfl w hb3 _ rfl (by omega) ?_; intro v4 w4 hb4; have hbel := hb4.2.1; obtain ⟨g, cap, rfl, hs1, hs2, hcv⟩ := finPos hb4 L (by rw [HA.out, HF.out, ← HL.out]; simp [bc]) hpos; clear hb4; have hcv1 := hcv L.length (Nat.le_refl _); have hcv2 : ((n : Int) < (L.length : Int)) → _ := fun h => hcv n (by omega); clear hcv; unfold maxLen at hs2))
    all_goals go_ret
    all_goals first | exact ⟨rfl, hbel⟩ | exact ⟨ret_str (List.take_of_length_le (by omega)).symm, hbel⟩

set_option maxHeartbeats 400000 in
theorem canonicalHead_4 (neg : Bool) (wh fr : ByteArray) (n : Nat) (w : World) (hw : wh.size + fr.size ≤ 1048576) (hn : n ≤ 9223372036854775807)
    (hw0 : wh.toList.isEmpty = true) (hw1 : wh.size = 0) (hf0 : fr.toList.isEmpty = true) (hf1 : fr.size = 0) (h1 : 1 ≤ n) :
    Calls Trym.prog 24 #[.bool neg, .string wh, .string fr, .int .i64 n] w fun e w' => e = .returned (.string ⟨((headL neg wh fr n).take n).toArray⟩) ∧ Below w.heap.size w w' := by
  obtain ⟨i0, hi, hz0, hz1, hz2⟩ := info_parts info5
  have hb0 : Lib.OwnBuf w.heap.size 5 (.slice none 0 0) 0 [] w w := ⟨World.ownsRowF_nil _ _ _ _, Below.refl _ _, Nat.le_refl _⟩
  obtain ⟨L, hL⟩ : ∃ L, headL neg wh fr n = L := ⟨_, rfl⟩
  rw [hL]
  unfold headL at hL
  rw [if_pos hw1, if_pos hf1] at hL
  have hpos : 0 < L.length := by rw [← hL]; simp; try omega
  have HL : Hid (_ = _) := hL
  clear hL
  obtain ⟨A, HA, hA2, hA4⟩ : ∃ A, Hid (Lib.strCells A = bc (([48] : List UInt8).take n)) ∧ A.size ≤ 1048576 ∧ ({ data := #[48] } : ByteArray).extract 0 1 = A :=
    ⟨_, (ext_bc { data := #[48] } 1).trans (by rw [List.take_of_length_le (by decide), List.take_of_length_le (by simpa using h1)]), Nat.le_trans (ext_le _ _) (by decide), rfl⟩
  cases neg
  all_goals
    go_enter Trym.func24, Trym.ntmps24
    go_wp2_with (at_builtin; first
      | (refine Lib.wpList_append_byte rfl (.tmp 11) (.tmp 12) 22 rfl w.heap.size 5 i0 Trym.underlying22 hi hz0 hz1 hz2 _ _ _ rfl w _ _ hb0 rfl (by omega) ?_; intro v1 w1 hb1)
      | (refine Lib.wpList_append_text rfl (.tmp 16) (.tmp 22) 22 9 rfl w.heap.size 5 i0 Trym.underlying22 Trym.underlying9 hi hz0 hz1 hz2 _ _ _ rfl w (by assumption) _ rfl (by omega) ?_; intro v2 w2 hb2; have hbel := hb2.2.1; obtain ⟨g, cap, rfl, hs1, hs2, hcv⟩ := finPos hb2 L (by rw [HA.out, ← HL.out]; simp [bc]) hpos; clear hb2; have hcv1 := hcv L.length (Nat.le_refl _); have hcv2 : ((n : Int) < (L.length : Int)) → _ := fun h => hcv n (by omega); clear hcv; unfold maxLen at hs2))
    all_goals go_ret
    all_goals first | exact ⟨rfl, hbel⟩ | exact ⟨ret_str (List.take_of_length_le (by omega)).symm, hbel⟩

theorem conv0 (a : Addr) (cap : Nat) (w : World) : (convert 22 9 (.slice (some a) 0 cap)).run Trym.prog w = .ok (.string ⟨#[]⟩) w :=
  run_convert_bytes_back (P := Trym.prog) w 22 9 5 a cap [] Trym.underlying22 Trym.underlying5 Trym.underlying9 (fun j hj => absurd hj (by simp))
theorem shapeBuf {B : Nat} {e : TypeId} {v : Value} {n : Nat} {xs : List Value} {W0 w : World} (h : Lib.OwnBuf B e v n xs W0 w) :
    (v = .slice none 0 0 ∧ n = 0) ∨ ∃ g cap, v = .slice (some ⟨g, 0, none⟩) n cap ∧ n ≤ cap ∧ cap ≤ maxLen := by
  rcases h.1.2 with h | ⟨g, cap, cur, fz, h1, h2, h3, h4, h5, h6, h7⟩
  · exact .inl h
  · exact .inr ⟨g, cap, h1, h5, h6⟩

set_option maxHeartbeats 400000 in
theorem canonicalHead_0 (neg : Bool) (wh fr : ByteArray) (w : World) (hw : wh.size + fr.size ≤ 1048576) (hws : wh.toList.isEmpty = false → 0 < wh.size) (hfs : fr.toList.isEmpty = false → 0 < fr.size) :
    Calls Trym.prog 24 #[.bool neg, .string wh, .string fr, .int .i64 0] w fun e w' => e = .returned (.string ⟨#[]⟩) ∧ Below w.heap.size w w' := by
  obtain ⟨i0, hi, hz0, hz1, hz2⟩ := info_parts info5
  have hb0 : Lib.OwnBuf w.heap.size 5 (.slice none 0 0) 0 [] w w := ⟨World.ownsRowF_nil _ _ _ _, Below.refl _ _, Nat.le_refl _⟩
  have hnil := fun w => run_convert_bytes_nil (P := Trym.prog) w 22 5 Trym.underlying22 Trym.underlying5 0 0 9 Trym.underlying9
  have hcv := conv0
  have ez : ByteArray.empty.size = 0 := rfl
  have y1 := ext_le wh 0
  have y2 := ext_le fr 0
  have y3 : (({ data := #[48] } : ByteArray).extract 0 0).size ≤ 1 := Nat.le_trans (ext_le { data := #[48] } 0) (by decide)
  cases neg
  all_goals cases hw0 : wh.toList.isEmpty
  all_goals cases hf0 : fr.toList.isEmpty
  all_goals try (have hws' := hws hw0)
  all_goals try (have hfs' := hfs hf0)
  all_goals clear hws hfs
  all_goals
    go_enter Trym.func24, Trym.ntmps24
    go_wp2_with (at_builtin; first
      | (refine Lib.wpList_append_byte rfl (.tmp 11) (.tmp 12) 22 rfl w.heap.size 5 i0 Trym.underlying22 hi hz0 hz1 hz2 _ _ _ rfl w _ _ hb0 rfl (by omega) ?_; intro v1 w1 hb1)
      | (refine Lib.wpList_append_text rfl (.tmp 16) (.tmp 22) 22 9 rfl w.heap.size 5 i0 Trym.underlying22 Trym.underlying9 hi hz0 hz1 hz2 _ _ _ rfl w (by assumption) _ rfl (by omega) ?_; intro v2 w2 hb2; have hbel := hb2.2.1; rcases shapeBuf hb2 with ⟨rfl, hsh⟩ | ⟨g, cap, rfl, hs1, hs2⟩)
      | (refine Lib.wpList_append_byte rfl (.tmp 26) (.tmp 27) 22 rfl w.heap.size 5 i0 Trym.underlying22 hi hz0 hz1 hz2 _ _ _ rfl w _ _ hb2 rfl (by omega) ?_; intro v3 w3 hb3)
      | (refine Lib.wpList_append_text rfl (.tmp 29) (.tmp 35) 22 9 rfl w.heap.size 5 i0 Trym.underlying22 Trym.underlying9 hi hz0 hz1 hz2 _ _ _ rfl w hb3 _ rfl (by omega) ?_; intro v4 w4 hb4; have hbel := hb4.2.1; rcases shapeBuf hb4 with ⟨rfl, hsh⟩ | ⟨g, cap, rfl, hs1, hs2⟩))
    all_goals first | (go_ret; exact ⟨rfl, hbel⟩) | (exfalso; omega)

theorem isEmpty_size (s : ByteArray) : (s.toList.isEmpty = true ∧ s.size = 0) ∨ (s.toList.isEmpty = false ∧ s.size ≠ 0) := by
  have e : s.toList = s.data.toList := ByteArray.toList_eq s
  rw [e, size_list]
  cases s.data.toList <;> simp

theorem isEmpty_pos (s : ByteArray) (h : s.toList.isEmpty = false) : 0 < s.size := by
  rcases isEmpty_size s with ⟨a, b⟩ | ⟨a, b⟩
  · rw [h] at a; exact absurd a (by decide)
  · omega

theorem canonicalHead_any (neg : Bool) (wh fr : ByteArray) (n : Nat) (w : World) (hw : wh.size + fr.size ≤ 1048576) (hn : n ≤ 9223372036854775807) :
    Calls Trym.prog 24 #[.bool neg, .string wh, .string fr, .int .i64 n] w fun e w' => e = .returned (.string ⟨((headL neg wh fr n).take n).toArray⟩) ∧ Below w.heap.size w w' := by
  by_cases h0 : n = 0
  · subst h0
    exact canonicalHead_0 neg wh fr w hw (isEmpty_pos wh) (isEmpty_pos fr)
  · rcases isEmpty_size wh with ⟨a, b⟩ | ⟨a, b⟩ <;> rcases isEmpty_size fr with ⟨c, d⟩ | ⟨c, d⟩
    · exact canonicalHead_4 neg wh fr n w hw hn a b c d (by omega)
    · exact canonicalHead_3 neg wh fr n w hw hn a b c d (by omega)
    · exact canonicalHead_2 neg wh fr n w hw hn a b c d (.inr (by omega))
    · exact canonicalHead_1 neg wh fr n w hw hn a b c d

set_option maxHeartbeats 400000 in
theorem zzCanonicalHead_any (neg : Bool) (wh fr : ByteArray) (n : Nat) (w : World) (hw : wh.size + fr.size ≤ 1048576) (hn : n ≤ 9223372036854775807) :
    Calls Trym.prog 14 #[.bool neg, .string wh, .string fr, .int .i64 n] w fun e w' => e = .returned (.string ⟨((headL neg wh fr n).take n).toArray⟩) ∧ Below w.heap.size w w' := by
  go_enter Trym.func14, Trym.ntmps14
  go_wp2_with (go_at_call 24; refine (canonicalHead_any neg wh fr n _ hw hn).mono ?_; rintro e w' ⟨rfl, hb⟩)
  go_ret
  exact ⟨rfl, hb⟩
end Go.Proofs.Qxb6603995aMods
