/-
  PLAIN: where each byte of a string lies in its quoted form. No Go in sight.
-/
import Derived.Test.Qxb6000883aModsEscPlain
namespace Go.Proofs.Qxb6000883aMods

/-- where the k-th byte's escape begins -/
def pos (l : List Int) (k : Nat) : Nat := 1 + (encB (l.take k)).length
theorem pos_zero (l : List Int) : pos l 0 = 1 := by simp [pos, encB]
theorem pos_succ (l : List Int) (k : Nat) (h : k < l.length) : pos l (k + 1) = pos l k + (esc (l.getD k 0)).length := by
  unfold pos; rw [encB_take_succ l k h, List.length_append]; omega
theorem pos_end (l : List Int) : (enc l).length = pos l l.length + 1 := by
  unfold pos enc; rw [List.take_of_length_le (Nat.le_refl _)]; simp; omega
theorem pos_le (l : List Int) (k : Nat) : pos l k ≤ pos l l.length := by
  unfold pos
  rw [List.take_of_length_le (Nat.le_refl l.length)]
  have : encB l = encB (l.take k) ++ encB (l.drop k) := by rw [← encB_append, List.take_append_drop]
  rw [this, List.length_append]; omega
theorem getD_app_r (a b : List Int) (j : Nat) : (a ++ b).getD (a.length + j) 0 = b.getD j 0 := by
  rw [List.getD_eq_getElem?_getD, List.getD_eq_getElem?_getD, List.getElem?_append_right (by omega), Nat.add_sub_cancel_left]
theorem getD_app_l (a b : List Int) (j : Nat) (h : j < a.length) : (a ++ b).getD j 0 = a.getD j 0 := by
  rw [List.getD_eq_getElem?_getD, List.getD_eq_getElem?_getD, List.getElem?_append_left h]
theorem enc_split (l : List Int) (k : Nat) (h : k < l.length) : enc l = (34 :: encB (l.take k)) ++ (esc (l.getD k 0) ++ (encB (l.drop (k + 1)) ++ [34])) := by
  have : encB l = encB (l.take k) ++ (esc (l.getD k 0) ++ encB (l.drop (k + 1))) := by
    rw [← List.append_assoc, ← encB_take_succ l k h, ← encB_append, List.take_append_drop]
  unfold enc
  rw [this]; simp
theorem enc_at (l : List Int) (k m : Nat) (h : k < l.length) (hm : m < (esc (l.getD k 0)).length) : (enc l).getD (pos l k + m) 0 = (esc (l.getD k 0)).getD m 0 := by
  rw [enc_split l k h]
  have e : pos l k + m = (34 :: encB (l.take k)).length + m := by unfold pos; simp; omega
  rw [e, getD_app_r, getD_app_l _ _ _ hm]
theorem enc_first (l : List Int) : (enc l).getD 0 0 = 34 := rfl
theorem enc_last (l : List Int) : (enc l).getD (pos l l.length) 0 = 34 := by
  have e : pos l l.length = (34 :: encB l).length + 0 := by unfold pos; rw [List.take_of_length_le (Nat.le_refl _)]; simp; omega
  have e2 : enc l = (34 :: encB l) ++ [34] := rfl
  rw [e, e2, getD_app_r]; rfl
end Go.Proofs.Qxb6000883aMods
