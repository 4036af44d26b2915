/-
  PLAIN: the quoted form of a byte string, as lists of integers. No Go in sight.
-/
namespace Go.Proofs.Qxb6000883aMods

def hx (d : Int) : Int := if d < 10 then 48 + d else 87 + d
/-- how one byte is written -/
def esc (c : Int) : List Int :=
  if c = 34 then [92, 34] else if c = 92 then [92, 92] else if c = 8 then [92, 98] else if c = 9 then [92, 116] else if c = 10 then [92, 110] else if c = 12 then [92, 102] else if c = 13 then [92, 114]
  else if c < 32 then [92, 117, 48, 48, hx (c / 16), hx (c % 16)] else [c]
def encB : List Int → List Int
  | [] => []
  | c :: l => esc c ++ encB l
def enc (l : List Int) : List Int := 34 :: (encB l ++ [34])

theorem encB_append (a b : List Int) : encB (a ++ b) = encB a ++ encB b := by
  induction a with
  | nil => rfl
  | cons c a ih => simp [encB, ih]
theorem take_succ_getD (l : List Int) (k : Nat) (h : k < l.length) : l.take (k + 1) = l.take k ++ [l.getD k 0] := by
  rw [List.take_succ_eq_append_getElem h, List.getD_eq_getElem?_getD, List.getElem?_eq_getElem h]; rfl
theorem encB_take_succ (l : List Int) (k : Nat) (h : k < l.length) : encB (l.take (k + 1)) = encB (l.take k) ++ esc (l.getD k 0) := by
  rw [take_succ_getD l k h, encB_append]; simp [encB]
theorem esc_len (c : Int) : 1 ≤ (esc c).length ∧ (esc c).length ≤ 6 := by
  unfold esc
  repeat' split
  all_goals simp
theorem encB_len (l : List Int) : l.length ≤ (encB l).length ∧ (encB l).length ≤ 6 * l.length := by
  induction l with
  | nil => simp [encB]
  | cons c l ih => have := esc_len c; simp [encB]; omega
theorem enc_len (l : List Int) : l.length + 2 ≤ (enc l).length ∧ (enc l).length ≤ 6 * l.length + 2 := by
  have := encB_len l
  simp [enc]; omega
theorem esc_plain (c : Int) (h1 : 32 ≤ c) (h2 : c ≠ 34) (h3 : c ≠ 92) : esc c = [c] := by
  unfold esc
  rw [if_neg h2, if_neg h3, if_neg (by omega), if_neg (by omega), if_neg (by omega), if_neg (by omega), if_neg (by omega), if_neg (by omega)]
theorem esc_ctl (c : Int) (h1 : c < 32) (h8 : c ≠ 8) (h9 : c ≠ 9) (h10 : c ≠ 10) (h12 : c ≠ 12) (h13 : c ≠ 13) : esc c = [92, 117, 48, 48, hx (c / 16), hx (c % 16)] := by
  unfold esc
  rw [if_neg (by omega), if_neg (by omega), if_neg h8, if_neg h9, if_neg h10, if_neg h12, if_neg h13, if_pos h1]

/-- the bytes from place a up to place b -/
def seg (l : List Int) (a b : Nat) : List Int := (l.take b).drop a
theorem seg_self (l : List Int) (a : Nat) : seg l a a = [] := by
  unfold seg; rw [List.drop_eq_nil_iff]; simp; omega
theorem seg_len (l : List Int) (a b : Nat) : (seg l a b).length ≤ b - a := by
  unfold seg; simp; omega
theorem seg_succ (l : List Int) (a b : Nat) (h : b < l.length) (hab : a ≤ b) : seg l a (b + 1) = seg l a b ++ [l.getD b 0] := by
  unfold seg; rw [take_succ_getD l b h, List.drop_append_of_le_length (by simp; omega)]

/-- a plain byte is passed over -/
theorem pass (l X : List Int) (a k : Nat) (h : k < l.length) (hak : a ≤ k) (hX : X ++ seg l a k = 34 :: encB (l.take k)) (hc : esc (l.getD k 0) = [l.getD k 0]) :
    X ++ seg l a (k + 1) = 34 :: encB (l.take (k + 1)) := by
  rw [seg_succ l a k h hak, encB_take_succ l k h, hc, ← List.append_assoc, hX]; rfl
/-- a byte that is escaped: what was passed over is written, then its escape -/
theorem flush (l X : List Int) (a k : Nat) (h : k < l.length) (hX : X ++ seg l a k = 34 :: encB (l.take k)) (c : Int) (hcl : c = l.getD k 0) (es : List Int) (hc : esc c = es) :
    (X ++ seg l a k ++ es) ++ seg l (k + 1) (k + 1) = 34 :: encB (l.take (k + 1)) := by
  rw [seg_self, List.append_nil, encB_take_succ l k h, hX, ← hcl, hc]; rfl
theorem len_of (l X : List Int) (a k : Nat) (hk : k ≤ l.length) (hX : X ++ seg l a k = 34 :: encB (l.take k)) : X.length ≤ 6 * l.length + 1 ∧ X.length + (seg l a k).length ≤ 6 * l.length + 1 := by
  have := congrArg List.length hX
  have e := encB_len (l.take k)
  simp at this e
  omega

end Go.Proofs.Qxb6000883aMods
