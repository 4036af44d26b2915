import Derived.Test.Qxb6603995aModsCopyWalks
namespace Go.Proofs.Qxb6603995aMods
open Go.RowKit
set_option linter.unusedVariables false

set_option maxHeartbeats 400000 in
theorem numCopy_at (x : Addr) (cap : Nat) (zs : List Int) (w : World) (hl : zs.length ≤ 1048576) (hc : ∀ j, j < zs.length → w.cell? (x.add j) = some (.int .u8 (zs.getD j 0))) :
    Calls Trym.prog 9 #[.slice (some x) zs.length cap] w fun e w' => e = .returned (.slice (some ⟨w.heap.size, 0, none⟩) zs.length zs.length) ∧ Below w.heap.size w w' ∧
      ∀ j, j < zs.length → w'.cell? ⟨w.heap.size, 0 + j, none⟩ = some (.int .u8 (zs.getD j 0)) := by
  obtain ⟨i0, hi, hz0, hz1, hz2⟩ := info_parts info5c
  have hq : ∀ (w : World) (a : Option Addr) (n c n' c' : Nat), (binOp .eql 22 (.slice a n c) (.slice none n' c')).run Trym.prog w = .ok (.bool a.isNone) w := fun w a n c n' c' => Lib.run_eql_slice_nil w _ _ a n c n' c' Trym.underlying22
  obtain ⟨cs, hcs⟩ : ∃ cs, cs = zs.map (Value.int .u8) := ⟨_, rfl⟩
  have HC : Hid (cs = zs.map (Value.int .u8)) := hcs
  have HC1 : Hid (∀ v ∈ cs, v.oneCell' = true) := by rw [hcs]; exact cs_one zs
  have HL : Hid (cs.length = zs.length) := by rw [hcs]; simp [Hid]
  have HF : Hid (∀ y : World, Below w.heap.size w y → ∀ j v, cs[j]? = some v → y.cell? (x.add j) = some v) := by
    intro y hb j v hj
    rw [hcs] at hj
    obtain ⟨h1, h2⟩ := cs_at zs j v hj
    rw [h2]
    exact cell_later hb (hc j h1)
  clear hcs hc
  go_enter Trym.func9, Trym.ntmps9
  go_wp2_with (first
    | (at_make; refine wpList_make_full _ rfl _ _ 22 rfl w.heap.size 5 i0 (.int .u8 0) 1 Trym.underlying22 hi hz0 hz1 _ _ _ _ zs.length rfl rfl rfl rfl (by rw [hz2]; omega) (by unfold maxLen; omega) (Nat.le_refl _) ?_; intro w1 hown hgr; have HM : Hid _ := made_row hown; have hb1 : Below w.heap.size w w1 := (Below.refl _ _).grown hgr (Nat.le_refl _) (fun k hk => by cases hk); clear hown hgr)
    | (refine wpList_copy_splice rfl (.tmp 9) (.tmp 10) 22 22 rfl 5 Trym.underlying22 size5c _ _ _ _ _ _ rfl rfl w.heap.size 0 _ 5 HM.out.1 cs (by rw [HL.out]; exact (Nat.min_self _).symm) (fun _ => ⟨rfl, _, rfl, HF.out _ hb1⟩) (by rw [HM.out.2, HL.out]; omega) HC1.out w.heap.size w hb1 (Nat.le_refl _) ?_; intro w2 hrow hb2))
  go_ret
  exact ⟨rfl, hb2, row_cells (by have h := hrow.out; rw [splice_all _ _ (by rw [HL.out, HM.out.2]), HC.out] at h; exact h)⟩

/-- numCopy of nil -/
theorem numCopy_nil (w : World) : Calls Trym.prog 9 #[.slice none 0 0] w fun e w' => e = .returned (.slice none 0 0) ∧ w' = w := by
  have hq : ∀ (w : World) (a : Option Addr) (n c n' c' : Nat), (binOp .eql 22 (.slice a n c) (.slice none n' c')).run Trym.prog w = .ok (.bool a.isNone) w := fun w a n c n' c' => Lib.run_eql_slice_nil w _ _ a n c n' c' Trym.underlying22
  go_enter Trym.func9, Trym.ntmps9
  go_wp2
  go_ret
  exact ⟨rfl, rfl⟩

end Go.Proofs.Qxb6603995aMods
