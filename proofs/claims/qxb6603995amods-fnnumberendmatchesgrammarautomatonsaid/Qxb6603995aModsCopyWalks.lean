import Derived.Test.Qxb6603995aModsRows
import Derived.WalkKit
import Derived.WalkSpells
import Derived.WalkLawsBesides
import Derived.Laws.CopyOwn
namespace Go.Proofs.Qxb6603995aMods
open Go.RowKit
set_option linter.unusedVariables false

theorem info5c : (Trym.prog.info? 5).map (fun i => (i.zero, i.size, i.bytes)) = some (some (.int .u8 0), 1, 1) := by kernel_rfl
theorem size5c : (Trym.prog.info? 5).map (·.size) = some 1 := by kernel_rfl

/-- the row that 'make' laid, as a list -/
theorem made_row {w : World} {B n : Nat} {xs : List Value} (h : w.ownsRow B 5 1 (.slice (some ⟨B, 0, none⟩) n n) n xs) : w.heap[B]? = some (.cells xs.toArray 5 (0, 0)) ∧ xs.length = n := by
  obtain ⟨h1, h2⟩ := h
  rcases h2 with ⟨h2, _⟩ | ⟨g, cap, cur, hv, hg, hh, hn, hm, hs, ht⟩
  · cases h2
  · injection hv with e1 e2 e3
    injection e1 with e1
    injection e1 with e1
    subst e1
    subst e3
    rw [List.take_of_length_le (by simp [hs])] at ht
    subst ht
    exact ⟨by simpa using hh, by simpa using h1⟩

theorem splice_all {α : Type} (L cs : List α) (h : cs.length = L.length) : splice L 0 cs = cs := by
  unfold splice
  rw [Nat.zero_add, h]
  simp

theorem row_cells {w : World} {B : Nat} {zs : List Int} (h : w.heap[B]? = some (.cells (zs.map (Value.int .u8)).toArray 5 (0, 0))) :
    ∀ j, j < zs.length → w.cell? ⟨B, 0 + j, none⟩ = some (.int .u8 (zs.getD j 0)) := by
  intro j hj
  rw [Nat.zero_add]
  simp [World.cell?, h, hj]

/-- what a slice of bytes that lies at an address reads as -/
def Bytes (w : World) (b off len : Nat) (zs : List Int) : Prop := ∀ j, j < len → w.cell? ⟨b, off + j, none⟩ = some (.int .u8 (zs.getD j 0))

theorem cs_at (zs : List Int) (j : Nat) (v : Value) (h : (zs.map (Value.int .u8))[j]? = some v) : j < zs.length ∧ v = .int .u8 (zs.getD j 0) := by
  rw [List.getElem?_map] at h
  by_cases hj : j < zs.length
  · rw [List.getElem?_eq_getElem hj] at h
    simp at h
    exact ⟨hj, by simp [← h, hj]⟩
  · rw [List.getElem?_eq_none (by omega)] at h
    cases h
theorem cs_one (zs : List Int) : ∀ v ∈ zs.map (Value.int .u8), v.oneCell' = true := by
  intro v hv
  rw [List.mem_map] at hv
  obtain ⟨a, _, rfl⟩ := hv
  rfl

set_option maxHeartbeats 400000 in
theorem numCopy_any (b off cap : Nat) (zs : List Int) (w : World) (hl : zs.length ≤ 1048576) (hc : ∀ j, j < zs.length → w.cell? ⟨b, off + j, none⟩ = some (.int .u8 (zs.getD j 0))) :
    Calls Trym.prog 9 #[.slice (some ⟨b, off, none⟩) zs.length cap] w fun e w' => e = .returned (.slice (some ⟨w.heap.size, 0, none⟩) zs.length zs.length) ∧ Below w.heap.size w w' ∧
      ∀ j, j < zs.length → w'.cell? ⟨w.heap.size, 0 + j, none⟩ = some (.int .u8 (zs.getD j 0)) := by
  obtain ⟨i0, hi, hz0, hz1, hz2⟩ := info_parts info5c
  have hq : ∀ (w : World) (a : Option Addr) (n c n' c' : Nat), (binOp .eql 22 (.slice a n c) (.slice none n' c')).run Trym.prog w = .ok (.bool a.isNone) w := fun w a n c n' c' => Lib.run_eql_slice_nil w _ _ a n c n' c' Trym.underlying22
  obtain ⟨cs, hcs⟩ : ∃ cs, cs = zs.map (Value.int .u8) := ⟨_, rfl⟩
  have HC : Hid (cs = zs.map (Value.int .u8)) := hcs
  have HC1 : Hid (∀ v ∈ cs, v.oneCell' = true) := by rw [hcs]; exact cs_one zs
  have HL : Hid (cs.length = zs.length) := by rw [hcs]; simp [Hid]
  have HF : Hid (∀ x : World, Below w.heap.size w x → ∀ j v, cs[j]? = some v → x.cell? ((⟨b, off, none⟩ : Addr).add j) = some v) := by
    intro x hb j v hj
    rw [hcs] at hj
    obtain ⟨h1, h2⟩ := cs_at zs j v hj
    rw [h2]
    rw [Addr.add_lit]
    exact cell_later hb (hc j h1)
  clear hcs hc
  go_enter Trym.func9, Trym.ntmps9
  go_wp2_with (first
    | (at_make; refine wpList_make_full _ rfl _ _ 22 rfl w.heap.size 5 i0 (.int .u8 0) 1 Trym.underlying22 hi hz0 hz1 _ _ _ _ zs.length rfl rfl rfl rfl (by rw [hz2]; omega) (by unfold maxLen; omega) (Nat.le_refl _) ?_; intro w1 hown hgr; have HM : Hid _ := made_row hown; have hb1 : Below w.heap.size w w1 := (Below.refl _ _).grown hgr (Nat.le_refl _) (fun k hk => by cases hk); clear hown hgr)
    | (refine wpList_copy_splice rfl (.tmp 9) (.tmp 10) 22 22 rfl 5 Trym.underlying22 size5c _ _ _ _ _ _ rfl rfl w.heap.size 0 _ 5 HM.out.1 cs (by rw [HL.out]; exact (Nat.min_self _).symm) (fun _ => ⟨rfl, _, rfl, HF.out _ hb1⟩) (by rw [HM.out.2, HL.out]; omega) HC1.out w.heap.size w hb1 (Nat.le_refl _) ?_; intro w2 hrow hb2))
  go_ret
  exact ⟨rfl, hb2, row_cells (by have h := hrow.out; rw [splice_all _ _ (by rw [HL.out, HM.out.2]), HC.out] at h; exact h)⟩
end Go.Proofs.Qxb6603995aMods
