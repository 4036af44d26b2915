import Derived.Test.Qxb6000883aModsRows
import Derived.Test.Qxb6000883aModsEscPlain
import Derived.WalkKit
import Derived.WalkSpells
import Derived.WalkLawsBesides
import Derived.Lib.BufSteps
import Derived.ArgAppend
import Derived.Deep.RegionLaw
import Derived.Laws.BitsAllLaws
namespace Go.Proofs.Qxb6000883aMods
open Go.RowKit
set_option linter.unusedVariables false

theorem info5 : (Trym.prog.info? 5).map (fun i => (i.zero, i.size, i.bytes)) = some (some (.int .u8 0), 1, 1) := by kernel_rfl

/-- numbers as cells of bytes -/
def cI (l : List Int) : List Value := l.map (Value.int .u8)
theorem cI_append (a b : List Int) : cI (a ++ b) = cI a ++ cI b := by simp [cI]
theorem cI_length (a : List Int) : (cI a).length = a.length := by simp [cI]
theorem cI_one (a : List Int) : ∀ u ∈ cI a, u.oneCell' = true := by
  intro u hu
  rw [cI, List.mem_map] at hu
  obtain ⟨n, _, rfl⟩ := hu
  rfl
theorem cI_at (zs : List Int) (j : Nat) (v : Value) (h : (cI zs)[j]? = some v) : j < zs.length ∧ v = .int .u8 (zs.getD j 0) := by
  rw [cI, List.getElem?_map] at h
  by_cases hj : j < zs.length
  · rw [List.getElem?_eq_getElem hj] at h
    simp at h
    exact ⟨hj, by simp [← h, hj]⟩
  · rw [List.getElem?_eq_none (by omega)] at h
    cases h
theorem cI_get (zs : List Int) (j : Nat) (h : j < zs.length) : (cI zs)[j]? = some (.int .u8 (zs.getD j 0)) := by
  rw [cI, List.getElem?_map, List.getElem?_eq_getElem h, List.getD_eq_getElem?_getD, List.getElem?_eq_getElem h]; rfl
/-- a string's bytes as numbers -/
def bI (s : ByteArray) : List Int := s.data.toList.map fun b => (b.toNat : Int)
theorem bI_length (s : ByteArray) : (bI s).length = s.size := by simp [bI]
theorem strCells_bI (s : ByteArray) : Lib.strCells s = cI (bI s) := by simp [Lib.strCells, cI, bI]
theorem bI_get (s : ByteArray) (j : Nat) (h : j < s.size) : (s[j].toNat : Int) = (bI s).getD j 0 := by
  rw [bI, List.getD_eq_getElem?_getD, List.getElem?_map, List.getElem?_eq_getElem (by simpa using h)]
  rfl
theorem bI_extract (s : ByteArray) (a b : Nat) : bI (s.extract a b) = seg (bI s) a b := by
  unfold bI seg
  rw [ByteArray.data_extract, Array.toList_extract, ← List.map_take, ← List.map_drop, List.extract_eq_take_drop, List.drop_take]

section
variable {P : Program}
/-- 'buf = append(buf, c0, c1, ..)': the new bytes lie in the block that the statement has just laid -/
theorem wpList_append_cells {ops : Array Oper} {rest : List Oper} {o : Oper} {a : Act} {Q : Exit → Act → World → Prop} (hgd : o.guard = none) (s x : Operand) (t : TypeId)
    (ho : o.op = .call { callee := .builtin .append, args := #[s, x], argTypes := #[t, t] })
    (B : Nat) (e : TypeId) (i : TypeInfo) (ht : P.underlying t = some (.slice e)) (hi : P.info? e = some i) (hz : i.zero = some (.int .u8 0)) (hsize : i.size = 1) (hby : i.bytes = 1)
    (v : Value) (n : Nat) (xs : List Value) (hs : a.eval s = v) (W0 w0 : World) (cs : List Value) (hb : Lib.OwnBuf B e v n xs W0 w0) (h1 : ∀ u ∈ cs, u.oneCell' = true)
    (hx : a.eval x = .slice (some ⟨w0.heap.size, 0, none⟩) cs.length cs.length) (hlen : n + cs.length ≤ 140737488355328)
    (h : ∀ v' w', Lib.OwnBuf B e v' (n + cs.length) (xs ++ cs) W0 w' → wpList P ops Q rest (a.put o.dst v') w') : wpList P ops Q (o :: rest) a (w0.alloc (.cells cs.toArray e)) := by
  have hb' := hb.alloc (.cells cs.toArray e)
  refine wpList_append_ownF _ hgd s x t ho B e i (.int .u8 0) 1 1 ht hi hz hsize hby rfl (by decide) v n xs hs hb'.1 ⟨w0.heap.size, 0, none⟩ cs.length cs.length cs hx (by omega) ?_ h1 (by unfold maxLen; omega) (by omega) hb'.2.2 ?_
  · intro j u hj
    rw [Addr.add_lit, Nat.zero_add, World.cell?_alloc_at (w := w0) cs.toArray e w0.heap.size j rfl]
    simpa using hj
  · intro v' w' ho' hg _
    exact h v' w' (hb'.grown ho' hg)

/-- the same as one step of a region that draws its order -/
theorem step_append_cells {ops : Array Oper} {o : Oper} {a : Act} {w : World} {K : Act → World → Prop} {Q : Exit → Act → World → Prop} {E : Prop} (hgd : o.guard = none) (s x : Operand) (t : TypeId)
    (ho : o.op = .call { callee := .builtin .append, args := #[s, x], argTypes := #[t, t] })
    (B : Nat) (e : TypeId) (i : TypeInfo) (ht : P.underlying t = some (.slice e)) (hi : P.info? e = some i) (hz : i.zero = some (.int .u8 0)) (hsize : i.size = 1) (hby : i.bytes = 1)
    (v : Value) (n : Nat) (xs : List Value) (hs : a.eval s = v) (W0 : World) (hb : Lib.OwnBuf B e v n xs W0 w) (ad : Addr) (m c : Nat) (cs : List Value) (hm : cs.length = m) (h1 : ∀ u ∈ cs, u.oneCell' = true)
    (hx : a.eval x = .slice (some ad) m c) (hc : ∀ j u, cs[j]? = some u → w.cell? (ad.add j) = some u) (hlen : n + m ≤ 140737488355328)
    (h : ∀ v' w', Lib.OwnBuf B e v' (n + m) (xs ++ cs) W0 w' → K (a.put o.dst v') w') :
    if Region.wanted o (yielded ops a.tmps) = true then Oper.wp P o a w K Q else E := by
  have hw : Region.wanted o (yielded ops a.tmps) = true := by simp [Region.wanted, hgd]
  rw [if_pos hw]
  obtain ⟨v', w', hrun, r1, r2, _⟩ := run_append_ownF (P := P) w B t o.type e i (.int .u8 0) 1 1 ht hi hz hsize hby rfl (by decide) v n xs hb.1 ad m c cs (by omega) hc h1 (by unfold maxLen; omega) (by omega) hb.2.2
  unfold Oper.wp
  simp [execOp, ho, resolve, invoke, builtin, hs, hx, hrun, Result.andThen]
  exact h v' w' (hb.grown r1 r2)
end

theorem ownsRow_base {w : World} {B B' : Nat} {e : TypeId} {size : Nat} {v : Value} {n : Nat} {xs : List Value} (h : w.ownsRow B e size v n xs) (hB : B' ≤ B) : w.ownsRow B' e size v n xs := by
  obtain ⟨h1, h2⟩ := h
  refine ⟨h1, ?_⟩
  rcases h2 with h2 | ⟨g, cap, cur, hv, hg, r⟩
  · exact .inl h2
  · exact .inr ⟨g, cap, cur, hv, by omega, r⟩

theorem and15 (a : Int) (h0 : 0 ≤ a) (h1 : a < 256) : bits .and .u8 a 15 = a % 16 := by
  rw [u8_and a 15 h0 h1 (by omega) (by omega)]
  have : a.toNat &&& (15 : Int).toNat = a.toNat % 16 := Nat.and_two_pow_sub_one_eq_mod a.toNat 4
  rw [this]; omega
theorem hex_all : ∀ d : Fin 16, ((({ data := #[48, 49, 50, 51, 52, 53, 54, 55, 56, 57, 97, 98, 99, 100, 101, 102] } : ByteArray)[d.val]'d.isLt).toNat : Int) = hx d.val := by
  unfold hx
  decide
theorem hex_at (x : Int) (h0 : 0 ≤ x) (h : x.toNat < 16) : ((({ data := #[48, 49, 50, 51, 52, 53, 54, 55, 56, 57, 97, 98, 99, 100, 101, 102] } : ByteArray)[x.toNat]'h).toNat : Int) = hx x := by
  have := hex_all ⟨x.toNat, h⟩
  rw [show ((⟨x.toNat, h⟩ : Fin 16).val : Int) = x from by simp; omega] at this
  exact this
theorem drewBuf {B : Nat} {e : TypeId} {v : Value} {n : Nat} {xs : List Value} {W0 w : World} (h : Lib.OwnBuf B e v n xs W0 w) : Lib.OwnBuf B e v n xs W0 w.drew := ⟨h.1, h.2.1.drew, h.2.2⟩
theorem cells_drew (w2 : World) (cs : List Value) : ∀ j u, cs[j]? = some u → ((w2.alloc (.cells cs.toArray 5)).drew).cell? ((⟨w2.heap.size, 0, none⟩ : Addr).add j) = some u := by
  intro j u hj
  rw [Addr.add_lit, Nat.zero_add]
  show (w2.alloc (.cells cs.toArray 5)).cell? ⟨w2.heap.size, j, none⟩ = some u
  rw [World.cell?_alloc_at (w := w2) cs.toArray 5 w2.heap.size j rfl]
  simpa using hj

/-- behind k bytes: X is written, the bytes from a on are passed over -/
def Wrote (l X : List Int) (a k : Nat) : Prop := X ++ seg l a k = 34 :: encB (l.take k)

theorem lenBuf {B : Nat} {e : TypeId} {v : Value} {n : Nat} {xs : List Value} {W0 w : World} (h : Lib.OwnBuf B e v n xs W0 w) : xs.length = n := by
  have := h.1.1; omega

theorem endRound {B : Nat} {w w3 : World} {pre : List Value} {zs l X : List Int} {s : ByteArray} {a k M : Nat} {c : Int} {v3 : Value} (HPL : pre.length = zs.length * 1) (HE : ∀ a b, Lib.strCells (s.extract a b) = cI (seg l a b)) (es : List Int)
    (hk : k < l.length) (HX : Wrote l X a k) (hc : c = l.getD k 0) (hes : esc c = es)
    (hb : Lib.OwnBuf B 5 v3 M (pre ++ cI X ++ Lib.strCells (s.extract a k) ++ cI es) w w3) :
    ∃ N' X', Lib.OwnBuf B 5 v3 N' (pre ++ cI X') w w3 ∧ Wrote l X' (k + 1) (k + 1) := by
  refine ⟨M, X ++ seg l a k ++ es, ?_, flush l X a k hk HX c hc es hes⟩
  rw [HE] at hb
  rw [cI_append, cI_append]
  simpa [List.append_assoc] using hb

set_option maxRecDepth 10000 in
set_option maxHeartbeats 1000000 in
theorem appendString_any (ao : Option Addr) (zs : List Int) (s : ByteArray) (w : World) (hs : s.size ≤ 1048576) (hz : zs.length ≤ 1048576) (hn : ao = none → zs = [])
    (hc : ∀ a, ao = some a → ∀ j, j < zs.length → w.cell? (a.add j) = some (.int .u8 (zs.getD j 0))) :
    Calls Trym.prog 21 #[.slice ao zs.length zs.length, .string s] w fun e w' => ∃ v N, e = .returned v ∧ Lib.OwnBuf w.heap.size 5 v N (cI (zs ++ enc (bI s))) w w' := by
  obtain ⟨i0, hi, hz0, hz1, hz2⟩ := info_parts info5
  have HO : Hid (∀ x : World, Below w.heap.size w x → ∀ b, ao = some b → ∀ j u, (cI zs)[j]? = some u → x.cell? (b.add j) = some u) := by
    intro x hb b hao j u hj
    obtain ⟨h1, h2⟩ := cI_at zs j u hj
    rw [h2]
    exact cell_later hb (hc b hao j h1)
  have HN : Hid (ao = none → zs.length = 0 ∧ zs.length = 0) := fun h => by rw [hn h]; exact ⟨rfl, rfl⟩
  clear hc hn
  obtain ⟨pre, hpre⟩ : ∃ pre, pre = cI zs := ⟨_, rfl⟩
  rw [← hpre] at HO
  have HPL : Hid (pre.length = zs.length * 1) := by show _ = _; rw [hpre, cI_length]; omega
  obtain ⟨l, hl⟩ : ∃ l, l = bI s := ⟨_, rfl⟩
  have HLL : Hid (l.length = s.size) := by show _ = _; rw [hl, bI_length]
  have HG : Hid (∀ j (h : j < s.size), (s[j].toNat : Int) = l.getD j 0) := by rw [hl]; exact bI_get s
  have HE : Hid (∀ a b, Lib.strCells (s.extract a b) = cI (seg l a b)) := fun a b => by rw [strCells_bI, bI_extract, hl]
  rw [← hl, cI_append, ← hpre]
  clear hl hpre
  go_enter Trym.func21, Trym.ntmps21
  go_wp2_with (at_builtin; refine wpList_append_grows _ rfl (.tmp 8) (.tmp 9) 23 rfl 5 i0 (.int .u8 0) 1 1 Trym.underlying23 hi hz0 hz1 hz2 rfl (by decide) ao zs.length zs.length pre rfl HN.out HPL.out (HO.out _ ((Below.refl _ _).alloc (Nat.le_refl _) _)) _ 1 1 [.int .u8 34] rfl rfl (cell_one_new _ _ _) (by simp [Value.oneCell']) (by omega) (by unfold maxLen; omega) (by omega) ?_; intro v1 w1 hown hgr)
  have hb1 : Lib.OwnBuf w.heap.size 5 v1 (zs.length + 1) (pre ++ cI [34]) w w1 :=
    ⟨World.ownsRowF_of (ownsRow_base hown (by simp)), ((Below.refl _ _).alloc (Nat.le_refl _) _).grown hgr (by simp) (fun k hk => by cases hk), by have := hgr.size; simp at this; omega⟩
  clear hown hgr HO HN
  go_loopw [0, 5, 6] (fun vb st ix wr => ∃ (k a N : Nat) (X : List Int), a ≤ k ∧ k ≤ s.size ∧ st = .int .i64 a ∧ ix = .int .i64 k ∧ Lib.OwnBuf w.heap.size 5 vb N (pre ++ cI X) w wr ∧ Wrote l X a k)
    (fun _ _ ix _ => s.size - (intOf ix).toNat)
  case atStart => exact ⟨0, 0, zs.length + 1, [34], Nat.le_refl _, Nat.zero_le _, rfl, rfl, hb1, by simp [Wrote, seg, encB]⟩
  case round =>
    obtain ⟨k, a, N, X, hak, hk, rfl, rfl, hb, HX⟩ := hrel
    have hNb : N ≤ 1048576 + 6 * 1048576 + 1 := by
      have hlen := len_of l X a k (by rw [HLL.out]; exact hk) HX
      have hN := lenBuf hb
      have hLL := HLL.out
      have := HPL.out
      rw [List.length_append, cI_length] at hN
      omega
    by_cases hlt : k < s.size
    · have hck := HG.out k hlt
      obtain ⟨c, hc⟩ : ∃ c, c = l.getD k 0 := ⟨_, rfl⟩
      rw [← hc] at hck
      have HC : Hid (c = l.getD k 0) := hc
      clear hc
      have hc0 : 0 ≤ c := by omega
      have hc255 : c < 256 := by have := s[k].toNat_lt; omega
      have hxs : (s.extract a k).size ≤ 1048576 := by rw [ByteArray.size_extract]; omega
      by_cases hp : 32 ≤ c ∧ c ≠ 34 ∧ c ≠ 92
      · obtain ⟨p1, p2, p3⟩ := hp
        have p2' : (c != 34) = true := by simpa using p2
        have p3' : (c != 92) = true := by simpa using p3
        have HXn : Wrote l X a (k + 1) := pass l X a k (by rw [HLL.out]; exact hlt) hak HX (by rw [← HC.out]; exact esc_plain c p1 p2 p3)
        clear p2 p3
        go_wp2
        go_roundw
        case rel => exact ⟨k + 1, a, N, X, by omega, by omega, rfl, by go_num, hb, HXn⟩
        case measure => simp [intOf]; omega
      · have h9 : c = 34 ∨ c = 92 ∨ c = 8 ∨ c = 9 ∨ c = 10 ∨ c = 12 ∨ c = 13 ∨ (c < 32 ∧ c ≠ 8 ∧ c ≠ 9 ∧ c ≠ 10 ∧ c ≠ 12 ∧ c ≠ 13) := by omega
        clear hp
        rcases h9 with rfl | rfl | rfl | rfl | rfl | rfl | rfl | ⟨q0, q8, q9, q10, q12, q13⟩
        · go_wp2_with (first | (at_builtin; refine Lib.wpList_append_text rfl (.tmp 30) (.tmp 34) 23 9 rfl w.heap.size 5 i0 Trym.underlying23 Trym.underlying9 hi hz0 hz1 hz2 _ _ _ rfl w hb _ rfl (by omega) ?_; intro v2 w2 hb2) | (at_builtin; refine wpList_append_cells rfl (.tmp 54) (.tmp 56) 23 rfl w.heap.size 5 i0 Trym.underlying23 hi hz0 hz1 hz2 _ _ _ rfl w w2 [.int .u8 92, .int .u8 34] hb2 (cI_one [92, 34]) rfl (by show _ + 2 ≤ _; omega) ?_; intro v3 w3 hb3))
          obtain ⟨N', X', hb', HX'⟩ := endRound HPL.out HE.out [92, 34] (by rw [HLL.out]; exact hlt) HX HC.out rfl hb3
          clear hb3 hb2 hb
          go_wp2
          go_roundw
          case rel => exact ⟨k + 1, k + 1, N', X', Nat.le_refl _, by omega, by go_num, by go_num, hb', HX'⟩
          case measure => simp [intOf]; omega
        · go_wp2_with (first | (at_builtin; refine Lib.wpList_append_text rfl (.tmp 30) (.tmp 34) 23 9 rfl w.heap.size 5 i0 Trym.underlying23 Trym.underlying9 hi hz0 hz1 hz2 _ _ _ rfl w hb _ rfl (by omega) ?_; intro v2 w2 hb2) | (at_builtin; refine wpList_append_cells rfl (.tmp 54) (.tmp 56) 23 rfl w.heap.size 5 i0 Trym.underlying23 hi hz0 hz1 hz2 _ _ _ rfl w w2 [.int .u8 92, .int .u8 92] hb2 (cI_one [92, 92]) rfl (by show _ + 2 ≤ _; omega) ?_; intro v3 w3 hb3))
          obtain ⟨N', X', hb', HX'⟩ := endRound HPL.out HE.out [92, 92] (by rw [HLL.out]; exact hlt) HX HC.out rfl hb3
          clear hb3 hb2 hb
          go_wp2
          go_roundw
          case rel => exact ⟨k + 1, k + 1, N', X', Nat.le_refl _, by omega, by go_num, by go_num, hb', HX'⟩
          case measure => simp [intOf]; omega
        · go_wp2_with (first | (at_builtin; refine Lib.wpList_append_text rfl (.tmp 30) (.tmp 34) 23 9 rfl w.heap.size 5 i0 Trym.underlying23 Trym.underlying9 hi hz0 hz1 hz2 _ _ _ rfl w hb _ rfl (by omega) ?_; intro v2 w2 hb2) | (at_builtin; refine wpList_append_cells rfl (.tmp 61) (.tmp 62) 23 rfl w.heap.size 5 i0 Trym.underlying23 hi hz0 hz1 hz2 _ _ _ rfl w w2 [.int .u8 92, .int .u8 98] hb2 (cI_one [92, 98]) rfl (by show _ + 2 ≤ _; omega) ?_; intro v3 w3 hb3))
          obtain ⟨N', X', hb', HX'⟩ := endRound HPL.out HE.out [92, 98] (by rw [HLL.out]; exact hlt) HX HC.out rfl hb3
          clear hb3 hb2 hb
          go_wp2
          go_roundw
          case rel => exact ⟨k + 1, k + 1, N', X', Nat.le_refl _, by omega, by go_num, by go_num, hb', HX'⟩
          case measure => simp [intOf]; omega
        · go_wp2_with (first | (at_builtin; refine Lib.wpList_append_text rfl (.tmp 30) (.tmp 34) 23 9 rfl w.heap.size 5 i0 Trym.underlying23 Trym.underlying9 hi hz0 hz1 hz2 _ _ _ rfl w hb _ rfl (by omega) ?_; intro v2 w2 hb2) | (at_builtin; refine wpList_append_cells rfl (.tmp 67) (.tmp 68) 23 rfl w.heap.size 5 i0 Trym.underlying23 hi hz0 hz1 hz2 _ _ _ rfl w w2 [.int .u8 92, .int .u8 116] hb2 (cI_one [92, 116]) rfl (by show _ + 2 ≤ _; omega) ?_; intro v3 w3 hb3))
          obtain ⟨N', X', hb', HX'⟩ := endRound HPL.out HE.out [92, 116] (by rw [HLL.out]; exact hlt) HX HC.out rfl hb3
          clear hb3 hb2 hb
          go_wp2
          go_roundw
          case rel => exact ⟨k + 1, k + 1, N', X', Nat.le_refl _, by omega, by go_num, by go_num, hb', HX'⟩
          case measure => simp [intOf]; omega
        · go_wp2_with (first | (at_builtin; refine Lib.wpList_append_text rfl (.tmp 30) (.tmp 34) 23 9 rfl w.heap.size 5 i0 Trym.underlying23 Trym.underlying9 hi hz0 hz1 hz2 _ _ _ rfl w hb _ rfl (by omega) ?_; intro v2 w2 hb2) | (at_builtin; refine wpList_append_cells rfl (.tmp 73) (.tmp 74) 23 rfl w.heap.size 5 i0 Trym.underlying23 hi hz0 hz1 hz2 _ _ _ rfl w w2 [.int .u8 92, .int .u8 110] hb2 (cI_one [92, 110]) rfl (by show _ + 2 ≤ _; omega) ?_; intro v3 w3 hb3))
          obtain ⟨N', X', hb', HX'⟩ := endRound HPL.out HE.out [92, 110] (by rw [HLL.out]; exact hlt) HX HC.out rfl hb3
          clear hb3 hb2 hb
          go_wp2
          go_roundw
          case rel => exact ⟨k + 1, k + 1, N', X', Nat.le_refl _, by omega, by go_num, by go_num, hb', HX'⟩
          case measure => simp [intOf]; omega
        · go_wp2_with (first | (at_builtin; refine Lib.wpList_append_text rfl (.tmp 30) (.tmp 34) 23 9 rfl w.heap.size 5 i0 Trym.underlying23 Trym.underlying9 hi hz0 hz1 hz2 _ _ _ rfl w hb _ rfl (by omega) ?_; intro v2 w2 hb2) | (at_builtin; refine wpList_append_cells rfl (.tmp 79) (.tmp 80) 23 rfl w.heap.size 5 i0 Trym.underlying23 hi hz0 hz1 hz2 _ _ _ rfl w w2 [.int .u8 92, .int .u8 102] hb2 (cI_one [92, 102]) rfl (by show _ + 2 ≤ _; omega) ?_; intro v3 w3 hb3))
          obtain ⟨N', X', hb', HX'⟩ := endRound HPL.out HE.out [92, 102] (by rw [HLL.out]; exact hlt) HX HC.out rfl hb3
          clear hb3 hb2 hb
          go_wp2
          go_roundw
          case rel => exact ⟨k + 1, k + 1, N', X', Nat.le_refl _, by omega, by go_num, by go_num, hb', HX'⟩
          case measure => simp [intOf]; omega
        · go_wp2_with (first | (at_builtin; refine Lib.wpList_append_text rfl (.tmp 30) (.tmp 34) 23 9 rfl w.heap.size 5 i0 Trym.underlying23 Trym.underlying9 hi hz0 hz1 hz2 _ _ _ rfl w hb _ rfl (by omega) ?_; intro v2 w2 hb2) | (at_builtin; refine wpList_append_cells rfl (.tmp 85) (.tmp 86) 23 rfl w.heap.size 5 i0 Trym.underlying23 hi hz0 hz1 hz2 _ _ _ rfl w w2 [.int .u8 92, .int .u8 114] hb2 (cI_one [92, 114]) rfl (by show _ + 2 ≤ _; omega) ?_; intro v3 w3 hb3))
          obtain ⟨N', X', hb', HX'⟩ := endRound HPL.out HE.out [92, 114] (by rw [HLL.out]; exact hlt) HX HC.out rfl hb3
          clear hb3 hb2 hb
          go_wp2
          go_roundw
          case rel => exact ⟨k + 1, k + 1, N', X', Nat.le_refl _, by omega, by go_num, by go_num, hb', HX'⟩
          case measure => simp [intOf]; omega
        · have q34' : (c == 34) = false := by simp; omega
          have q92' : (c == 92) = false := by simp; omega
          have q8' : (c == 8) = false := by simpa using q8
          have q9' : (c == 9) = false := by simpa using q9
          have q10' : (c == 10) = false := by simpa using q10
          have q12' : (c == 12) = false := by simpa using q12
          have q13' : (c == 13) = false := by simpa using q13
          have HQ : Hid (esc c = [92, 117, 48, 48, hx (c / 16), hx (c % 16)]) := esc_ctl c q0 q8 q9 q10 q12 q13
          clear q8 q9 q10 q12 q13
          go_wp2_with (at_builtin; refine Lib.wpList_append_text rfl (.tmp 30) (.tmp 34) 23 9 rfl w.heap.size 5 i0 Trym.underlying23 Trym.underlying9 hi hz0 hz1 hz2 _ _ _ rfl w hb _ rfl (by omega) ?_; intro v2 w2 hb2)
          have e15 : bits .and .u8 c 15 = c % 16 := and15 c hc0 hc255
          have b1 : 0 ≤ c / 16 := by omega
          have b2 : c / 16 < 16 := by omega
          have b3 : 0 ≤ c % 16 := by omega
          have b4 : c % 16 < 16 := by omega
          obtain ⟨d1, hd1, HD1⟩ : ∃ d1 : Int, ((({ data := #[48, 49, 50, 51, 52, 53, 54, 55, 56, 57, 97, 98, 99, 100, 101, 102] } : ByteArray)[(c / 16).toNat]'(by show _ < 16; omega)).toNat : Int) = d1 ∧ Hid (hx (c / 16) = d1) := ⟨_, rfl, (hex_at _ b1 _).symm⟩
          obtain ⟨d2, hd2, HD2⟩ : ∃ d2 : Int, ((({ data := #[48, 49, 50, 51, 52, 53, 54, 55, 56, 57, 97, 98, 99, 100, 101, 102] } : ByteArray)[(c % 16).toNat]'(by show _ < 16; omega)).toNat : Int) = d2 ∧ Hid (hx (c % 16) = d2) := ⟨_, rfl, (hex_at _ b3 _).symm⟩
          go_region_law (refine step_append_cells rfl (.tmp 38) (.tmp 45) 23 rfl w.heap.size 5 i0 Trym.underlying23 hi hz0 hz1 hz2 v2 _ _ (by simp [Act.eval]) w (drewBuf (hb2.alloc _)) ⟨w2.heap.size, 0, none⟩ 6 6 [.int .u8 92, .int .u8 117, .int .u8 48, .int .u8 48, .int .u8 d1, .int .u8 d2] rfl (cI_one [92, 117, 48, 48, d1, d2]) (by simp [Act.eval]) (cells_drew w2 [.int .u8 92, .int .u8 117, .int .u8 48, .int .u8 48, .int .u8 d1, .int .u8 d2]) (by omega) ?_; intro v3 w3 hb3)
          all_goals
            obtain ⟨N', X', hb', HX'⟩ := endRound HPL.out HE.out [92, 117, 48, 48, d1, d2] (by rw [HLL.out]; exact hlt) HX HC.out (by rw [HQ.out, HD1.out, HD2.out]) hb3
            clear hb3 hb2 hb
            go_wp2
          all_goals
            go_roundw
            case rel => exact ⟨k + 1, k + 1, N', X', Nat.le_refl _, by omega, by go_num, by go_num, hb', HX'⟩
            case measure => simp [intOf]; omega
    · obtain rfl : k = s.size := by omega
      have hxs : (s.extract a s.size).size ≤ 1048576 := by rw [ByteArray.size_extract]; omega
      go_wp2_with (first
        | (at_builtin; refine Lib.wpList_append_text rfl (.tmp 88) (.tmp 91) 23 9 rfl w.heap.size 5 i0 Trym.underlying23 Trym.underlying9 hi hz0 hz1 hz2 _ _ _ rfl w hb _ rfl (by omega) ?_; intro v2 w2 hb2)
        | (at_builtin; refine wpList_append_cells rfl (.tmp 93) (.tmp 94) 23 rfl w.heap.size 5 i0 Trym.underlying23 hi hz0 hz1 hz2 _ _ _ rfl w w2 [.int .u8 34] hb2 (cI_one [34]) rfl (by show _ + 1 ≤ _; omega) ?_; intro v3 w3 hb3))
      go_ret
      have e1 : Wrote l X a s.size := HX
      unfold Wrote at e1
      rw [List.take_of_length_le (by rw [HLL.out]; exact Nat.le_refl _)] at e1
      rw [HE.out] at hb3
      have e2 : pre ++ cI X ++ cI (seg l a s.size) ++ [Value.int .u8 34] = pre ++ cI (enc l) := by
        unfold enc
        rw [← List.cons_append, ← e1, cI_append, cI_append]
        simp [cI]
      rw [e2] at hb3
      exact ⟨v3, _, rfl, hb3⟩

set_option maxHeartbeats 400000 in
theorem zzAppendString_any (ao : Option Addr) (zs : List Int) (s : ByteArray) (w : World) (hs : s.size ≤ 1048576) (hz : zs.length ≤ 1048576) (hn : ao = none → zs = [])
    (hc : ∀ a, ao = some a → ∀ j, j < zs.length → w.cell? (a.add j) = some (.int .u8 (zs.getD j 0))) :
    Calls Trym.prog 9 #[.slice ao zs.length zs.length, .string s] w fun e w' => ∃ v N, e = .returned v ∧ Lib.OwnBuf w.heap.size 5 v N (cI (zs ++ enc (bI s))) w w' := by
  have h := appendString_any ao zs s w hs hz hn hc
  clear hn hc
  go_enter Trym.func9, Trym.ntmps9
  go_wp2_with (go_at_call 21; refine h.mono ?_; rintro e w' ⟨v, N, rfl, hb⟩)
  go_ret
  exact ⟨v, N, rfl, hb⟩

/-- what is owned, as a slice and its cells -/
theorem ownedAt {B : Nat} {v : Value} {N : Nat} {zs : List Int} {W w : World} (h : Lib.OwnBuf B 5 v N (cI zs) W w) (hpos : 0 < zs.length) :
    ∃ g cap, v = .slice (some ⟨g, 0, none⟩) zs.length cap ∧ B ≤ g ∧ g < w.heap.size ∧ zs.length ≤ cap ∧ cap ≤ maxLen ∧ ∀ j, j < zs.length → w.cell? ⟨g, 0 + j, none⟩ = some (.int .u8 (zs.getD j 0)) := by
  have hN := lenBuf h
  rw [cI_length] at hN
  subst hN
  rcases h.1.2 with ⟨h1, h2⟩ | ⟨g, cap, cur, fz, h1, h2, h3, h4, h5, h6, h7⟩
  · omega
  · have hlt := (h.1.lt g (by rw [h1]; rfl)).2
    refine ⟨g, cap, h1, h2, hlt, h5, h6, fun j hj => ?_⟩
    have := h.1.cells (g := g) (by rw [h1]; rfl) j _ (cI_get zs j hj)
    rw [Addr.add_lit] at this
    exact this
end Go.Proofs.Qxb6000883aMods
