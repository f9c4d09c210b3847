import Derived.Test.YbulkabdwHead
import Derived.Test.YbulkabdwEnc
import Derived.Laws.AppendOwnNone
namespace Go.Proofs.Ybulkabdw
open Go.RowKit
attribute [local go_sem] alloc_drewN setCell_drewN

theorem Yba.info5 : (Yba.prog.info? 5).map (fun i => (i.zero, i.size, i.bytes)) = some (some (.int .u8 0), 1, 1) := by kernel_rfl

/-- a row of bytes, as cells -/
def cellsOf (xs : List Int) : List Value := xs.map (Value.int .u8)
theorem cellsOf_app (xs ys : List Int) : cellsOf xs ++ cellsOf ys = cellsOf (xs ++ ys) := by simp [cellsOf]
theorem cellsOf_len (xs : List Int) : (cellsOf xs).length = xs.length := by simp [cellsOf]

/-- the buffer: L bytes xs at the head of block g, among the call's own blocks -/
def Buf (w : World) (base g c : Nat) (xs : List Int) : Prop := w.ownsRow base 5 1 (.slice (some ⟨g, 0, none⟩) xs.length c) xs.length (cellsOf xs)

/-- 'b = append(b, ..)', b the buffer, whatever is appended -/
theorem wpList_append_buf {w : World} {ops : Array Oper} {rest : List Oper} {o : Oper} {a : Act} {Q : Exit → Act → World → Prop} (hgd : o.guard = none) (s x : Operand)
    (ho : o.op = .call { callee := .builtin .append, args := #[s, x], argTypes := #[26, 26] })
    (base g c L : Nat) (xs : List Int) (hs : a.eval s = .slice (some ⟨g, 0, none⟩) L c) (hL : L = xs.length) (hown : Buf w base g c xs)
    (ao : Option Addr) (m c2 : Nat) (news : List Int) (hx : a.eval x = .slice ao m c2) (hm : m = news.length) (hnone : ao = none → m = 0 ∧ c2 = 0)
    (hnews : ∀ ad, ao = some ad → ∀ j, j < news.length → w.cell? (ad.add j) = some (.int .u8 (news.getD j 0))) (hbytes : xs.length + news.length ≤ 1099511627776) (hbase : base ≤ w.heap.size) (hpos : 0 < xs.length + news.length)
    (h : ∀ g' c' w', Buf w' base g' c' (xs ++ news) → w.grownBy w' (some g) → wpList Yba.prog ops Q rest (a.put o.dst (.slice (some ⟨g', 0, none⟩) (L + m) c')) w') : wpList Yba.prog ops Q (o :: rest) a w := by
  subst hL
  subst hm
  obtain ⟨i5, hi, hz0, hz1, hz2⟩ := info_parts Yba.info5
  have hlen : (xs ++ news).length = xs.length + news.length := List.length_append
  cases ao with
  | some ad =>
    refine wpList_append_own w hgd s x 26 ho base 5 i5 (.int .u8 0) 1 1 Yba.underlying26 hi hz0 hz1 hz2 rfl (by decide) _ xs.length (cellsOf xs) hs hown ad news.length c2 (cellsOf news) hx (by rw [cellsOf_len, Nat.mul_one]) ?_ (ints_oneCell .u8 news) (by unfold maxLen; omega) (by omega) hbase ?_
    · intro j u hu
      have hj : j < news.length := by simpa [cellsOf] using (List.getElem?_eq_some_iff.1 hu).1
      rw [hnews ad rfl j hj]
      simp [cellsOf, hj] at hu
      simp [List.getD, hj, hu]
    · intro v' w' hown' hgrow _
      obtain ⟨g', c', hv, _, _⟩ := own_shape hown' hpos
      subst hv
      refine h g' c' w' ?_ hgrow
      unfold Buf
      rw [hlen, ← cellsOf_app]
      exact hown'
  | none =>
    obtain ⟨h0, rfl⟩ := hnone rfl
    have hnil : news = [] := List.eq_nil_of_length_eq_zero h0
    subst hnil
    refine wpList_append_own_none hgd s x 26 ho base 5 i5 1 Yba.underlying26 hi _ xs.length (cellsOf xs) hs hown hx ?_
    have := h g c w (by simpa using hown) (World.grownBy.refl _ _)
    simpa using this

theorem Buf.lt {w : World} {base g c : Nat} {xs : List Int} (h : Buf w base g c xs) : base ≤ g ∧ g < w.heap.size := World.ownsRow.lt h g rfl
theorem Buf.alloc {w : World} {base g c : Nat} {xs : List Int} (h : Buf w base g c xs) (o : Obj) : Buf (w.alloc o) base g c xs := World.ownsRow.alloc h o
/-- the buffer's block is no block of another element type -/
theorem Buf.ne {w : World} {base g c : Nat} {xs : List Int} (h : Buf w base g c xs) {b t : Nat} {cs : Array Value} (hb : w.heap[b]? = some (.cells cs t (0, 0))) (ht : t ≠ 5) : b ≠ g := by
  rintro rfl
  rcases h.2 with ⟨h0, _⟩ | ⟨g', cap, cur, hv, _, hh, _⟩
  · cases h0
  · simp only [Value.slice.injEq, Option.some.injEq, Addr.mk.injEq] at hv
    rw [hv.1.1] at hb
    rw [hh] at hb
    simp at hb
    exact ht hb.2.symm

theorem cells_lit4 (w : World) (n : Nat) (x y z d : Int) (t : TypeId) (hn : n = w.heap.size) (W : World) (hW : W = w.alloc (.cells #[.int .u8 x, .int .u8 y, .int .u8 z, .int .u8 d] t)) :
    ∀ ad, some (⟨n, 0, none⟩ : Addr) = some ad → ∀ j, j < [x, y, z, d].length → W.cell? (ad.add j) = some (.int .u8 ([x, y, z, d].getD j 0)) := by
  subst hn; subst hW
  intro ad had j hj
  obtain rfl := Option.some.inj had
  rcases (show j = 0 ∨ j = 1 ∨ j = 2 ∨ j = 3 from by simp at hj; omega) with rfl | rfl | rfl | rfl <;> simp [Addr.add]

theorem grown_trans {a b c : World} {row : Option Nat} (h : a.grownBy b row) (k : b.grownBy c row) : a.grownBy c row :=
  ⟨k.os.trans h.os, k.tape.trans h.tape, k.output.trans h.output, Nat.le_trans h.size k.size, fun i hi hne => (k.block i (Nat.lt_of_lt_of_le hi h.size) hne).trans (h.block i hi hne)⟩

theorem bytes4_eq (x : Int) (h : 0 ≤ x ∧ x ≤ 4294967295) : [x / 16777216, x / 65536 % 256, x / 256 % 256, x % 256] = bytes4 x := by
  unfold bytes4
  rw [show x / 16777216 % 256 = x / 16777216 by omega]

set_option maxHeartbeats 400000 in
/-- zzs1361bput32 -/
theorem put32_any (base g c L : Nat) (xs : List Int) (x : Int) (w : World) (hx : 0 ≤ x ∧ x ≤ 4294967295) (hown : Buf w base g c xs) (hL : L = xs.length) (hb : xs.length ≤ 1099511627000) (hbase : base ≤ w.heap.size) :
    Calls Yba.prog 5 #[.slice (some ⟨g, 0, none⟩) L c, .int .u32 x] w fun e w' => ∃ g' c', e = .returned (.slice (some ⟨g', 0, none⟩) (L + 4) c') ∧ Buf w' base g' c' (xs ++ bytes4 x) ∧ w.grownBy w' (some g) := by
  have HL := hide hL
  have HX := hide (bytes4_eq x hx)
  clear hL
  go_enter Yba.func5, Yba.ntmps5
  go_wp2_with (at_builtin; refine wpList_append_buf rfl (.tmp 5) (.tmp 17) rfl base g c L xs rfl HL.out (hown.alloc _) _ 4 4 [x / 16777216, x / 65536 % 256, x / 256 % 256, x % 256] rfl rfl (by simp) (cells_lit4 w _ _ _ _ _ 5 rfl _ rfl) (by simp; omega) (by simp; omega) (by simp) ?_; intro g' c' w' hb' hg')
  go_ret
  exact ⟨g', c', rfl, by rw [← HX.out]; exact hb', grown_trans (World.grownBy_alloc _ _ _) hg'⟩
end Go.Proofs.Ybulkabdw
