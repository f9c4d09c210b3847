import Derived.Test.YbulkabekRows
import Derived.WalkKit
import Derived.WalkSpells
import Derived.Deep.QuietTactic
import Derived.BigQuiet
namespace Go.Proofs.Ybulkabek
open Go.RowKit

/-- a bool as a number -/
def b2 (b : Bool) : Int := if b then 1 else 0

/-- a checker of which only the counts are set -/
def chkA (a b c d e : Int) : Array Value := #[.int .i64 0, .int .u64 0, .int .i64 0, .int .i64 0, .bool false, .int .u8 0, .slice none 0 0, .bool false, .map none, .slice none 0 0, .slice none 0 0, .slice none 0 0, .int .i64 a, .int .i64 b, .int .i64 c, .int .i64 d, .int .i64 e]
/-- an outcome of which only the events are set -/
def outA (el co tr re : Bool) (i p : Int) : Array Value := #[.slice none 0 0, .slice none 0 0, .slice none 0 0, .int .u64 0, .int .i64 0, .slice none 0 0, .slice none 0 0, .slice none 0 0, .int .i64 0, .int .u64 0, .int .u8 0, .int .u64 0, .int .u64 0, .int .u64 0, .int .u64 0, .int .u64 0, .int .u64 0,
  .int .u64 0, .int .u64 0, .int .u64 0, .int .u64 0, .int .u64 0, .int .u64 0, .int .u64 0, .int .u64 0, .slice none 0 0, .pointer none, .bool false, .bool el, .bool co, .bool tr, .bool re, .int .u64 i, .int .u64 p, .slice none 0 0]

theorem cell_blk {w : World} {b : Nat} {cs : Array Value} {t : TypeId} (h : w.heap[b]? = some (.cells cs t (0, 0))) (j : Nat) : w.cell? ⟨b, j, none⟩ = cs[j]? := by simp [World.cell?, h]
theorem free_blk {w : World} {b : Nat} {cs : Array Value} {t : TypeId} (h : w.heap[b]? = some (.cells cs t (0, 0))) (j : Nat) : w.frozen? ⟨b, j, none⟩ = false := by simp [World.frozen?, h]

set_option maxHeartbeats 400000 in
theorem b2i_any (b : Bool) (w : World) : Calls Yba.prog 6 #[.bool b] w fun e w' => e = .returned (.int .i64 (b2 b)) ∧ w' = w := by
  cases b
  · go_enter Yba.func6, Yba.ntmps6
    go_wp2
    go_ret
    exact ⟨rfl, rfl⟩
  · go_enter Yba.func6, Yba.ntmps6
    go_wp2
    go_ret
    exact ⟨rfl, rfl⟩

theorem hide {p : Prop} (h : p) : Hid p := h

/-- any number of an int -/
def I64 (x : Int) : Prop := -9223372036854775808 ≤ x ∧ x ≤ 9223372036854775807
theorem wrap_I64 {x : Int} (h : I64 x) : wrap64 x = x := by unfold I64 at h; unfold wrap64; omega
theorem wrap_b2_false {x : Int} (h : I64 x) : wrap64 (x + b2 false) = x := by show wrap64 (x + 0) = x; rw [Int.add_zero]; exact wrap_I64 h

/-- behind count: the counts; all else as it was -/
structure Counted (w w' : World) (cb : Nat) (a b c d e : Int) : Prop where
  blk : w'.heap[cb]? = some (.cells (chkA a b c d e) 35 (0, 0))
  same : w.grownBy w' (some cb)

theorem grown_set {w w' : World} {cb : Nat} (h : w.grownBy w' (some cb)) (j : Nat) (v : Value) : w.grownBy (w'.setCell ⟨cb, j, none⟩ v) (some cb) :=
  ⟨h.os, h.tape, h.output, by simpa using h.size, fun k hk hne => (heap_setCell_other w' ⟨cb, j, none⟩ k v (fun e => hne (by rw [e]))).trans (h.block k hk hne)⟩

/-- is a checkpoint there? -/
def fin (i p : Int) : Bool := !(i == 0 && p == 0)

theorem Counted.setCell0 {w w' : World} {cb : Nat} {a b c d e x : Int} (h : Counted w w' cb a b c d e) : Counted w (w'.setCell ⟨cb, 12, none⟩ (.int .i64 x)) cb x b c d e := ⟨(heap_setCell_same w' cb 12 _ 35 _ h.blk).trans rfl, grown_set h.same _ _⟩
theorem Counted.setCell1 {w w' : World} {cb : Nat} {a b c d e x : Int} (h : Counted w w' cb a b c d e) : Counted w (w'.setCell ⟨cb, 13, none⟩ (.int .i64 x)) cb a x c d e := ⟨(heap_setCell_same w' cb 13 _ 35 _ h.blk).trans rfl, grown_set h.same _ _⟩
theorem Counted.setCell2 {w w' : World} {cb : Nat} {a b c d e x : Int} (h : Counted w w' cb a b c d e) : Counted w (w'.setCell ⟨cb, 14, none⟩ (.int .i64 x)) cb a b x d e := ⟨(heap_setCell_same w' cb 14 _ 35 _ h.blk).trans rfl, grown_set h.same _ _⟩
theorem Counted.setCell3 {w w' : World} {cb : Nat} {a b c d e x : Int} (h : Counted w w' cb a b c d e) : Counted w (w'.setCell ⟨cb, 15, none⟩ (.int .i64 x)) cb a b c x e := ⟨(heap_setCell_same w' cb 15 _ 35 _ h.blk).trans rfl, grown_set h.same _ _⟩
theorem Counted.setCell4 {w w' : World} {cb : Nat} {a b c d e x : Int} (h : Counted w w' cb a b c d e) : Counted w (w'.setCell ⟨cb, 16, none⟩ (.int .i64 x)) cb a b c d x := ⟨(heap_setCell_same w' cb 16 _ 35 _ h.blk).trans rfl, grown_set h.same _ _⟩

set_option maxRecDepth 100000 in
set_option maxHeartbeats 3200000 in
theorem count_any (cb ob : Nat) (a b c d e i p : Int) (el co tr re : Bool) (w : World) (ha : I64 a) (hb : I64 b) (hc : I64 c) (hd : I64 d) (he : I64 e) (hcb : w.heap[cb]? = some (.cells (chkA a b c d e) 35 (0, 0))) (hob : w.heap[ob]? = some (.cells (outA el co tr re i p) 56 (0, 0))) :
    Calls Yba.prog 5 #[.pointer (some ⟨cb, 0, none⟩), .pointer (some ⟨ob, 0, none⟩)] w fun en w' => en = .returned (.tuple #[]) ∧ Counted w w' cb (wrap64 (a + b2 el)) (wrap64 (b + b2 co)) (wrap64 (c + b2 tr)) (wrap64 (d + b2 re)) (wrap64 (e + b2 (fin i p))) := by
  have hne : ob ≠ cb := by rintro rfl; rw [hcb] at hob; simp at hob
  have o28 := cell_blk hob 28
  have o29 := cell_blk hob 29
  have o30 := cell_blk hob 30
  have o31 := cell_blk hob 31
  have o32 := cell_blk hob 32
  have o33 := cell_blk hob 33
  have c12 := cell_blk hcb 12
  have c13 := cell_blk hcb 13
  have c14 := cell_blk hcb 14
  have c15 := cell_blk hcb 15
  have c16 := cell_blk hcb 16
  have f12 := free_blk hcb 12
  have f13 := free_blk hcb 13
  have f14 := free_blk hcb 14
  have f15 := free_blk hcb 15
  have f16 := free_blk hcb 16
  simp only [outA, chkA, List.getElem?_toArray, List.getElem?_cons_succ, List.getElem?_cons_zero] at o28 o29 o30 o31 o32 o33 c12 c13 c14 c15 c16
  have K0 : Counted w w cb a b c d e := ⟨hcb, World.grownBy.refl _ _⟩
  clear hcb hob
  have za := hide (wrap_b2_false ha)
  have zb := hide (wrap_b2_false hb)
  have zc := hide (wrap_b2_false hc)
  have zd := hide (wrap_b2_false hd)
  have ze := hide (wrap_b2_false he)
  clear ha hb hc hd he
  by_cases hi : i = 0
  · subst hi
    by_cases hp : p = 0
    · subst hp
      rw [show fin 0 0 = false from rfl]
      cases el <;> cases co <;> cases tr <;> cases re
      all_goals
        go_enter Yba.func5, Yba.ntmps5
        go_wp2
        go_end0
        refine ⟨rfl, ?_⟩
        try rw [za.out]
        try rw [zb.out]
        try rw [zc.out]
        try rw [zd.out]
        try rw [ze.out]
        repeat (first | exact K0 | apply Counted.setCell4 | apply Counted.setCell3 | apply Counted.setCell2 | apply Counted.setCell1 | apply Counted.setCell0)
    · rw [show fin 0 p = true by simp [fin, hp]]
      cases el <;> cases co <;> cases tr <;> cases re
      all_goals
        go_enter Yba.func5, Yba.ntmps5
        go_wp2
        go_end0
        refine ⟨rfl, ?_⟩
        try rw [za.out]
        try rw [zb.out]
        try rw [zc.out]
        try rw [zd.out]
        try rw [ze.out]
        repeat (first | exact K0 | apply Counted.setCell4 | apply Counted.setCell3 | apply Counted.setCell2 | apply Counted.setCell1 | apply Counted.setCell0)
  · rw [show fin i p = true by simp [fin, hi]]
    cases el <;> cases co <;> cases tr <;> cases re
    all_goals
      go_enter Yba.func5, Yba.ntmps5
      go_wp2
      go_end0
      refine ⟨rfl, ?_⟩
      try rw [za.out]
      try rw [zb.out]
      try rw [zc.out]
      try rw [zd.out]
      try rw [ze.out]
      repeat (first | exact K0 | apply Counted.setCell4 | apply Counted.setCell3 | apply Counted.setCell2 | apply Counted.setCell1 | apply Counted.setCell0)
end Go.Proofs.Ybulkabek
