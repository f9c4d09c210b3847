import Derived.Test.YbulkabdwParse
import Derived.Deep.CutRange
import Derived.Deep.DeepCutAuto
import Derived.Laws.EntriesVeiled
import Derived.Deep.RegionHeld3
namespace Go.Proofs.Ybulkabdw
open Go.RowKit
attribute [local go_sem] alloc_drewN setCell_drewN

/-- the message's own cells -/
def msgCells (Z : Nat → Int) (v : Value) : Array Value :=
  #[.int .u8 (Z 4), .int .u32 (be3 (Z 5) (Z 6) (Z 7)), .int .u32 (codeAt Z 8), .int .u32 (codeAt Z 12), .int .u32 (codeAt Z 16), v, .nilFunc]

/-- what parseMessage hands back -/
def MsgTo (g o L cap : Nat) (Z : Nat → Int) (w : World) (e : Ending) (w' : World) : Prop :=
  ∃ (K mb : Nat) (v er : Value), e = .returned (.tuple #[.pointer (some ⟨mb, 0, none⟩), er]) ∧ w.heap.size ≤ mb ∧ w'.heap[mb]? = some (.cells (msgCells Z v) 39 (0, 0)) ∧
    w'.ownsRow w.heap.size 41 4 v K (avpsCells g (o + 20) (cap - 20) (fun j => Z (20 + j)) K) ∧ Below w.heap.size w w' ∧ (∀ i, i < K → Good (fun j => Z (20 + j)) (L - 20) (chain (fun j => Z (20 + j)) i)) ∧
    ((er = .nilIface ∧ L - 20 ≤ chain (fun j => Z (20 + j)) K) ∨ ∃ eb : Nat, er = .iface 46 (.pointer (some ⟨eb, 0, none⟩)) ∧ w.heap.size ≤ eb ∧
      (∃ fl vd dv, w'.heap[eb]? = some (.cells #[.int .u32 (if L - 20 - chain (fun j => Z (20 + j)) K < 4 then 0 else codeAt (fun j => Z (20 + j)) (chain (fun j => Z (20 + j)) K)), fl, vd, dv] 49 (0, 0))) ∧
      chain (fun j => Z (20 + j)) K < L - 20 ∧ ¬ Good (fun j => Z (20 + j)) (L - 20) (chain (fun j => Z (20 + j)) K))

theorem own_base {w : World} {B B' e size n : Nat} {v : Value} {xs : List Value} (h : w.ownsRow B' e size v n xs) (hB : B ≤ B') : w.ownsRow B e size v n xs :=
  ⟨h.1, by
    rcases h.2 with h | ⟨g, cap, cur, a, b, c⟩
    · exact .inl h
    · exact .inr ⟨g, cap, cur, a, Nat.le_trans hB b, c⟩⟩

/-- behind parseAVPs its slice goes into the message's field -/
theorem msg_of {g o L cap mb : Nat} {Z : Nat → Int} {w W w2 : World} {K : Nat} {v er v0 : Value} (hmb : w.heap.size ≤ mb) (hmW : W.heap[mb]? = some (.cells (msgCells Z v0) 39 (0, 0))) (hbW : Below w.heap.size w W)
    (hown : w2.ownsRow W.heap.size 41 4 v K (avpsCells g (o + 20) (cap - 20) (fun j => Z (20 + j)) K)) (hb2 : Below W.heap.size W w2) (hgood : ∀ i, i < K → Good (fun j => Z (20 + j)) (L - 20) (chain (fun j => Z (20 + j)) i))
    (hend : (er = .nilIface ∧ L - 20 ≤ chain (fun j => Z (20 + j)) K) ∨ ∃ eb : Nat, er = .iface 46 (.pointer (some ⟨eb, 0, none⟩)) ∧ W.heap.size ≤ eb ∧
      (∃ fl vd dv, w2.heap[eb]? = some (.cells #[.int .u32 (if L - 20 - chain (fun j => Z (20 + j)) K < 4 then 0 else codeAt (fun j => Z (20 + j)) (chain (fun j => Z (20 + j)) K)), fl, vd, dv] 49 (0, 0))) ∧
      chain (fun j => Z (20 + j)) K < L - 20 ∧ ¬ Good (fun j => Z (20 + j)) (L - 20) (chain (fun j => Z (20 + j)) K)) :
    MsgTo g o L cap Z w (.returned (.tuple #[.pointer (some ⟨mb, 0, none⟩), er])) (w2.setCell ⟨mb, 5, none⟩ v) := by
  have hmlt : mb < W.heap.size := lt_of_block hmW
  have hm2 : w2.heap[mb]? = some (.cells (msgCells Z v0) 39 (0, 0)) := (hb2.block mb hmlt).trans hmW
  have hs := hbW.size
  refine ⟨K, mb, v, er, rfl, hmb, ?_, own_base (ownsRow_setCell_below hown (by exact hmlt) v) hs, (hbW.trans (hb2.mono hs)).setCell (by exact hmb) v, hgood, ?_⟩
  · exact (heap_setCell_same w2 mb 5 _ 39 v hm2).trans rfl
  · rcases hend with h | ⟨eb, h1, h2, ⟨fl, vd, dv, h3⟩, h4, h5⟩
    · exact .inl h
    · exact .inr ⟨eb, h1, by omega, ⟨fl, vd, dv, (heap_setCell_other w2 ⟨mb, 5, none⟩ eb v (by show eb ≠ mb; omega)).trans h3⟩, h4, h5⟩

set_option maxHeartbeats 1600000 in
theorem parseMessage_any (g o L cap : Nat) (Z : Nat → Int) (w : World) (hL : 20 ≤ L) (hlc : L ≤ cap) (hlen : L ≤ 1099511627776) (hcap : cap ≤ 9223372036854775807) (hZ : Bytes Z) (hg : g < w.heap.size)
    (hc : ∀ j, j < L → w.cell? ⟨g, o + j, none⟩ = some (.int .u8 (Z j))) :
    Calls Yba.prog 6 #[.slice (some ⟨g, o, none⟩) L cap] w fun e w' => MsgTo g o L cap Z w e w' := by
  have cN : ∀ (wx : World) (c : Nat), Below w.heap.size w wx → Calls Yba.prog 9 #[.slice (some ⟨g, o + 5, none⟩) 3 c] wx fun e w' => e = .returned (.int .u32 (be3 (Z 5) (Z 6) (Z 7))) ∧ ∃ k, w' = wx.drewN k := fun wx c hb =>
    uint24_any g (o + 5) 3 c _ _ _ wx (by omega) (hZ _) (hZ _) (hZ _) ((hb.cell hg).trans (hc 5 (by omega))) ((hb.cell hg).trans (hc 6 (by omega))) ((hb.cell hg).trans (hc 7 (by omega)))
  have cU : ∀ (p : Nat), p + 4 ≤ L → ∀ (wx : World) (c : Nat), Below w.heap.size w wx → Calls Yba.prog 10 #[.agg #[], .slice (some ⟨g, o + p, none⟩) 4 c] wx fun e w' => e = .returned (.int .u32 (codeAt Z p)) ∧ ∃ k, w' = (wx.alloc (.cells #[] 52)).drewN k := fun p hp wx c hb =>
    u32_any g (o + p) 4 c _ _ _ _ wx (by omega) (hZ _) (hZ _) (hZ _) (hZ _) ((hb.cell hg).trans (hc p (by omega))) ((hb.cell hg).trans (hc (p + 1) (by omega))) ((hb.cell hg).trans (hc (p + 2) (by omega))) ((hb.cell hg).trans (hc (p + 3) (by omega)))
  have c4 := hc 4 (by omega)
  have HN := hide cN
  have HU := hide cU
  have HC := hide hc
  have n5 : ¬ cap = 5 := by omega
  have n8 : ¬ cap = 8 := by omega
  have n12 : ¬ cap = 12 := by omega
  have n16 : ¬ cap = 16 := by omega
  have i4 : (4 : Int) < (L : Int) := by omega
  have i8 : (8 : Int) ≤ (cap : Int) := by omega
  have i12 : (12 : Int) ≤ (cap : Int) := by omega
  have i16 : (16 : Int) ≤ (cap : Int) := by omega
  have i20 : (20 : Int) ≤ (cap : Int) := by omega
  clear cN cU hc
  go_enter Yba.func6, Yba.ntmps6
  go_wp2
  go_region_held3 (fun w' => w'.cell? ⟨g, o + 4, none⟩ = some (.int .u8 (Z 4))) ((refine (Below.cell (B := w.heap.size) (w := w) ?_ hg).trans c4; repeat (first | exact Below.refl _ _ | refine below_drewN ?_ _ | refine Below.drew ?_ | refine below_alloc ?_ _))) (first | (go_at_call 9; refine (HN.out _ _ (by repeat (first | exact Below.refl _ _ | refine below_drewN ?_ _ | refine Below.drew ?_ | refine below_alloc ?_ _))).mono ?_; rintro e w1 ⟨rfl, k0, rfl⟩) | (go_at_call 10; refine (HU.out _ (by omega) _ _ (by repeat (first | exact Below.refl _ _ | refine below_drewN ?_ _ | refine Below.drew ?_ | refine below_alloc ?_ _))).mono ?_; rintro e w1 ⟨rfl, k1, rfl⟩))
  obtain ⟨A, hA, HA⟩ : ∃ A : Addr, (if cap = 20 then some (⟨g, o, none⟩ : Addr) else some ⟨g, o + 20, none⟩) = some A ∧ Hid (¬ cap = 20 → A = ⟨g, o + 20, none⟩) := by
    by_cases h : cap = 20
    · exact ⟨_, by rw [if_pos h], fun h' => absurd h h'⟩
    · exact ⟨_, by rw [if_neg h], fun _ => rfl⟩
  go_wp2_with (go_at_call 11; refine (parseAVPs_any g (o + 20) (L - 20) (cap - 20) (some A) (fun j => Z (20 + j)) _ (by omega) (by omega) (by omega) (fun j => hZ _) (fun h => ⟨by rw [HA.out (by omega)], by simp; omega⟩) (fun j hj => ((Below.cell (B := w.heap.size) (w := w) (by repeat (first | exact Below.refl _ _ | refine below_drewN ?_ _ | refine Below.drew ?_ | refine below_alloc ?_ _)) hg).trans (by rw [Nat.add_assoc]; exact HC.out (20 + j) (by omega)))) ).mono ?_; rintro e w2 ⟨K, v, er, rfl, hown2, hb2, hgood, hend⟩; have hm2 : w2.heap[w.heap.size + 3]? = some (.cells (msgCells Z (.slice none 0 0)) 39 (0, 0)) := (hb2.block _ (by simp)).trans (by rw [World.heap_drewN]; exact heap_last _ _ _ (by simp)); have hx5 : w2.cell? ⟨w.heap.size + 3, 5, none⟩ = some (.slice none 0 0) := (by simp [World.cell?, hm2, msgCells]); have hf5 : w2.frozen? ⟨w.heap.size + 3, 5, none⟩ = false := (by simp [World.frozen?, hm2]); have HM2 := hide hm2; clear hm2; obtain ⟨ao, n2, c2, hv⟩ : ∃ ao n2 c2, v = .slice ao n2 c2 := (by rcases hown2.2 with ⟨h, _⟩ | ⟨g3, cap3, _, h, _⟩ <;> exact ⟨_, _, _, h⟩); subst hv)
  go_ret2
  refine msg_of (v0 := .slice none 0 0) (by omega) ?_ ?_ hown2 hb2 hgood hend
  · rw [World.heap_drewN]; exact heap_last _ _ _ (by simp)
  · exact (by repeat (first | exact Below.refl _ _ | refine below_drewN ?_ _ | refine Below.drew ?_ | refine below_alloc ?_ _))
end Go.Proofs.Ybulkabdw
