import Derived.Test.YbulkabdwMsg
namespace Go.Proofs.Ybulkabdw
open Go.RowKit

/-- a header and a tail, as one row of bytes -/
def zOf (H T : Nat → Int) (j : Nat) : Int := if j < 20 then H j else T (j - 20)
theorem zOf_tail (H T : Nat → Int) : (fun j => zOf H T (20 + j)) = T := by
  funext j
  unfold zOf
  rw [if_neg (by omega), Nat.add_sub_cancel_left]

/-- the message's cells, by the header's bytes -/
def headCells (H : Nat → Int) (v : Value) : Array Value :=
  #[.int .u8 (H 4), .int .u32 (be3 (H 5) (H 6) (H 7)), .int .u32 (codeAt H 8), .int .u32 (codeAt H 12), .int .u32 (codeAt H 16), v, .nilFunc]
theorem msgCells_zOf (H T : Nat → Int) (v : Value) : msgCells (zOf H T) v = headCells H v := by simp [msgCells, headCells, codeAt, zOf]

/-- how parseMessage ends over a header H and a tail T of 'len' bytes -/
structure Read (g cap len : Nat) (H T : Nat → Int) (w w' : World) (K mb : Nat) (v er : Value) : Prop where
  new : w.heap.size ≤ mb
  cells : w'.heap[mb]? = some (.cells (headCells H v) 39 (0, 0))
  own : w'.ownsRow w.heap.size 41 4 v K (avpsCells g 20 (cap - 20) T K)
  below : Below w.heap.size w w'
  good : ∀ i, i < K → Good T len (chain T i)
  fin : (er = .nilIface ∧ len ≤ chain T K) ∨ ∃ eb : Nat, er = .iface 46 (.pointer (some ⟨eb, 0, none⟩)) ∧ w.heap.size ≤ eb ∧
      (∃ fl vd dv, w'.heap[eb]? = some (.cells #[.int .u32 (if len - chain T K < 4 then 0 else codeAt T (chain T K)), fl, vd, dv] 49 (0, 0))) ∧ chain T K < len ∧ ¬ Good T len (chain T K)

theorem parse_read (g cap len : Nat) (H T : Nat → Int) (w : World) (hlc : 20 + len ≤ cap) (hlen : len ≤ 1099511627000) (hcap : cap ≤ 9223372036854775807) (hH : Bytes H) (hT : Bytes T) (hg : g < w.heap.size)
    (hc : ∀ j, j < 20 + len → w.cell? ⟨g, j, none⟩ = some (.int .u8 (zOf H T j))) :
    Calls Yba.prog 6 #[.slice (some ⟨g, 0, none⟩) (20 + len) cap] w fun e w' => ∃ K mb v er, e = .returned (.tuple #[.pointer (some ⟨mb, 0, none⟩), er]) ∧ Read g cap len H T w w' K mb v er := by
  refine (parseMessage_any g 0 (20 + len) cap (zOf H T) w (by omega) hlc (by omega) hcap (fun j => by unfold zOf; split <;> first | exact hH _ | exact hT _) hg (fun j hj => by rw [Nat.zero_add]; exact hc j hj)).mono fun e w' h => ?_
  obtain ⟨K, mb, v, er, he, h1, h2, h3, h4, h5, h6⟩ := h
  simp only [zOf_tail, msgCells_zOf, Nat.zero_add, Nat.add_sub_cancel_left] at h2 h3 h5 h6
  exact ⟨K, mb, v, er, he, h1, h2, h3, h4, h5, h6⟩

/-! ### reading the AVPs' cells -/
theorem avpsCells_length (g o cap : Nat) (B : Nat → Int) : ∀ K, (avpsCells g o cap B K).length = 4 * K
  | 0 => rfl
  | K + 1 => by rw [avpsCells_succ, List.length_append, avpsCells_length g o cap B K]; rfl
theorem avps_get (g o cap : Nat) (B : Nat → Int) (k j : Nat) (hj : j < 4) : ∀ K, k < K → (avpsCells g o cap B K)[4 * k + j]? = (avpCells g o cap B (chain B k))[j]?
  | 0, h => by omega
  | K + 1, h => by
    rw [avpsCells_succ]
    rcases Nat.lt_or_ge k K with hk | hk
    · rw [List.getElem?_append_left (by rw [avpsCells_length]; omega)]
      exact avps_get g o cap B k j hj K hk
    · obtain rfl : k = K := by omega
      rw [List.getElem?_append_right (by rw [avpsCells_length]; omega), avpsCells_length, Nat.add_sub_cancel_left]

theorem own_shape {w : World} {base e size n : Nat} {v : Value} {xs : List Value} (h : w.ownsRow base e size v n xs) (hn : 0 < n) : ∃ g3 c3, v = .slice (some ⟨g3, 0, none⟩) n c3 ∧ base ≤ g3 ∧ g3 < w.heap.size := by
  rcases h.2 with ⟨_, h0⟩ | ⟨g3, c3, cur, hv, hb, hh, _⟩
  · omega
  · exact ⟨g3, c3, hv, hb, lt_of_block hh⟩

theorem avp_cells {w : World} {base g o cap K g3 c3 : Nat} {B : Nat → Int} (h : w.ownsRow base 41 4 (.slice (some ⟨g3, 0, none⟩) K c3) K (avpsCells g o cap B K)) (k : Nat) (hk : k < K) :
    w.cell? ⟨g3, k * 4, none⟩ = some (.int .u32 (codeAt B (chain B k))) ∧ w.cell? ⟨g3, k * 4 + 1, none⟩ = some (.int .u8 (B (chain B k + 4))) ∧ w.cell? ⟨g3, k * 4 + 2, none⟩ = some (.int .u32 (vendAt B (chain B k))) ∧
      w.cell? ⟨g3, k * 4 + 3, none⟩ = some (dataV g o cap B (chain B k)) := by
  rw [Nat.mul_comm k 4]
  exact ⟨(h.cellAt (4 * k) (by omega)).trans (avps_get g o cap B k 0 (by omega) K hk), (h.cellAt (4 * k + 1) (by omega)).trans (avps_get g o cap B k 1 (by omega) K hk), (h.cellAt (4 * k + 2) (by omega)).trans (avps_get g o cap B k 2 (by omega) K hk),
    (h.cellAt (4 * k + 3) (by omega)).trans (avps_get g o cap B k 3 (by omega) K hk)⟩
end Go.Proofs.Ybulkabdw
