import Derived.Test.YbulkabdwRows
import Derived.Test.YbulkabdwPlain
import Derived.WalkKit
import Derived.WalkSpells
import Derived.Lib.EndianBits
import Derived.Lib.QuoteBits
import Derived.Laws.BytesArg
import Derived.Deep.QuietTactic
import Derived.BigQuiet
import Derived.Deep.Draws
namespace Go.Proofs.Ybulkabdw
open Go.RowKit

theorem or32 (i : Nat) (x y : Int) (hx0 : 0 ≤ x) (hx : x % 2 ^ i = 0) (hx1 : x < 4294967296) (hy0 : 0 ≤ y) (hy : y < 2 ^ i) (hy1 : y < 4294967296) : bits .or .u32 x y = x + y :=
  bits_join .u32 32 (by decide) wraps_u32 i x y hx0 hx (by omega) hy0 hy (by omega)

theorem or_be3 (a b c : Int) (ra : 0 ≤ a ∧ a ≤ 255) (rb : 0 ≤ b ∧ b ≤ 255) (rc : 0 ≤ c ∧ c ≤ 255) : bits .or .u32 (bits .or .u32 (a * 65536) (b * 256)) c = be3 a b c := by
  rw [or32 16 (a * 65536) (b * 256) (by omega) (by omega) (by omega) (by omega) (by omega) (by omega), or32 8 _ c (by omega) (by omega) (by omega) (by omega) (by omega) (by omega)]
  rfl

theorem or_be4 (a b c d : Int) (ra : 0 ≤ a ∧ a ≤ 255) (rb : 0 ≤ b ∧ b ≤ 255) (rc : 0 ≤ c ∧ c ≤ 255) (rd : 0 ≤ d ∧ d ≤ 255) :
    bits .or .u32 (bits .or .u32 (bits .or .u32 (a * 16777216) (b * 65536)) (c * 256)) d = be4 a b c d := by
  rw [or32 24 (a * 16777216) (b * 65536) (by omega) (by omega) (by omega) (by omega) (by omega) (by omega), or32 16 _ (c * 256) (by omega) (by omega) (by omega) (by omega) (by omega) (by omega),
    or32 8 _ d (by omega) (by omega) (by omega) (by omega) (by omega) (by omega)]
  rfl

theorem or_be4' (a b c d : Int) (ra : 0 ≤ a ∧ a ≤ 255) (rb : 0 ≤ b ∧ b ≤ 255) (rc : 0 ≤ c ∧ c ≤ 255) (rd : 0 ≤ d ∧ d ≤ 255) :
    bits .or .u32 (bits .or .u32 (bits .or .u32 d (c * 256)) (b * 65536)) (a * 16777216) = be4 a b c d := by
  rw [u32_or8 d (c * 256) (by omega) (by omega) (by omega) (by omega) (by omega), u32_or16 _ (b * 65536) (by omega) (by omega) (by omega) (by omega) (by omega),
    u32_or24 _ (a * 16777216) (by omega) (by omega) (by omega) (by omega) (by omega)]
  unfold be4
  omega

theorem or_be3i (a b c : Int) (ra : 0 ≤ a ∧ a ≤ 255) (rb : 0 ≤ b ∧ b ≤ 255) (rc : 0 ≤ c ∧ c ≤ 255) : bits .or .i64 (bits .or .i64 (a * 65536) (b * 256)) c = be3 a b c := by
  have hk : ∀ n : Int, 0 ≤ n → n < 2 ^ 40 → IntKind.i64.wrap n = n := by
    intro n h0 h1
    obtain ⟨m, rfl⟩ := Int.eq_ofNat_of_zero_le h0
    exact Lib.wrap_i64_small m (by omega)
  rw [bits_join .i64 40 (by decide) hk 16 (a * 65536) (b * 256) (by omega) (by omega) (by omega) (by omega) (by omega) (by omega), bits_join .i64 40 (by decide) hk 8 _ c (by omega) (by omega) (by omega) (by omega) (by omega) (by omega)]
  rfl

theorem cell_alloc {w : World} {a : Addr} {v : Value} (h : w.cell? a = some v) (o : Obj) : (w.alloc o).cell? a = some v :=
  (((Below.refl w.heap.size w).alloc (Nat.le_refl _) o).cell (World.block_lt_of_cell? _ _ h)).trans h

theorem ret_int {k : IntKind} {a b : Int} (h : a = b) : Ending.returned (.int k a) = .returned (.int k b) := by rw [h]

set_option maxHeartbeats 400000 in
theorem uint24_any (g o n c : Nat) (b0 b1 b2 : Int) (w : World) (hn : 3 ≤ n)
    (r0 : 0 ≤ b0 ∧ b0 ≤ 255) (r1 : 0 ≤ b1 ∧ b1 ≤ 255) (r2 : 0 ≤ b2 ∧ b2 ≤ 255)
    (c0 : w.cell? ⟨g, o, none⟩ = some (.int .u8 b0)) (c1 : w.cell? ⟨g, o + 1, none⟩ = some (.int .u8 b1)) (c2 : w.cell? ⟨g, o + 2, none⟩ = some (.int .u8 b2)) :
    Calls Yba.prog 9 #[.slice (some ⟨g, o, none⟩) n c] w fun e w' => e = .returned (.int .u32 (be3 b0 b1 b2)) ∧ ∃ k, w' = w.drewN k := by
  go_enter Yba.func9, Yba.ntmps9
  go_wp2
  go_quiet (fail)
  go_wp2
  go_ret
  exact ⟨ret_int (or_be3 b0 b1 b2 r0 r1 r2), _, rfl⟩

set_option maxHeartbeats 400000 in
theorem be_any (g o n c : Nat) (b0 b1 b2 b3 : Int) (w : World) (hn : 4 ≤ n)
    (r0 : 0 ≤ b0 ∧ b0 ≤ 255) (r1 : 0 ≤ b1 ∧ b1 ≤ 255) (r2 : 0 ≤ b2 ∧ b2 ≤ 255) (r3 : 0 ≤ b3 ∧ b3 ≤ 255)
    (c0 : w.cell? ⟨g, o, none⟩ = some (.int .u8 b0)) (c1 : w.cell? ⟨g, o + 1, none⟩ = some (.int .u8 b1)) (c2 : w.cell? ⟨g, o + 2, none⟩ = some (.int .u8 b2)) (c3 : w.cell? ⟨g, o + 3, none⟩ = some (.int .u8 b3)) :
    Calls Yba.prog 8 #[.slice (some ⟨g, o, none⟩) n c] w fun e w' => e = .returned (.int .u32 (be4 b0 b1 b2 b3)) ∧ ∃ k, w' = w.drewN k := by
  go_enter Yba.func8, Yba.ntmps8
  go_wp2
  go_quiet (fail)
  go_wp2
  go_ret
  exact ⟨ret_int (or_be4 b0 b1 b2 b3 r0 r1 r2 r3), _, rfl⟩

set_option maxHeartbeats 400000 in
theorem u32_any (g o n c : Nat) (b0 b1 b2 b3 : Int) (w : World) (hn : 4 ≤ n)
    (r0 : 0 ≤ b0 ∧ b0 ≤ 255) (r1 : 0 ≤ b1 ∧ b1 ≤ 255) (r2 : 0 ≤ b2 ∧ b2 ≤ 255) (r3 : 0 ≤ b3 ∧ b3 ≤ 255)
    (c0 : w.cell? ⟨g, o, none⟩ = some (.int .u8 b0)) (c1 : w.cell? ⟨g, o + 1, none⟩ = some (.int .u8 b1)) (c2 : w.cell? ⟨g, o + 2, none⟩ = some (.int .u8 b2)) (c3 : w.cell? ⟨g, o + 3, none⟩ = some (.int .u8 b3)) :
    Calls Yba.prog 10 #[.agg #[], .slice (some ⟨g, o, none⟩) n c] w fun e w' => e = .returned (.int .u32 (be4 b0 b1 b2 b3)) ∧ ∃ k, w' = (w.alloc (.cells #[] 52)).drewN k := by
  have d0 := cell_alloc c0 (.cells #[] 52)
  have d1 := cell_alloc c1 (.cells #[] 52)
  have d2 := cell_alloc c2 (.cells #[] 52)
  have d3 := cell_alloc c3 (.cells #[] 52)
  go_enter Yba.func10, Yba.ntmps10
  go_wp2
  go_quiet (fail)
  go_wp2
  go_ret
  exact ⟨ret_int (or_be4' b0 b1 b2 b3 r0 r1 r2 r3), _, rfl⟩

theorem and128 (f : Int) (r : 0 ≤ f ∧ f ≤ 255) : (bits .and .u8 f 128 != 0) = decide (128 ≤ f) := by
  obtain ⟨n, rfl⟩ := Int.eq_ofNat_of_zero_le r.1
  have e := u8_and_nat n 128 (by omega) (by omega)
  have e2 := nat_bit 7 n
  simp only [show (2 : Nat) ^ 7 = 128 from rfl] at e2
  rw [show ((128 : Nat) : Int) = (128 : Int) from rfl] at e
  rw [e, e2]
  by_cases h : 128 ≤ n
  · have : n / 128 % 2 = 1 := by omega
    simp [this]; omega
  · have : n / 128 % 2 = 0 := by omega
    simp [this]; omega

set_option maxHeartbeats 400000 in
theorem headerLen_any (cd fl vd : Int) (d : Value) (w : World) (r : 0 ≤ fl ∧ fl ≤ 255) :
    Calls Yba.prog 12 #[.agg #[.int .u32 cd, .int .u8 fl, .int .u32 vd, d]] w fun e w' => e = .returned (.int .i64 (hlN fl : Nat)) ∧ w' = w.alloc (.cells #[.int .u32 cd, .int .u8 fl, .int .u32 vd, d] 41) := by
  have h := and128 fl r
  by_cases h1 : 128 ≤ fl
  · simp only [h1, decide_true] at h
    go_enter Yba.func12, Yba.ntmps12
    go_wp2
    go_ret
    exact ⟨ret_int (by simp [hlN, h1]), rfl⟩
  · simp only [h1, decide_false] at h
    go_enter Yba.func12, Yba.ntmps12
    go_wp2
    go_ret
    exact ⟨ret_int (by unfold hlN; rw [if_neg (by omega)]; rfl), rfl⟩

theorem andNot_three (i : Nat) (h : i < 4294967296) : bits .andNot .i64 (i : Int) 3 = ((i / 4 * 4 : Nat) : Int) := by
  show IntKind.i64.wrap ((BitVec.ofInt 64 (i : Int) &&& ~~~BitVec.ofInt 64 ((3 : Nat) : Int)).toNat : Int) = _
  rw [BitVec.toNat_and, BitVec.toNat_not, ofInt_u64 i (by omega), ofInt_u64 3 (by omega)]
  have e : 2 ^ 64 - 1 - 3 = 18446744073709551612 := by decide
  rw [e, nat_hi64_2, Nat.mod_eq_of_lt (by omega)]
  exact Lib.wrap_i64_small _ (by omega)

set_option maxHeartbeats 400000 in
theorem padded_any (n : Nat) (w : World) (h : n < 4294967292) :
    Calls Yba.prog 13 #[.int .i64 n] w fun e w' => e = .returned (.int .i64 (pad n : Nat)) ∧ w' = w := by
  have e := andNot_three (n + 3) (by omega)
  rw [show ((n + 3 : Nat) : Int) = (n : Int) + 3 by omega, show (((n + 3) / 4 * 4 : Nat) : Int) = ((n : Int) + 3) / 4 * 4 by omega] at e
  go_enter Yba.func13, Yba.ntmps13
  go_wp2
  go_ret
  exact ⟨ret_int (by unfold pad; omega), rfl⟩

theorem convert_zero (w : World) (p : Option Addr) (c : Nat) : (convert 26 9 (.slice p 0 c)).run Yba.prog w = .ok (.string (strOfNums [])) w := by
  rw [run_convert_bytes_string w 26 9 5 _ 0 c Yba.underlying26 Yba.underlying5 Yba.underlying9]
  cases p <;> simp [Conv.bytesToString, loadCells]
  all_goals rfl

/-- n bytes xs, at an address where there is one -/
def BytesAt (w : World) (p : Option Addr) (xs : List Int) : Prop := 0 < xs.length → ∃ b o, p = some ⟨b, o, none⟩ ∧ ∀ i, i < xs.length → w.cell? ⟨b, o + i, none⟩ = some (.int .u8 (xs.getD i 0))

theorem convert_at {w : World} {p : Option Addr} {xs : List Int} (h : BytesAt w p xs) (n c : Nat) (hn : n = xs.length) : (convert 26 9 (.slice p n c)).run Yba.prog w = .ok (.string (strOfNums xs)) w := by
  subst hn
  rcases Nat.eq_zero_or_pos xs.length with h0 | h0
  · obtain rfl : xs = [] := List.eq_nil_of_length_eq_zero h0
    exact convert_zero w p c
  · obtain ⟨b, o, rfl, hc⟩ := h h0
    exact run_convert_bytes_arg (P := Yba.prog) w 26 5 Yba.underlying26 Yba.underlying5 b o xs.length c xs rfl hc 9 Yba.underlying9

set_option maxHeartbeats 400000 in
theorem equal_same (p q : Option Addr) (n c m d : Nat) (xs : List Int) (w : World) (hn : n = xs.length) (hm : m = xs.length) (hp : BytesAt w p xs) (hq : BytesAt w q xs) :
    Calls Yba.prog 7 #[.slice p n c, .slice q m d] w fun e w' => e = .returned (.bool true) ∧ w' = w := by
  have k1 := convert_at hp n c hn
  have k2 := convert_at hq m d hm
  clear hn hm
  go_enter Yba.func7, Yba.ntmps7
  go_wp2
  go_ret
  exact ⟨by simp, rfl⟩
end Go.Proofs.Ybulkabdw
