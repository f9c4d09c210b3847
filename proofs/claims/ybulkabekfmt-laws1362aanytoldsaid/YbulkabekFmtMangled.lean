import Derived.Test.YbulkabekFmtWalks
import Derived.Laws.BytesArg
namespace Go.Proofs.YbulkabekFmt
open Go.RowKit Go.Extern.Stop Go.Stop Go.Extern

theorem cell_alloc {w : World} {a : Addr} {v : Value} (h : w.cell? a = some v) (o : Obj) : (w.alloc o).cell? a = some v :=
  (((Below.refl w.heap.size w).alloc (Nat.le_refl _) o).cell (World.block_lt_of_cell? _ _ h)).trans h
theorem Tab.alloc {w : World} (h : Tab w) (o : Obj) : Tab (w.alloc o) := ⟨cell_alloc h.1 o, cell_alloc h.2.1 o, cell_alloc h.2.2.1 o, cell_alloc h.2.2.2.1 o, cell_alloc h.2.2.2.2 o⟩

theorem five {k : Nat} (h : k < 5) : k = 0 ∨ k = 1 ∨ k = 2 ∨ k = 3 ∨ k = 4 := by omega

theorem name_size (k : Nat) (h : k < 5) : 1 ≤ (nameB k).size ∧ (nameB k).size ≤ 18 := by
  rcases five h with rfl | rfl | rfl | rfl | rfl <;> decide

/-- a name without its last byte is none of the names -/
theorem dropped (k : Nat) (h : k < 5) : ∀ j, j < 5 → (nameB k).extract 0 ((nameB k).size - 1) ≠ nameB j := by
  intro j hj
  rcases five h with rfl | rfl | rfl | rfl | rfl <;> rcases five hj with rfl | rfl | rfl | rfl | rfl <;> decide +kernel

/-- a name with a byte more is none of the names -/
theorem added (k : Nat) (h : k < 5) (x : Int) : ∀ j, j < 5 → nameB k ++ strOfNums [x] ≠ nameB j := by
  intro j hj e
  have e2 : (nameB k ++ strOfNums [x]).data.toList = (nameB j).data.toList := by rw [e]
  rw [ByteArray.data_append] at e2
  rcases five h with rfl | rfl | rfl | rfl | rfl <;> rcases five hj with rfl | rfl | rfl | rfl | rfl <;> simp [nameB, strOfNums] at e2

set_option maxRecDepth 100000 in
set_option maxHeartbeats 400000 in
theorem drop_walk (F : Interp) (n x : Int) (w : World) (hn : 0 ≤ n ∧ n ≤ 255) (hF : F.answers w.tape) (hT : Tab w) :
    Calls Ybaf.prog 5 #[.int .u8 n, .int .u8 x, .bool true] w fun e w' => e = .returned (.bool true) ∧ Below w.heap.size w w' := by
  obtain ⟨k, hk, hk5⟩ : ∃ k : Nat, n % 5 = k ∧ k < 5 := ⟨(n % 5).toNat, by omega, by omega⟩
  have hN := name_any k hk5 w
  have hsz := name_size k hk5
  have hd := dropped k hk5
  have HD : Hid (∀ j, j < 5 → (nameB k).extract 0 ((nameB k).size - 1) ≠ nameB j) := hd
  have HT : Hid (Tab w) := hT
  clear hd hT
  go_enter Ybaf.func5, Ybaf.ntmps5
  go_wp2_with fail
  refine hN.mono ?_
  rintro e w1 ⟨rfl, rfl⟩
  go_wp2_with fail
  refine (parse_any F _ _ hF HT.out).mono ?_
  rintro e w2 ⟨hb, ⟨j, hj, hs, _, rfl⟩ | ⟨_, eb, rfl⟩⟩
  · exact absurd hs (HD.out j hj)
  · go_wp2_with fail
    go_ret
    exact ⟨by simp, hb⟩

theorem one_cell (w : World) (x : Int) : ∀ i, i < 1 → (w.alloc (.cells #[.int .u8 x] 5)).cell? ⟨w.heap.size, 0 + i, none⟩ = some (.int .u8 ([x].getD i 0)) := by
  intro i hi
  obtain rfl : i = 0 := by omega
  simp

set_option maxRecDepth 100000 in
set_option maxHeartbeats 400000 in
theorem add_walk (F : Interp) (n x : Int) (w : World) (hn : 0 ≤ n ∧ n ≤ 255) (hF : F.answers w.tape) (hT : Tab w) :
    Calls Ybaf.prog 5 #[.int .u8 n, .int .u8 x, .bool false] w fun e w' => e = .returned (.bool true) ∧ Below w.heap.size w w' := by
  obtain ⟨k, hk, hk5⟩ : ∃ k : Nat, n % 5 = k ∧ k < 5 := ⟨(n % 5).toNat, by omega, by omega⟩
  have hN := name_any k hk5 w
  have hsz := name_size k hk5
  have hd := added k hk5 x
  have HD : Hid (∀ j, j < 5 → nameB k ++ strOfNums [x] ≠ nameB j) := hd
  have HT : Hid (Tab w) := hT
  have hcv : (convert 25 9 (.slice (some ⟨w.heap.size, 0, none⟩) 1 1)).run Ybaf.prog (w.alloc (.cells #[.int .u8 x] 5)) = .ok (.string (strOfNums [x])) (w.alloc (.cells #[.int .u8 x] 5)) :=
    run_convert_bytes_arg (P := Ybaf.prog) (w.alloc (.cells #[.int .u8 x] 5)) 25 5 Ybaf.underlying25 Ybaf.underlying5 w.heap.size 0 1 1 [x] rfl (one_cell w x) 9 Ybaf.underlying9
  have hs1 : (strOfNums [x]).size = 1 := strOfNums_size [x]
  clear hd hT
  go_enter Ybaf.func5, Ybaf.ntmps5
  go_wp2_with fail
  refine hN.mono ?_
  rintro e w1 ⟨rfl, hw⟩
  obtain rfl := hw.symm
  go_wp2_with fail
  refine (parse_any F _ _ (by exact hF) (Tab.alloc HT.out _)).mono ?_
  rintro e w2 ⟨hb, ⟨j, hj, hs, _, rfl⟩ | ⟨_, eb, rfl⟩⟩
  · exact absurd hs (HD.out j hj)
  · go_wp2_with fail
    go_ret
    exact ⟨by simp, ((Below.refl w.heap.size w).alloc (Nat.le_refl _) _).trans (hb.mono (by simp))⟩

/-- LawS1362AMangled -/
theorem mangled_walk (F : Interp) (n x : Int) (d : Bool) (w : World) (hn : 0 ≤ n ∧ n ≤ 255) (hF : F.answers w.tape) (hT : Tab w) :
    Calls Ybaf.prog 5 #[.int .u8 n, .int .u8 x, .bool d] w fun e w' => e = .returned (.bool true) ∧ Below w.heap.size w w' := by
  cases d
  · exact add_walk F n x w hn hF hT
  · exact drop_walk F n x w hn hF hT
end Go.Proofs.YbulkabekFmt
