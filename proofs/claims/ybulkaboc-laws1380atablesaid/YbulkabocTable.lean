import Derived.Test.YbulkabocLim
import Derived.Test.YbulkabocTest
import Derived.WalkKit
import Derived.WalkSpells
import Derived.Deep.QuietTactic
import Derived.BigQuiet
namespace Go.Proofs.Ybulkaboc
open Go.ChangeShapes Go.WideShapes Go.RowKit
set_option linter.unusedVariables false

set_option maxRecDepth 100000 in
set_option maxHeartbeats 3200000 in
theorem table_walk (m0 m1 m2 m3 m4 m5 m6 m7 m8 m9 m10 m11 m12 : Int) (w : World) : Calls Yba.prog 3 #[.agg #[.int .i64 m0, .int .i64 m1, .int .i64 m2, .int .i64 m3, .int .i64 m4, .int .i64 m5, .int .i64 m6, .int .i64 m7, .int .i64 m8, .int .i64 m9, .int .i64 m10, .int .i64 m11, .int .i64 m12]] w fun e w' => e = .returned (.bool true) ∧ Below w.heap.size w w' := by
  obtain ⟨cs, hcs⟩ : ∃ cs : Array Value, cs = #[.int .i64 m0, .int .i64 m1, .int .i64 m2, .int .i64 m3, .int .i64 m4, .int .i64 m5, .int .i64 m6, .int .i64 m7, .int .i64 m8, .int .i64 m9, .int .i64 m10, .int .i64 m11, .int .i64 m12] := ⟨_, rfl⟩
  have hi2 : ((w.alloc (.cells cs 24)).alloc (.cells cs 24)).heap[w.heap.size]? = some (.cells cs 24 (0, 0)) := (Below.heap_alloc _ _ _ (by simp)).trans (heap_last _ _ _ rfl)
  have ho2 : ((w.alloc (.cells cs 24)).alloc (.cells cs 24)).heap[w.heap.size + 1]? = some (.cells cs 24 (0, 0)) := heap_last _ _ _ (by simp)
  have hb2 : Below w.heap.size w ((w.alloc (.cells cs 24)).alloc (.cells cs 24)) := ((Below.refl _ _).alloc (Nat.le_refl _) _).alloc (by simp) _
  have hz2 : ((w.alloc (.cells cs 24)).alloc (.cells cs 24)).heap.size = w.heap.size + 2 := by simp
  rw [hcs] at hi2 ho2 hb2 hz2
  have HI := hide hi2
  have HO := hide ho2
  have HB := hide hb2
  have HZ := hide hz2
  clear hi2 ho2 hb2 hz2 hcs cs
  go_enter Yba.func3, Yba.ntmps3
  simp only [List.append_eq, List.cons_append, List.nil_append]
  rw [nm0_eq, nm1_eq, nm2_eq, nm3_eq, nm4_eq, nm5_eq, nm6_eq, nm7_eq, nm8_eq, nm9_eq, nm10_eq, nm11_eq, nm12_eq]
  go_wp2_with fail
  refine (limits_any (w.heap.size + 1) _).mono ?_
  rintro e w3 ⟨rfl, hb3, hl3⟩
  have z3 := hb3.size
  rw [HZ.out] at hl3 hb3 z3
  have hi3 := (hb3.block w.heap.size (by omega)).trans HI.out
  have ho3 := (hb3.block (w.heap.size + 1) (by omega)).trans HO.out
  have bel3 : Below w.heap.size w w3 := HB.out.trans (hb3.mono (by omega))
  have i0 := cell_blk hi3 0
  have o0 := cell_blk ho3 0
  have i1 := cell_blk hi3 1
  have o1 := cell_blk ho3 1
  have i2 := cell_blk hi3 2
  have o2 := cell_blk ho3 2
  have i3 := cell_blk hi3 3
  have o3 := cell_blk ho3 3
  have i4 := cell_blk hi3 4
  have o4 := cell_blk ho3 4
  have i5 := cell_blk hi3 5
  have o5 := cell_blk ho3 5
  have i6 := cell_blk hi3 6
  have o6 := cell_blk ho3 6
  have i7 := cell_blk hi3 7
  have o7 := cell_blk ho3 7
  have i8 := cell_blk hi3 8
  have o8 := cell_blk ho3 8
  have i9 := cell_blk hi3 9
  have o9 := cell_blk ho3 9
  have i10 := cell_blk hi3 10
  have o10 := cell_blk ho3 10
  have i11 := cell_blk hi3 11
  have o11 := cell_blk ho3 11
  have i12 := cell_blk hi3 12
  have o12 := cell_blk ho3 12
  simp only [List.getElem?_toArray, List.getElem?_cons_succ, List.getElem?_cons_zero] at i0 o0 i1 o1 i2 o2 i3 o3 i4 o4 i5 o5 i6 o6 i7 o7 i8 o8 i9 o9 i10 o10 i11 o11 i12 o12
  have hB := hide bel3
  obtain ⟨lb, hlb⟩ : ∃ lb, lb = w.heap.size + 2 + 1 := ⟨_, rfl⟩
  rw [HZ.out]
  rw [← hlb] at hl3 ⊢
  obtain ⟨sv, hsv⟩ : ∃ sv, sv = Value.slice (some ⟨lb, 0, none⟩) 13 13 := ⟨_, rfl⟩
  rw [← hsv]
  have HSV := hide hsv
  clear hsv
  go_wp2_with fail
  generalize Value.agg #[.int .i64 m0, .int .i64 m1, .int .i64 m2, .int .i64 m3, .int .i64 m4, .int .i64 m5, .int .i64 m6, .int .i64 m7, .int .i64 m8, .int .i64 m9, .int .i64 m10, .int .i64 m11, .int .i64 m12] = ag
  rw [HSV.out]
  clear i0 o0 i1 o1 i2 o2 i3 o3 i4 o4 i5 o5 i6 o6 i7 o7 i8 o8 i9 o9 i10 o10 i11 o11 i12 o12
  have HLB := hide hlb
  have H3 := hide hl3
  have lt3 : lb < w3.heap.size := lt_of_block hl3
  clear hb3 hl3 hi3 ho3 bel3 HI HO HB HZ hlb
  have a0_0 : w3.cell? ⟨lb, 0, none⟩ = some (.string nm0) := (cell_blk H3.out 0).trans rfl
  have a0_1 : w3.cell? ⟨lb, 1, none⟩ = some (.string us0) := (cell_blk H3.out 1).trans rfl
  have a0_2 : w3.cell? ⟨lb, 2, none⟩ = some (.iface 38 (.agg #[.pointer (some ⟨w.heap.size + 1, 0, none⟩), .int .i64 1])) := (cell_blk H3.out 2).trans rfl
  have a0_3 : w3.cell? ⟨lb, 3, none⟩ = some (.nilFunc) := (cell_blk H3.out 3).trans rfl
  go_simp
  go_wp2_with fail
  refine (count_ok nm0 us0 ⟨w.heap.size + 1, 0, none⟩ 1 w3).mono ?_
  rintro e v0 ⟨rfl, b0⟩
  have Hv0 := hide ((b0.block lb lt3).trans H3.out)
  have ltv0 : lb < v0.heap.size := lt_of_block Hv0.out
  have hBv0 := hide (hB.out.trans (b0.mono hB.out.size))
  clear a0_0 a0_1 a0_2 a0_3 b0 H3 lt3
  have a1_0 : v0.cell? ⟨lb, 4, none⟩ = some (.string nm1) := (cell_blk Hv0.out 4).trans rfl
  have a1_1 : v0.cell? ⟨lb, 5, none⟩ = some (.string us1) := (cell_blk Hv0.out 5).trans rfl
  have a1_2 : v0.cell? ⟨lb, 6, none⟩ = some (.iface 38 (.agg #[.pointer (some ⟨w.heap.size + 1, 1, none⟩), .int .i64 1])) := (cell_blk Hv0.out 6).trans rfl
  have a1_3 : v0.cell? ⟨lb, 7, none⟩ = some (.nilFunc) := (cell_blk Hv0.out 7).trans rfl
  go_wp2_with fail
  refine (count_ok nm1 us1 ⟨w.heap.size + 1, 1, none⟩ 1 v0).mono ?_
  rintro e v1 ⟨rfl, b1⟩
  have Hv1 := hide ((b1.block lb ltv0).trans Hv0.out)
  have ltv1 : lb < v1.heap.size := lt_of_block Hv1.out
  have hBv1 := hide (hBv0.out.trans (b1.mono hBv0.out.size))
  clear a1_0 a1_1 a1_2 a1_3 b1 Hv0 ltv0
  have a2_0 : v1.cell? ⟨lb, 8, none⟩ = some (.string nm2) := (cell_blk Hv1.out 8).trans rfl
  have a2_1 : v1.cell? ⟨lb, 9, none⟩ = some (.string us2) := (cell_blk Hv1.out 9).trans rfl
  have a2_2 : v1.cell? ⟨lb, 10, none⟩ = some (.iface 38 (.agg #[.pointer (some ⟨w.heap.size + 1, 2, none⟩), .int .i64 1])) := (cell_blk Hv1.out 10).trans rfl
  have a2_3 : v1.cell? ⟨lb, 11, none⟩ = some (.nilFunc) := (cell_blk Hv1.out 11).trans rfl
  go_wp2_with fail
  refine (count_ok nm2 us2 ⟨w.heap.size + 1, 2, none⟩ 1 v1).mono ?_
  rintro e v2 ⟨rfl, b2⟩
  have Hv2 := hide ((b2.block lb ltv1).trans Hv1.out)
  have ltv2 : lb < v2.heap.size := lt_of_block Hv2.out
  have hBv2 := hide (hBv1.out.trans (b2.mono hBv1.out.size))
  clear a2_0 a2_1 a2_2 a2_3 b2 Hv1 ltv1
  have a3_0 : v2.cell? ⟨lb, 12, none⟩ = some (.string nm3) := (cell_blk Hv2.out 12).trans rfl
  have a3_1 : v2.cell? ⟨lb, 13, none⟩ = some (.string us3) := (cell_blk Hv2.out 13).trans rfl
  have a3_2 : v2.cell? ⟨lb, 14, none⟩ = some (.iface 40 (.agg #[.pointer (some ⟨w.heap.size + 1, 3, none⟩)])) := (cell_blk Hv2.out 14).trans rfl
  have a3_3 : v2.cell? ⟨lb, 15, none⟩ = some (.nilFunc) := (cell_blk Hv2.out 15).trans rfl
  go_wp2_with fail
  refine (dur_ok nm3 us3 ⟨w.heap.size + 1, 3, none⟩ v2).mono ?_
  rintro e v3 ⟨rfl, b3⟩
  have Hv3 := hide ((b3.block lb ltv2).trans Hv2.out)
  have ltv3 : lb < v3.heap.size := lt_of_block Hv3.out
  have hBv3 := hide (hBv2.out.trans (b3.mono hBv2.out.size))
  clear a3_0 a3_1 a3_2 a3_3 b3 Hv2 ltv2
  have a4_0 : v3.cell? ⟨lb, 16, none⟩ = some (.string nm4) := (cell_blk Hv3.out 16).trans rfl
  have a4_1 : v3.cell? ⟨lb, 17, none⟩ = some (.string us4) := (cell_blk Hv3.out 17).trans rfl
  have a4_2 : v3.cell? ⟨lb, 18, none⟩ = some (.iface 40 (.agg #[.pointer (some ⟨w.heap.size + 1, 4, none⟩)])) := (cell_blk Hv3.out 18).trans rfl
  have a4_3 : v3.cell? ⟨lb, 19, none⟩ = some (.nilFunc) := (cell_blk Hv3.out 19).trans rfl
  go_wp2_with fail
  refine (dur_ok nm4 us4 ⟨w.heap.size + 1, 4, none⟩ v3).mono ?_
  rintro e v4 ⟨rfl, b4⟩
  have Hv4 := hide ((b4.block lb ltv3).trans Hv3.out)
  have ltv4 : lb < v4.heap.size := lt_of_block Hv4.out
  have hBv4 := hide (hBv3.out.trans (b4.mono hBv3.out.size))
  clear a4_0 a4_1 a4_2 a4_3 b4 Hv3 ltv3
  have a5_0 : v4.cell? ⟨lb, 20, none⟩ = some (.string nm5) := (cell_blk Hv4.out 20).trans rfl
  have a5_1 : v4.cell? ⟨lb, 21, none⟩ = some (.string us5) := (cell_blk Hv4.out 21).trans rfl
  have a5_2 : v4.cell? ⟨lb, 22, none⟩ = some (.iface 40 (.agg #[.pointer (some ⟨w.heap.size + 1, 5, none⟩)])) := (cell_blk Hv4.out 22).trans rfl
  have a5_3 : v4.cell? ⟨lb, 23, none⟩ = some (.nilFunc) := (cell_blk Hv4.out 23).trans rfl
  go_wp2_with fail
  refine (dur_ok nm5 us5 ⟨w.heap.size + 1, 5, none⟩ v4).mono ?_
  rintro e v5 ⟨rfl, b5⟩
  have Hv5 := hide ((b5.block lb ltv4).trans Hv4.out)
  have ltv5 : lb < v5.heap.size := lt_of_block Hv5.out
  have hBv5 := hide (hBv4.out.trans (b5.mono hBv4.out.size))
  clear a5_0 a5_1 a5_2 a5_3 b5 Hv4 ltv4
  have a6_0 : v5.cell? ⟨lb, 24, none⟩ = some (.string nm6) := (cell_blk Hv5.out 24).trans rfl
  have a6_1 : v5.cell? ⟨lb, 25, none⟩ = some (.string us6) := (cell_blk Hv5.out 25).trans rfl
  have a6_2 : v5.cell? ⟨lb, 26, none⟩ = some (.iface 40 (.agg #[.pointer (some ⟨w.heap.size + 1, 6, none⟩)])) := (cell_blk Hv5.out 26).trans rfl
  have a6_3 : v5.cell? ⟨lb, 27, none⟩ = some (.func (.func 8) #[] #[.pointer (some ⟨w.heap.size + 2, 0, none⟩)]) := (cell_blk Hv5.out 27).trans rfl
  go_wp2_with fail
  refine (durf_ok nm6 us6 ⟨w.heap.size + 1, 6, none⟩ (.func 8) #[] #[.pointer (some ⟨w.heap.size + 2, 0, none⟩)] v5).mono ?_
  rintro e v6 ⟨rfl, b6⟩
  have Hv6 := hide ((b6.block lb ltv5).trans Hv5.out)
  have ltv6 : lb < v6.heap.size := lt_of_block Hv6.out
  have hBv6 := hide (hBv5.out.trans (b6.mono hBv5.out.size))
  clear a6_0 a6_1 a6_2 a6_3 b6 Hv5 ltv5
  have a7_0 : v6.cell? ⟨lb, 28, none⟩ = some (.string nm7) := (cell_blk Hv6.out 28).trans rfl
  have a7_1 : v6.cell? ⟨lb, 29, none⟩ = some (.string us7) := (cell_blk Hv6.out 29).trans rfl
  have a7_2 : v6.cell? ⟨lb, 30, none⟩ = some (.iface 40 (.agg #[.pointer (some ⟨w.heap.size + 1, 7, none⟩)])) := (cell_blk Hv6.out 30).trans rfl
  have a7_3 : v6.cell? ⟨lb, 31, none⟩ = some (.nilFunc) := (cell_blk Hv6.out 31).trans rfl
  go_wp2_with fail
  refine (dur_ok nm7 us7 ⟨w.heap.size + 1, 7, none⟩ v6).mono ?_
  rintro e v7 ⟨rfl, b7⟩
  have Hv7 := hide ((b7.block lb ltv6).trans Hv6.out)
  have ltv7 : lb < v7.heap.size := lt_of_block Hv7.out
  have hBv7 := hide (hBv6.out.trans (b7.mono hBv6.out.size))
  clear a7_0 a7_1 a7_2 a7_3 b7 Hv6 ltv6
  have a8_0 : v7.cell? ⟨lb, 32, none⟩ = some (.string nm8) := (cell_blk Hv7.out 32).trans rfl
  have a8_1 : v7.cell? ⟨lb, 33, none⟩ = some (.string us8) := (cell_blk Hv7.out 33).trans rfl
  have a8_2 : v7.cell? ⟨lb, 34, none⟩ = some (.iface 38 (.agg #[.pointer (some ⟨w.heap.size + 1, 8, none⟩), .int .i64 0])) := (cell_blk Hv7.out 34).trans rfl
  have a8_3 : v7.cell? ⟨lb, 35, none⟩ = some (.nilFunc) := (cell_blk Hv7.out 35).trans rfl
  go_wp2_with fail
  refine (count_ok nm8 us8 ⟨w.heap.size + 1, 8, none⟩ 0 v7).mono ?_
  rintro e v8 ⟨rfl, b8⟩
  have Hv8 := hide ((b8.block lb ltv7).trans Hv7.out)
  have ltv8 : lb < v8.heap.size := lt_of_block Hv8.out
  have hBv8 := hide (hBv7.out.trans (b8.mono hBv7.out.size))
  clear a8_0 a8_1 a8_2 a8_3 b8 Hv7 ltv7
  have a9_0 : v8.cell? ⟨lb, 36, none⟩ = some (.string nm9) := (cell_blk Hv8.out 36).trans rfl
  have a9_1 : v8.cell? ⟨lb, 37, none⟩ = some (.string us9) := (cell_blk Hv8.out 37).trans rfl
  have a9_2 : v8.cell? ⟨lb, 38, none⟩ = some (.iface 38 (.agg #[.pointer (some ⟨w.heap.size + 1, 9, none⟩), .int .i64 1])) := (cell_blk Hv8.out 38).trans rfl
  have a9_3 : v8.cell? ⟨lb, 39, none⟩ = some (.nilFunc) := (cell_blk Hv8.out 39).trans rfl
  go_wp2_with fail
  refine (count_ok nm9 us9 ⟨w.heap.size + 1, 9, none⟩ 1 v8).mono ?_
  rintro e v9 ⟨rfl, b9⟩
  have Hv9 := hide ((b9.block lb ltv8).trans Hv8.out)
  have ltv9 : lb < v9.heap.size := lt_of_block Hv9.out
  have hBv9 := hide (hBv8.out.trans (b9.mono hBv8.out.size))
  clear a9_0 a9_1 a9_2 a9_3 b9 Hv8 ltv8
  have a10_0 : v9.cell? ⟨lb, 40, none⟩ = some (.string nm10) := (cell_blk Hv9.out 40).trans rfl
  have a10_1 : v9.cell? ⟨lb, 41, none⟩ = some (.string us10) := (cell_blk Hv9.out 41).trans rfl
  have a10_2 : v9.cell? ⟨lb, 42, none⟩ = some (.iface 38 (.agg #[.pointer (some ⟨w.heap.size + 1, 10, none⟩), .int .i64 1])) := (cell_blk Hv9.out 42).trans rfl
  have a10_3 : v9.cell? ⟨lb, 43, none⟩ = some (.nilFunc) := (cell_blk Hv9.out 43).trans rfl
  go_wp2_with fail
  refine (count_ok nm10 us10 ⟨w.heap.size + 1, 10, none⟩ 1 v9).mono ?_
  rintro e v10 ⟨rfl, b10⟩
  have Hv10 := hide ((b10.block lb ltv9).trans Hv9.out)
  have ltv10 : lb < v10.heap.size := lt_of_block Hv10.out
  have hBv10 := hide (hBv9.out.trans (b10.mono hBv9.out.size))
  clear a10_0 a10_1 a10_2 a10_3 b10 Hv9 ltv9
  have a11_0 : v10.cell? ⟨lb, 44, none⟩ = some (.string nm11) := (cell_blk Hv10.out 44).trans rfl
  have a11_1 : v10.cell? ⟨lb, 45, none⟩ = some (.string us11) := (cell_blk Hv10.out 45).trans rfl
  have a11_2 : v10.cell? ⟨lb, 46, none⟩ = some (.iface 38 (.agg #[.pointer (some ⟨w.heap.size + 1, 11, none⟩), .int .i64 1])) := (cell_blk Hv10.out 46).trans rfl
  have a11_3 : v10.cell? ⟨lb, 47, none⟩ = some (.nilFunc) := (cell_blk Hv10.out 47).trans rfl
  go_wp2_with fail
  refine (count_ok nm11 us11 ⟨w.heap.size + 1, 11, none⟩ 1 v10).mono ?_
  rintro e v11 ⟨rfl, b11⟩
  have Hv11 := hide ((b11.block lb ltv10).trans Hv10.out)
  have ltv11 : lb < v11.heap.size := lt_of_block Hv11.out
  have hBv11 := hide (hBv10.out.trans (b11.mono hBv10.out.size))
  clear a11_0 a11_1 a11_2 a11_3 b11 Hv10 ltv10
  have a12_0 : v11.cell? ⟨lb, 48, none⟩ = some (.string nm12) := (cell_blk Hv11.out 48).trans rfl
  have a12_1 : v11.cell? ⟨lb, 49, none⟩ = some (.string us12) := (cell_blk Hv11.out 49).trans rfl
  have a12_2 : v11.cell? ⟨lb, 50, none⟩ = some (.iface 40 (.agg #[.pointer (some ⟨w.heap.size + 1, 12, none⟩)])) := (cell_blk Hv11.out 50).trans rfl
  have a12_3 : v11.cell? ⟨lb, 51, none⟩ = some (.nilFunc) := (cell_blk Hv11.out 51).trans rfl
  go_wp2_with fail
  refine (dur_ok nm12 us12 ⟨w.heap.size + 1, 12, none⟩ v11).mono ?_
  rintro e v12 ⟨rfl, b12⟩
  have Hv12 := hide ((b12.block lb ltv11).trans Hv11.out)
  have ltv12 : lb < v12.heap.size := lt_of_block Hv12.out
  have hBv12 := hide (hBv11.out.trans (b12.mono hBv11.out.size))
  clear a12_0 a12_1 a12_2 a12_3 b12 Hv11 ltv11
  go_wp2_with fail
  go_ret
  exact ⟨rfl, hBv12.out⟩
end Go.Proofs.Ybulkaboc
