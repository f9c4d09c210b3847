import Derived.Test.YbulkabdwHead
namespace Go.Proofs.Ybulkabdw
open Go.RowKit
attribute [local go_sem] alloc_drewN setCell_drewN

theorem Yba.info5 : (Yba.prog.info? 5).map (fun i => (i.zero, i.size, i.bytes)) = some (some (.int .u8 0), 1, 1) := by kernel_rfl

/-- the twenty octets of a header -/
def headA (H : Nat → Int) : Array Value := #[.int .u8 (H 0), .int .u8 (H 1), .int .u8 (H 2), .int .u8 (H 3), .int .u8 (H 4), .int .u8 (H 5), .int .u8 (H 6), .int .u8 (H 7), .int .u8 (H 8), .int .u8 (H 9),
  .int .u8 (H 10), .int .u8 (H 11), .int .u8 (H 12), .int .u8 (H 13), .int .u8 (H 14), .int .u8 (H 15), .int .u8 (H 16), .int .u8 (H 17), .int .u8 (H 18), .int .u8 (H 19)]

set_option maxRecDepth 100000 in
set_option maxHeartbeats 400000 in
theorem raw_long (H : Nat → Int) (sa : Option Addr) (len cap : Nat) (w : World) (h : 4096 < len) (hlen : len ≤ 9223372036854775807) :
    Calls Yba.prog 4 #[.agg (headA H), .slice sa len cap] w fun e w' => e = .returned (.bool true) ∧ Below w.heap.size w w' := by
  unfold headA
  go_enter Yba.func4, Yba.ntmps4
  go_wp2
  go_ret
  exact ⟨rfl, (Below.refl _ _).alloc (Nat.le_refl _) _⟩

theorem cell_of_block {w : World} {b : Nat} {cs : Array Value} {t : TypeId} (h : w.heap[b]? = some (.cells cs t (0, 0))) (j : Nat) : w.cell? ⟨b, j, none⟩ = cs[j]? := by simp [World.cell?, h]

def tailL (T : Nat → Int) (len : Nat) : List Value := (List.range len).map fun j => .int .u8 (T j)
theorem tailL_get (T : Nat → Int) (len j : Nat) (h : j < len) : (tailL T len)[j]? = some (.int .u8 (T j)) := by simp [tailL, h]
theorem headL_get (H : Nat → Int) (j : Nat) (h : j < 20) : (headA H).toList[j]? = some (.int .u8 (H j)) := by
  have : ∀ j, j < 20 → (headA H).toList[j]? = some (.int .u8 (H j)) := by
    intro j h
    rcases (show j = 0 ∨ j = 1 ∨ j = 2 ∨ j = 3 ∨ j = 4 ∨ j = 5 ∨ j = 6 ∨ j = 7 ∨ j = 8 ∨ j = 9 ∨ j = 10 ∨ j = 11 ∨ j = 12 ∨ j = 13 ∨ j = 14 ∨ j = 15 ∨ j = 16 ∨ j = 17 ∨ j = 18 ∨ j = 19 from by omega) with
      rfl | rfl | rfl | rfl | rfl | rfl | rfl | rfl | rfl | rfl | rfl | rfl | rfl | rfl | rfl | rfl | rfl | rfl | rfl | rfl <;> rfl
  exact this j h

theorem head_cells {w : World} {b t : Nat} {H : Nat → Int} (h : w.heap[b]? = some (.cells (headA H) t (0, 0))) : ∀ j u, (headA H).toList[j]? = some u → w.cell? ((⟨b, 0, none⟩ : Addr).add j) = some u := by
  intro j u hj
  rw [Addr.add_lit, Nat.zero_add, cell_of_block h]
  simpa using hj
theorem head_one (H : Nat → Int) : ∀ u ∈ (headA H).toList, u.oneCell' = true := by
  intro u hu
  obtain ⟨j, hj, rfl⟩ := List.getElem_of_mem hu
  have h20 : j < 20 := hj
  have := headL_get H j h20
  rw [List.getElem?_eq_getElem hj] at this
  rw [Option.some.inj this]; rfl
theorem tail_one (T : Nat → Int) (len : Nat) : ∀ u ∈ tailL T len, u.oneCell' = true := by
  intro u hu
  simp only [tailL, List.mem_map] at hu
  obtain ⟨j, _, rfl⟩ := hu
  rfl

theorem tail_cells {w w2 : World} {sa : Option Addr} {len : Nat} {T : Nat → Int} (HS : Hid (0 < len → ∃ b o, sa = some ⟨b, o, none⟩ ∧ b < w.heap.size ∧ ∀ j, j < len → w.cell? ⟨b, o + j, none⟩ = some (.int .u8 (T j)))) (hb : Below w.heap.size w w2) :
    ∀ ad, sa = some ad → ∀ j u, (tailL T len)[j]? = some u → w2.cell? (ad.add j) = some u := by
  intro ad had j u hu
  have hj : j < len := by simpa [tailL] using (List.getElem?_eq_some_iff.1 hu).1
  obtain ⟨b, o, rfl, hbb, hc⟩ := HS.out (by omega)
  obtain rfl := Option.some.inj had
  rw [tailL_get T len j hj] at hu
  rw [Addr.add_lit, hb.cell (p := ⟨b, o + j, none⟩) hbb, hc j hj]
  exact hu

/-- the buffer that the law builds -/
theorem built {H T : Nat → Int} {len base g cap : Nat} {w3 : World} (h : w3.ownsRow base 5 1 (.slice (some ⟨g, 0, none⟩) (20 + len) cap) (20 + len) ((headA H).toList ++ tailL T len)) :
    ∀ j, j < 20 + len → w3.cell? ⟨g, j, none⟩ = some (.int .u8 (zOf H T j)) := by
  intro j hj
  rw [h.cellAt j (by omega)]
  unfold zOf
  have hl : (headA H).toList.length = 20 := rfl
  by_cases hj2 : j < 20
  · rw [if_pos hj2, List.getElem?_append_left (by omega), headL_get H j hj2]
  · rw [if_neg hj2, List.getElem?_append_right (by omega), hl, tailL_get T len (j - 20) (by omega)]

theorem assert_ptr (eb : Nat) (w : World) : (Instr.typeAssert (.iface 46 (.pointer (some ⟨eb, 0, none⟩))) 33 46 true).run Yba.prog w = .ok (.tuple #[.pointer (some ⟨eb, 0, none⟩), .bool true]) w := by kernel_rfl

theorem quiet_more {P : Program} {f : FuncId} {args : Array Value} {W : World} {c x : Nat} {v : Value} (h : Calls P f args (W.drewN (c + x)) fun e w' => e = .returned v ∧ ∃ m, w' = (W.drewN (c + x)).drewN m) :
    Calls P f args (W.drewN (c + x)) fun e w'' => e = .returned v ∧ ∃ n, w'' = W.drewN (c + n) :=
  h.mono fun _ _ ⟨he, m, hm⟩ => ⟨he, x + m, by rw [hm, World.drewN_drewN, Nat.add_assoc]⟩

theorem pad_bits (n m : Nat) (z : Int) (hz : z = (n : Int) + 3) (h : n < 4294967292) (hm : m = pad n) : bits .andNot .i64 z 3 = (m : Nat) := by
  subst hz; subst hm
  have e := andNot_three (n + 3) (by omega)
  rw [show ((n + 3 : Nat) : Int) = (n : Int) + 3 by omega] at e
  exact e
theorem chain_step {T : Nat → Int} {k p n m : Nat} (HP : Hid (p = chain T k)) (HN : Hid (nAt T p = n)) (HM : Hid (m = pad n)) : Value.int .i64 ((p : Int) + (m : Int)) = .int .i64 (chain T (k + 1) : Nat) := by
  rw [HM.out, ← HN.out]
  simp only [chain, ← HP.out]
  congr 1

theorem bytes_tail {wx : World} {b o p q d len : Nat} {T : Nat → Int} {A : Option Addr} (h : ∀ j, p + j < len → wx.cell? ⟨b, o + p + j, none⟩ = some (.int .u8 (T (p + j)))) (hd : p + q + d ≤ len) (hA : 0 < d → A = some ⟨b, o + p + q, none⟩) :
    BytesAt wx A ((List.range d).map fun j => T (p + q + j)) := by
  intro h0
  simp only [List.length_map, List.length_range] at h0
  refine ⟨b, o + p + q, hA h0, fun i hi => ?_⟩
  simp only [List.length_map, List.length_range] at hi
  rw [Nat.add_assoc (o + p), h (q + i) (by omega)]
  simp [List.getD, hi, Nat.add_assoc]

theorem bytes_buf {wx : World} {g p q d len : Nat} {H T : Nat → Int} {A : Option Addr} (h : ∀ j, j < 20 + len → wx.cell? ⟨g, j, none⟩ = some (.int .u8 (zOf H T j))) (hd : p + q + d ≤ len) (hA : 0 < d → A = some ⟨g, 20 + p + q, none⟩) :
    BytesAt wx A ((List.range d).map fun j => T (p + q + j)) := by
  intro h0
  simp only [List.length_map, List.length_range] at h0
  refine ⟨g, 20 + p + q, hA h0, fun i hi => ?_⟩
  simp only [List.length_map, List.length_range] at hi
  rw [h (20 + p + q + i) (by omega)]
  have e : 20 + p + q + i - 20 = p + q + i := by omega
  simp [List.getD, hi, zOf, e]
  omega

set_option maxRecDepth 100000 in
set_option maxHeartbeats 1600000 in
theorem raw_short (H T : Nat → Int) (sa : Option Addr) (len cap : Nat) (w : World) (hlen : len ≤ 4096) (hlc : len ≤ cap) (hcap : cap ≤ 9223372036854775807) (hH : Bytes H) (hT : Bytes T) (hnil : sa = none → len = 0 ∧ cap = 0)
    (hsa : 0 < len → ∃ b o, sa = some ⟨b, o, none⟩ ∧ b < w.heap.size ∧ ∀ j, j < len → w.cell? ⟨b, o + j, none⟩ = some (.int .u8 (T j))) :
    Calls Yba.prog 4 #[.agg (headA H), .slice sa len cap] w fun e w' => e = .returned (.bool true) ∧ Below w.heap.size w w' := by
  obtain ⟨i5, hi, hz0, hz1, hz2⟩ := info_parts Yba.info5
  have HS := hide hsa
  clear hsa
  unfold headA
  go_enter Yba.func4, Yba.ntmps4
  go_wp2_with (first | (at_make; (refine wpList_make_own _ rfl (.const (.int .i64 0)) (.tmp 24) 26 rfl (w.heap.size + 1) 5 i5 (.int .u8 0) 1 Yba.underlying26 hi hz0 hz1 .i64 .i64 _ (20 + len) rfl rfl (by omega) (by rw [hz2]; omega) (by unfold maxLen; omega) (by simp) ?_; intro w1 hown1a hgrow1; have hown1 : w1.ownsRow (w.heap.size + 1) 5 1 (.slice (some ⟨w.heap.size + 1, 0, none⟩) 0 (20 + len)) 0 [] := (by simpa using hown1a); clear hown1a; have hh1 := hide ((hgrow1.block w.heap.size (by simp) (by simp)).trans (heap_last _ _ _ rfl)); have hb1 : Below w.heap.size w w1 := ((Below.refl _ _).alloc (Nat.le_refl _) _).grown hgrow1 (by simp) (fun k hk => (by simp at hk)))) | (at_builtin; (refine wpList_append_fits _ rfl (.tmp 26) (.tmp 27) 26 rfl (w.heap.size + 1) 5 i5 1 Yba.underlying26 hi hz1 (w.heap.size + 1) 0 (20 + len) [] rfl hown1 ⟨w.heap.size, 0, none⟩ 20 20 (headA H).toList rfl rfl (head_cells (H := H) hh1.out) (head_one H) (by omega) ?_; intro w2 hown2 hgrow2; simp only [Nat.zero_add, List.nil_append] at hown2; have hb2 : Below w.heap.size w w2 := hb1.grown hgrow2 hb1.size (fun k hk => (by simp at hk; omega)); have hh2 := hide ((hgrow2.block w.heap.size (lt_of_block hh1.out) (by simp)).trans hh1.out))) | (at_builtin; (refine wpList_append_fits_any _ rfl (.tmp 29) (.tmp 30) 26 rfl (w.heap.size + 1) 5 i5 1 Yba.underlying26 hi hz1 (w.heap.size + 1) 20 (20 + len) _ rfl hown2 sa len cap (tailL T len) rfl (by simp [tailL]) hnil (tail_cells HS hb2) (tail_one T len) (by omega) ?_; intro w3 hown3 hgrow3; have hb3 : Below w.heap.size w w3 := hb2.grown hgrow3 hb2.size (fun k hk => (by simp at hk; omega)); have hh3 := hide ((hgrow3.block w.heap.size (lt_of_block hh2.out) (by simp)).trans hh2.out))))
  clear hgrow1 hgrow2 hgrow3 hown1 hown2 hh1 hh2 hb1 hb2
  have hs3 := hb3.size
  have hl3 := lt_of_block hh3.out
  refine (parse_read (w.heap.size + 1) (20 + len) len H T w3 (Nat.le_refl _) (by omega) (by omega) hH hT (by have := (hown3.lt _ rfl).2; omega) (built hown3)).mono ?_
  rintro e w4 ⟨K, mb, v, er, rfl, hr⟩
  have hh4 : w4.heap[w.heap.size]? = some (.cells (headA H) 44 (0, 0)) := (hr.below.block _ hl3).trans hh3.out
  have hHc : ∀ j, j < 20 → w4.cell? ⟨w.heap.size, j, none⟩ = some (.int .u8 (H j)) := fun j hj => (cell_of_block hh4 j).trans (by have := headL_get H j hj; simpa using this)
  have e4 := hHc 4 (by omega)
  have e5 := hHc 5 (by omega)
  have e6 := hHc 6 (by omega)
  have e7 := hHc 7 (by omega)
  have m0 : w4.cell? ⟨mb, 0, none⟩ = some (.int .u8 (H 4)) := cell_of_block hr.cells 0
  have m1 : w4.cell? ⟨mb, 1, none⟩ = some (.int .u32 (be3 (H 5) (H 6) (H 7))) := cell_of_block hr.cells 1
  have m2 : w4.cell? ⟨mb, 2, none⟩ = some (.int .u32 (codeAt H 8)) := cell_of_block hr.cells 2
  have m3 : w4.cell? ⟨mb, 3, none⟩ = some (.int .u32 (codeAt H 12)) := cell_of_block hr.cells 3
  have m4 : w4.cell? ⟨mb, 4, none⟩ = some (.int .u32 (codeAt H 16)) := cell_of_block hr.cells 4
  have m5 : w4.cell? ⟨mb, 5, none⟩ = some v := cell_of_block hr.cells 5
  have hcmd := or_be3 (H 5) (H 6) (H 7) (hH 5) (hH 6) (hH 7)
  have r5 : 0 ≤ H 5 ∧ H 5 ≤ 255 := hH 5
  have r6 : 0 ≤ H 6 ∧ H 6 ≤ 255 := hH 6
  have r7 : 0 ≤ H 7 ∧ H 7 ≤ 255 := hH 7
  have cU : ∀ (p : Nat), p + 4 ≤ 20 → ∀ (c k : Nat), Calls Yba.prog 8 #[.slice (some ⟨w.heap.size, p, none⟩) 4 c] (w4.drewN k) fun e w' => e = .returned (.int .u32 (codeAt H p)) ∧ ∃ m, w' = (w4.drewN k).drewN m := fun p hp c k =>
    be_any w.heap.size p 4 c _ _ _ _ (w4.drewN k) (by omega) (hH _) (hH _) (hH _) (hH _) (hHc p (by omega)) (hHc (p + 1) (by omega)) (hHc (p + 2) (by omega)) (hHc (p + 3) (by omega))
  have HU := hide cU
  have HHC := hide hHc
  have HH4 := hide hh4
  clear cU hHc hh4
  go_wp2_with fail
  go_quiet ((go_at_call 8; refine Calls.quiet_of (HU.out _ (by omega) _ _)))
  go_wp2
  clear HU hcmd e4 e5 e6 e7 m0 m1 m2 m3 m4 r5 r6 r7
  have hml : mb < w4.heap.size := lt_of_block hr.cells
  have HR := hide hr
  have HM5 := hide m5
  have HB := hide (built hown3)
  have hg34 := hr.below.size
  have hgl : w.heap.size + 1 < w3.heap.size := by have := (hown3.lt _ rfl).2; omega
  clear hown3 m5
  go_loopw [9, 10] (fun off i wr => ∃ k : Nat, k ≤ K ∧ i = .int .i64 k ∧ off = .int .i64 (chain T k : Nat) ∧ Below w4.heap.size w4 wr) (fun _ i _ => K - (intOf i).toNat)
  case atStart => exact ⟨0, by omega, rfl, rfl, ⟨rfl, rfl, rfl, Nat.le_refl _, fun _ _ => rfl⟩⟩
  case round =>
    obtain ⟨k, hk, rfl, rfl, hbr⟩ := hrel
    have hK := count_le T len K HR.out.good
    have hch := chain_le T len K k HR.out.good hk
    obtain ⟨p, hp⟩ : ∃ p, p = chain T k := ⟨_, rfl⟩
    rw [← hp] at hch ⊢
    have HP := hide hp
    clear hp hr
    by_cases hkl : k < K
    · have hgd := HR.out.good k hkl
      rw [← HP.out] at hgd
      obtain ⟨hg1, hg2, hg3⟩ := hgd
      obtain ⟨g3, c3, hv, hg3a, hg3b⟩ := own_shape HR.out.own (by omega)
      have hown4 := HR.out.own
      rw [hv] at hown4
      obtain ⟨a0, a1, a2, a3⟩ := avp_cells hown4 k hkl
      rw [← HP.out] at a0 a1 a2 a3
      have M5 : wr.cell? ⟨mb, 5, none⟩ = some (.slice (some ⟨g3, 0, none⟩) K c3) := (hbr.cell (p := ⟨mb, 5, none⟩) hml).trans (by rw [← hv]; exact HM5.out)
      rw [← hbr.cell (p := ⟨g3, _, none⟩) hg3b] at a0 a1 a2 a3
      have HV := hide hv
      clear hv hown4
      obtain ⟨b, o, hsa, hbb, htc⟩ := HS.out (by omega)
      subst hsa
      have hbw4 : Below w.heap.size w w4 := hb3.trans (HR.out.below.mono hs3)
      have hs4 := hbw4.size
      have hbwr : Below w.heap.size w wr := hbw4.trans (hbr.mono hs4)
      have hsr := hbr.size
      have htr : ∀ (wx : World), Below wr.heap.size wr wx → ∀ j, p + j < len → wx.cell? ⟨b, o + p + j, none⟩ = some (.int .u8 (T (p + j))) := fun wx hb j hj => by
        rw [hb.cell (p := ⟨b, o + p + j, none⟩) (by show b < wr.heap.size; omega), hbwr.cell (p := ⟨b, o + p + j, none⟩) hbb, Nat.add_assoc]
        exact htc _ hj
      have hbl : b < wr.heap.size := by omega
      have hgl4 : w.heap.size + 1 < wr.heap.size := by omega
      have HT := hide htr
      clear htr htc
      have t4 := HT.out wr (Below.refl _ _) 4 (by omega)
      have t5 := HT.out wr (Below.refl _ _) 5 (by omega)
      have t6 := HT.out wr (Below.refl _ _) 6 (by omega)
      have t7 := HT.out wr (Below.refl _ _) 7 (by omega)
      have r5 : 0 ≤ T (p + 5) ∧ T (p + 5) ≤ 255 := hT _
      have r6 : 0 ≤ T (p + 6) ∧ T (p + 6) ≤ 255 := hT _
      have r7 : 0 ≤ T (p + 7) ∧ T (p + 7) ≤ 255 := hT _
      have hor := or_be3i _ _ _ r5 r6 r7
      have cC : ∀ (wx : World), Below wr.heap.size wr wx → ∀ c, Calls Yba.prog 8 #[.slice (some ⟨b, o + p, none⟩) 4 c] wx fun e w' => e = .returned (.int .u32 (codeAt T p)) ∧ ∃ m, w' = wx.drewN m := fun wx hb c =>
        be_any b (o + p) 4 c _ _ _ _ wx (by omega) (hT _) (hT _) (hT _) (hT _) (by have := HT.out wx hb 0 (by omega); simpa using this) (HT.out wx hb 1 (by omega)) (HT.out wx hb 2 (by omega)) (HT.out wx hb 3 (by omega))
      have HC := hide cC
      clear cC
      obtain ⟨F, hF⟩ : ∃ F, F = T (p + 4) := ⟨_, rfl⟩
      have hFr : 0 ≤ F ∧ F ≤ 255 := by rw [hF]; exact hT _
      rw [← hF] at a1 t4 hg2
      have hand := and128 F hFr
      have np : ¬ cap = p := by omega
      have hbe := be3_range r5 r6 r7
      by_cases hv8 : 128 ≤ F
      · simp only [hv8, decide_true] at hand
        have hl12 : hlN F = 12 := by simp [hlN, hv8]
        rw [hl12] at hg2
        obtain ⟨d, hd⟩ : ∃ d, nAt T p = 12 + d := ⟨nAt T p - 12, by omega⟩
        have hd3 : be3 (T (p + 5)) (T (p + 6)) (T (p + 7)) = 12 + (d : Int) := by have : nAt T p = (be3 (T (p + 5)) (T (p + 6)) (T (p + 7))).toNat := rfl; omega
        rw [hd3] at hor
        have hdl : p + 12 + d ≤ len := by omega
        obtain ⟨D, cD, hDv, HD⟩ : ∃ (D : Option Addr) (cD : Nat), dataV (w.heap.size + 1) 20 (20 + len - 20) T p = .slice D d cD ∧ Hid (D = if len - p = 12 then some ⟨w.heap.size + 1, 20 + p, none⟩ else some ⟨w.heap.size + 1, 20 + p + 12, none⟩) := by
          refine ⟨_, len - p - 12, ?_, rfl⟩
          unfold dataV
          rw [← hF, hl12, hd, Nat.add_sub_cancel_left, Nat.add_sub_cancel_left]
        rw [hDv] at a3
        have hvend : vendAt T p = codeAt T (p + 8) := by unfold vendAt; rw [if_pos (by rw [← hF]; exact hv8)]; rfl
        have cV : ∀ (wx : World), Below wr.heap.size wr wx → ∀ c, Calls Yba.prog 8 #[.slice (some ⟨b, o + p + 8, none⟩) 4 c] wx fun e w' => e = .returned (.int .u32 (vendAt T p)) ∧ ∃ m, w' = wx.drewN m := fun wx hb c => by
          rw [hvend]
          exact be_any b (o + p + 8) 4 c _ _ _ _ wx (by omega) (hT _) (hT _) (hT _) (hT _) (HT.out wx hb 8 (by omega)) (HT.out wx hb 9 (by omega)) (HT.out wx hb 10 (by omega)) (HT.out wx hb 11 (by omega))
        have HCV := hide cV
        have n8 : ¬ cap - p = 8 := by omega
        have HD2 := hide hd
        have HF := hide hF
        clear cV hvend hd3 hDv hF hbe hl12 hd
        obtain ⟨A, hA⟩ : ∃ A : Addr, (if cap - p = 12 then some (⟨b, o + p, none⟩ : Addr) else some ⟨b, o + p + 12, none⟩) = some A := by split <;> exact ⟨_, rfl⟩
        have cE : ∀ (wx : World), Below wr.heap.size wr wx → ∀ c1 c2, Calls Yba.prog 7 #[.slice (some A) d c1, .slice D d c2] wx fun e w' => e = .returned (.bool true) ∧ w' = wx := fun wx hb c1 c2 =>
          equal_same (some A) D d c1 d c2 ((List.range d).map fun j => T (p + 12 + j)) wx (by simp) (by simp) (bytes_tail (HT.out wx hb) hdl (fun h => by rw [← hA, if_neg (by omega)]))
            (bytes_buf (H := H) (fun j hj => by
              rw [hb.cell (p := ⟨w.heap.size + 1, j, none⟩) hgl4, hbr.cell (p := ⟨w.heap.size + 1, j, none⟩) (by show w.heap.size + 1 < w4.heap.size; omega), HR.out.below.cell (p := ⟨w.heap.size + 1, j, none⟩) hgl]; exact HB.out j hj) hdl (fun h => by rw [HD.out, if_neg (by omega)]))
        have HE := hide cE
        obtain ⟨M, hM⟩ : ∃ M, M = pad (12 + d) := ⟨_, rfl⟩
        have hMl : M ≤ 12 + d + 3 := by have := pad_lt (12 + d); omega
        have hpb := pad_bits (12 + d) M (12 + (d : Int) + 3) (by omega) (by omega) hM
        have HM := hide hM
        clear hM
        clear cE
        go_wp2_with fail
        go_quiet ((go_at_call 8; refine Calls.quiet_of (HC.out _ (by repeat (first | exact Below.refl _ _ | refine below_drewN ?_ _ | refine Below.drew ?_ | refine below_alloc ?_ _)) _)))
        go_wp2_with fail
        go_quiet ((go_at_call 8; exact quiet_more (HCV.out _ (by repeat (first | exact Below.refl _ _ | refine below_drewN ?_ _ | refine Below.drew ?_ | refine below_alloc ?_ _)) _)))
        go_wp2_with fail
        go_quiet ((go_at_call 7; exact (HE.out _ (by repeat (first | exact Below.refl _ _ | refine below_drewN ?_ _ | refine Below.drew ?_ | refine below_alloc ?_ _)) _ _).mono fun e w' h => ⟨h.1, _, h.2⟩))
        go_wp2_with fail
        go_roundw
        case rel => exact ⟨k + 1, by omega, by go_num, chain_step HP HD2 HM, hbr.trans (Below.mono (by repeat (first | exact Below.refl _ _ | refine below_drewN ?_ _ | refine Below.drew ?_ | refine below_alloc ?_ _)) hsr)⟩
        case measure => simp [intOf]; omega
      · simp only [hv8, decide_false] at hand
        have hl8 : hlN F = 8 := by simp [hlN, hv8]
        have hvn : vendAt T p = 0 := by unfold vendAt; rw [if_neg (by rw [← hF]; exact hv8)]
        rw [hl8] at hg2
        obtain ⟨d, hd⟩ : ∃ d, nAt T p = 8 + d := ⟨nAt T p - 8, by omega⟩
        have hd3 : be3 (T (p + 5)) (T (p + 6)) (T (p + 7)) = 8 + (d : Int) := by have : nAt T p = (be3 (T (p + 5)) (T (p + 6)) (T (p + 7))).toNat := rfl; omega
        rw [hd3] at hor
        have hdl : p + 8 + d ≤ len := by omega
        obtain ⟨D, cD, hDv, HD⟩ : ∃ (D : Option Addr) (cD : Nat), dataV (w.heap.size + 1) 20 (20 + len - 20) T p = .slice D d cD ∧ Hid (D = if len - p = 8 then some ⟨w.heap.size + 1, 20 + p, none⟩ else some ⟨w.heap.size + 1, 20 + p + 8, none⟩) := by
          refine ⟨_, len - p - 8, ?_, rfl⟩
          unfold dataV
          rw [← hF, hl8, hd, Nat.add_sub_cancel_left, Nat.add_sub_cancel_left]
        rw [hDv] at a3
        rw [hvn] at a2
        have HD2 := hide hd
        have HF := hide hF
        clear hd3 hDv hvn hF hbe hl8 hd
        obtain ⟨A, hA⟩ : ∃ A : Addr, (if cap - p = 8 then some (⟨b, o + p, none⟩ : Addr) else some ⟨b, o + p + 8, none⟩) = some A := by split <;> exact ⟨_, rfl⟩
        have cE : ∀ (wx : World), Below wr.heap.size wr wx → ∀ c1 c2, Calls Yba.prog 7 #[.slice (some A) d c1, .slice D d c2] wx fun e w' => e = .returned (.bool true) ∧ w' = wx := fun wx hb c1 c2 =>
          equal_same (some A) D d c1 d c2 ((List.range d).map fun j => T (p + 8 + j)) wx (by simp) (by simp) (bytes_tail (HT.out wx hb) hdl (fun h => by rw [← hA, if_neg (by omega)]))
            (bytes_buf (H := H) (fun j hj => by
              rw [hb.cell (p := ⟨w.heap.size + 1, j, none⟩) hgl4, hbr.cell (p := ⟨w.heap.size + 1, j, none⟩) (by show w.heap.size + 1 < w4.heap.size; omega), HR.out.below.cell (p := ⟨w.heap.size + 1, j, none⟩) hgl]; exact HB.out j hj) hdl (fun h => by rw [HD.out, if_neg (by omega)]))
        have HE := hide cE
        obtain ⟨M, hM⟩ : ∃ M, M = pad (8 + d) := ⟨_, rfl⟩
        have hMl : M ≤ 8 + d + 3 := by have := pad_lt (8 + d); omega
        have hpb := pad_bits (8 + d) M (8 + (d : Int) + 3) (by omega) (by omega) hM
        have HM := hide hM
        clear hM
        clear cE
        go_wp2_with fail
        go_quiet ((go_at_call 8; refine Calls.quiet_of (HC.out _ (by repeat (first | exact Below.refl _ _ | refine below_drewN ?_ _ | refine Below.drew ?_ | refine below_alloc ?_ _)) _)))
        go_wp2_with fail
        go_quiet (fail)
        go_wp2_with fail
        go_quiet ((go_at_call 7; exact (HE.out _ (by repeat (first | exact Below.refl _ _ | refine below_drewN ?_ _ | refine Below.drew ?_ | refine below_alloc ?_ _)) _ _).mono fun e w' h => ⟨h.1, _, h.2⟩))
        go_wp2_with fail
        go_roundw
        case rel => exact ⟨k + 1, by omega, by go_num, chain_step HP HD2 HM, hbr.trans (Below.mono (by repeat (first | exact Below.refl _ _ | refine below_drewN ?_ _ | refine Below.drew ?_ | refine below_alloc ?_ _)) hsr)⟩
        case measure => simp [intOf]; omega
    · have hbw4 : Below w.heap.size w w4 := hb3.trans (HR.out.below.mono hs3)
      have hs4 := hbw4.size
      obtain rfl : k = K := by omega
      obtain ⟨vo, cv, hv⟩ : ∃ vo cv, v = .slice vo k cv := by
        rcases HR.out.own.2 with ⟨h, h0⟩ | ⟨g3, c3, _, h, _⟩
        · exact ⟨none, 0, by rw [h, h0]⟩
        · exact ⟨_, _, h⟩
      have M5 : wr.cell? ⟨mb, 5, none⟩ = some (.slice vo k cv) := (hbr.cell (p := ⟨mb, 5, none⟩) hml).trans (by rw [← hv]; exact HM5.out)
      have HV := hide hv
      clear hv
      have hfin := HR.out.fin
      rw [← HP.out] at hfin
      rcases hfin with ⟨rfl, hend⟩ | ⟨eb, rfl, heb, ⟨fl, vd, dv, hblk⟩, hend, hng⟩
      · go_wp2_with fail
        go_ret
        exact ⟨by simp, hbw4.trans (hbr.mono hs4)⟩
      · have hta := assert_ptr eb wr
        have hebl : eb < w4.heap.size := lt_of_block hblk
        have E0 : wr.cell? ⟨eb, 0, none⟩ = some (.int .u32 (if len - p < 4 then 0 else codeAt T p)) := (hbr.cell (p := ⟨eb, 0, none⟩) hebl).trans (cell_of_block hblk 0)
        obtain ⟨b, o, hsa, hbb, htc⟩ := HS.out (by omega)
        subst hsa
        have hbwr : Below w.heap.size w wr := hbw4.trans (hbr.mono hs4)
        have np : ¬ cap = p := by omega
        clear hblk hng
        by_cases h4 : len - p < 4
        · rw [if_pos h4] at E0
          clear htc
          go_wp2_with fail
          go_ret
          exact ⟨by simp, hbwr⟩
        · rw [if_neg h4] at E0
          have cC : ∀ c, Calls Yba.prog 8 #[.slice (some ⟨b, o + p, none⟩) 4 c] wr fun e w' => e = .returned (.int .u32 (codeAt T p)) ∧ ∃ m, w' = wr.drewN m := fun c =>
            be_any b (o + p) 4 c _ _ _ _ wr (by omega) (hT _) (hT _) (hT _) (hT _) ((hbwr.cell (p := ⟨b, o + p, none⟩) hbb).trans (htc p (by omega))) ((hbwr.cell (p := ⟨b, o + p + 1, none⟩) hbb).trans (by rw [Nat.add_assoc]; exact htc (p + 1) (by omega)))
              ((hbwr.cell (p := ⟨b, o + p + 2, none⟩) hbb).trans (by rw [Nat.add_assoc]; exact htc (p + 2) (by omega))) ((hbwr.cell (p := ⟨b, o + p + 3, none⟩) hbb).trans (by rw [Nat.add_assoc]; exact htc (p + 3) (by omega)))
          have HC := hide cC
          clear cC htc
          go_wp2_with (go_at_call 8; refine (HC.out _).mono ?_; rintro e w' ⟨rfl, m, rfl⟩)
          go_ret
          exact ⟨by simp, below_drewN hbwr _⟩
end Go.Proofs.Ybulkabdw
