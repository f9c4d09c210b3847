import Derived.Test.YbulkabekCount
import Derived.ProofKit
import Derived.OpenShut
import Derived.ShutString
namespace Go.Proofs.Ybulkabek
open Go.ChangeShapes Go.WideShapes Go.ChangeAt Go.RowKit
set_option linter.unusedVariables false

theorem own : ownKnob Yba.prog.godebug = none := by kernel_rfl

theorem heap_last (w : World) (b : Obj) (n : Nat) (h : n = w.heap.size) : (w.alloc b).heap[n]? = some b := by
  subst h; exact heap_alloc_new w b

theorem below_drewN {b : Nat} {a w : World} (h : Below b a w) (k : Nat) : Below b a (w.drewN k) := ⟨h.os, h.tape, h.output, h.size, h.block⟩

set_option maxRecDepth 100000 in
set_option maxHeartbeats 1600000 in
theorem exact_fin (a b c d e i p : Int) (el co tr re fi : Bool) (w : World) (ha : I64 a) (hb : I64 b) (hc : I64 c) (hd : I64 d) (he : I64 e) (hfi : fin i p = fi) (hcase : (fi = true ∧ (i != 0) = true) ∨ (fi = true ∧ i = 0 ∧ (p != 0) = true) ∨ (fi = false ∧ i = 0 ∧ p = 0)) :
    Calls Yba.prog 3 #[.int .i64 a, .int .i64 b, .int .i64 c, .int .i64 d, .int .i64 e, .bool el, .bool co, .bool tr, .bool re, .int .u64 i, .int .u64 p] w fun en w' => en = .returned (.bool true) ∧ Below w.heap.size w w' := by
  have hcnt := count_any w.heap.size (w.heap.size + 1) a b c d e i p el co tr re ((w.alloc (.cells (chkA a b c d e) 35)).alloc (.cells (outA el co tr re i p) 56)) ha hb hc hd he
    ((Below.heap_alloc _ _ _ (by simp)).trans (heap_last _ _ _ rfl)) (heap_last _ _ _ (by simp))
  rw [hfi] at hcnt
  have HC := hide hcnt
  clear hcnt hfi ha hb hc hd he
  unfold chkA outA at HC
  rcases hcase with ⟨rfl, hi⟩ | ⟨rfl, rfl, hp⟩ | ⟨rfl, rfl, rfl⟩
  all_goals
    go_enter Yba.func3, Yba.ntmps3
    go_wp2_with fail
    refine HC.out.mono ?_
    rintro en w2 ⟨rfl, hK⟩
    have c12 := cell_blk hK.blk 12
    have c13 := cell_blk hK.blk 13
    have c14 := cell_blk hK.blk 14
    have c15 := cell_blk hK.blk 15
    have c16 := cell_blk hK.blk 16
    have hob := (hK.same.block (w.heap.size + 1) (by simp) (by simp)).trans (heap_last _ _ _ (by simp))
    have o28 := cell_blk hob 28
    have o29 := cell_blk hob 29
    have o30 := cell_blk hob 30
    have o31 := cell_blk hob 31
    have o32 := cell_blk hob 32
    have o33 := cell_blk hob 33
    simp only [chkA, List.getElem?_toArray, List.getElem?_cons_succ, List.getElem?_cons_zero] at o28 o29 o30 o31 o32 o33 c12 c13 c14 c15 c16
    have hcl := lt_of_block hK.blk
    have hol := lt_of_block hob
    have HK := hide hK
    clear hob hK
    have hbel : Below w.heap.size w w2 := (((Below.refl w.heap.size w).alloc (Nat.le_refl _) _).alloc (by simp) _).grown HK.out.same (by simp; omega) (fun k hk => by simp at hk; omega)
    go_wp2_with (go_at_call 6; refine (b2i_any _ _).mono ?_; rintro en w' ⟨rfl, hw⟩; obtain rfl := hw.symm)
    go_quiet (fail)
    go_wp2
    go_ret
    exact ⟨by simp, below_drewN (hbel.alloc hbel.size _) _⟩
theorem i64_of {n : Int} (h : (Lit.int .i64 n).wf = true) : I64 n := bounds_i64 h

theorem exact_walk (a0 : Int) (a1 : Int) (a2 : Int) (a3 : Int) (a4 : Int) (a5 : Bool) (a6 : Bool) (a7 : Bool) (a8 : Bool) (a9 : Int) (a10 : Int) (w0 : (Lit.int .i64 a0).wf = true) (w1 : (Lit.int .i64 a1).wf = true) (w2 : (Lit.int .i64 a2).wf = true) (w3 : (Lit.int .i64 a3).wf = true) (w4 : (Lit.int .i64 a4).wf = true) (w : World) :
    Calls Yba.prog 3 #[.int .i64 a0, .int .i64 a1, .int .i64 a2, .int .i64 a3, .int .i64 a4, .bool a5, .bool a6, .bool a7, .bool a8, .int .u64 a9, .int .u64 a10] w fun e w' => e = .returned (.bool true) ∧ Below w.heap.size w w' := by
  refine exact_fin a0 a1 a2 a3 a4 a9 a10 a5 a6 a7 a8 (fin a9 a10) w (i64_of w0) (i64_of w1) (i64_of w2) (i64_of w3) (i64_of w4) rfl ?_
  by_cases h1 : a9 = 0
  · by_cases h2 : a10 = 0
    · exact .inr (.inr ⟨by simp [fin, h1, h2], h1, h2⟩)
    · exact .inr (.inl ⟨by simp [fin, h2], h1, by simp [h2]⟩)
  · exact .inl ⟨by simp [fin, h1], by simp [h1]⟩

/-! ### the row's step: the shell's own text, with 'Below' for 'Grown' -/
set_option maxRecDepth 100000 in
theorem exact_lifted (os : Os) (started : os.Started) (H : Type) (enc : TypeId × Value → H) :
    ReturnsInHanded {} Yba.checked os 3 .any (Rows.lawS1362CExactSpec.pre6 enc Yba.prog Yba.f3 Rows.lawS1362CExactRow.domain false) (Rows.lawS1362CExactSpec.post enc Yba.prog Yba.f3 false true false false) := by
  refine returnsInHanded_of_change (C := Yba.checked) own started (by kernel_rfl) Yba.func3
    (ChangeSpec.witness6 (enc := enc) (C := Yba.checked) false ⟨#[], #[.int .i64 0, .int .i64 0, .int .i64 0, .int .i64 0, .int .i64 0, .bool false, .bool false, .bool false, .bool false, .int .u64 0, .int .u64 0], []⟩ 8 (by kernel_rfl) (by kernel_rfl) (by kernel_rfl) (by kernel_rfl)) ?_
  intro W base args ds gs before hval0 hW hcnd _
  have hval : ∀ (j : Nat) t v, Yba.f3.params[j]? = some t → args[j]? = some v → Value.okWide Yba.prog W .any base t v := hval0
  have hW' := hW
  obtain ⟨p, q, hA0, hV, rfl, hfz, hnd⟩ := hW
  have hA : DataW.TrodAll enc Yba.prog W 0 (fun _ => true) true Yba.f3.params.toList args.toList ds p := hA0
  rw [Yba.params3] at hA hval
  obtain ⟨v0, vs0, d0, ds0, p0, q0, hargs, rfl, rfl, h0, r0⟩ := trodAll_cons hA
  obtain ⟨v1, vs1, d1, ds1, p1, q1, rfl, rfl, rfl, h1, r1⟩ := trodAll_cons r0
  obtain ⟨v2, vs2, d2, ds2, p2, q2, rfl, rfl, rfl, h2, r2⟩ := trodAll_cons r1
  obtain ⟨v3, vs3, d3, ds3, p3, q3, rfl, rfl, rfl, h3, r3⟩ := trodAll_cons r2
  obtain ⟨v4, vs4, d4, ds4, p4, q4, rfl, rfl, rfl, h4, r4⟩ := trodAll_cons r3
  obtain ⟨v5, vs5, d5, ds5, p5, q5, rfl, rfl, rfl, h5, r5⟩ := trodAll_cons r4
  obtain ⟨v6, vs6, d6, ds6, p6, q6, rfl, rfl, rfl, h6, r6⟩ := trodAll_cons r5
  obtain ⟨v7, vs7, d7, ds7, p7, q7, rfl, rfl, rfl, h7, r7⟩ := trodAll_cons r6
  obtain ⟨v8, vs8, d8, ds8, p8, q8, rfl, rfl, rfl, h8, r8⟩ := trodAll_cons r7
  obtain ⟨v9, vs9, d9, ds9, p9, q9, rfl, rfl, rfl, h9, r9⟩ := trodAll_cons r8
  obtain ⟨v10, vs10, d10, ds10, p10, q10, rfl, rfl, rfl, h10, r10⟩ := trodAll_cons r9
  obtain ⟨rfl, rfl, rfl⟩ := trodAll_nil r10
  obtain rfl : args = #[v0, v1, v2, v3, v4, v5, v6, v7, v8, v9, v10] := by cases args; simp_all
  obtain ⟨rfl, rfl⟩ := trodVars_none hV
  obtain ⟨a0, rfl, rfl, rfl, w0⟩ := open_int Yba.underlying3 (hval 0 3 v0 rfl rfl) h0
  obtain ⟨a1, rfl, rfl, rfl, w1⟩ := open_int Yba.underlying3 (hval 1 3 v1 rfl rfl) h1
  obtain ⟨a2, rfl, rfl, rfl, w2⟩ := open_int Yba.underlying3 (hval 2 3 v2 rfl rfl) h2
  obtain ⟨a3, rfl, rfl, rfl, w3⟩ := open_int Yba.underlying3 (hval 3 3 v3 rfl rfl) h3
  obtain ⟨a4, rfl, rfl, rfl, w4⟩ := open_int Yba.underlying3 (hval 4 3 v4 rfl rfl) h4
  obtain ⟨a5, rfl, rfl, rfl⟩ := open_bool Yba.underlying4 (hval 5 4 v5 rfl rfl) h5
  obtain ⟨a6, rfl, rfl, rfl⟩ := open_bool Yba.underlying4 (hval 6 4 v6 rfl rfl) h6
  obtain ⟨a7, rfl, rfl, rfl⟩ := open_bool Yba.underlying4 (hval 7 4 v7 rfl rfl) h7
  obtain ⟨a8, rfl, rfl, rfl⟩ := open_bool Yba.underlying4 (hval 8 4 v8 rfl rfl) h8
  obtain ⟨a9, rfl, rfl, rfl, w9⟩ := open_int Yba.underlying22 (hval 9 22 v9 rfl rfl) h9
  obtain ⟨a10, rfl, rfl, rfl, w10⟩ := open_int Yba.underlying22 (hval 10 22 v10 rfl rfl) h10
  clear hA0 hval0
  simp only [List.append_nil] at hW'
  refine (exact_walk a0 a1 a2 a3 a4 a5 a6 a7 a8 a9 a10 w0 w1 w2 w3 w4 W).mono fun e W' ⟨he, hg⟩ => ?_
  subst he
  exact ⟨_, rfl, _, _, _, [], [], [], hW', trodAll_mk1 (shut_bool Yba.underlying4 _), (trodAll_cons_mk (shut_int Yba.underlying3 w0) (trodAll_cons_mk (shut_int Yba.underlying3 w1) (trodAll_cons_mk (shut_int Yba.underlying3 w2) (trodAll_cons_mk (shut_int Yba.underlying3 w3) (trodAll_cons_mk (shut_int Yba.underlying3 w4) (trodAll_cons_mk (shut_bool Yba.underlying4 _) (trodAll_cons_mk (shut_bool Yba.underlying4 _) (trodAll_cons_mk (shut_bool Yba.underlying4 _) (trodAll_cons_mk (shut_bool Yba.underlying4 _) (trodAll_cons_mk (shut_int Yba.underlying22 w9) (trodAll_cons_mk (shut_int Yba.underlying22 w10) trodAll_mk0))))))))))), rfl, hg.frame _, fun h => by cases h⟩

/-- THE STATEMENT -/
theorem exact_proved : Rows.LawS1362CExactSaid :=
  OpenClaim.holds_of_wide 3 Yba.f3 rfl rfl rfl rfl rfl rfl rfl ⟨rfl, rfl, rfl, rfl, rfl⟩ rfl rfl rfl rfl rfl (by kernel_rfl) Yba.func3 (by kernel_rfl)
    (of_decide_eq_true (by kernel_rfl)) (by unfold Func.isWrapper; first | (rw [if_pos (by decide +kernel)]; kernel_rfl) | (rw [if_neg (by decide +kernel)]; exact ⟨rfl, rfl⟩))
    (fun os started H enc _ => exact_lifted os started H enc)
end Go.Proofs.Ybulkabek
