import Derived.Test.YbulkabocTable
import Derived.WalkKit
import Derived.ProofKit
import Derived.OpenShut
import Derived.ShutString
import Derived.ChangeOld
import Derived.Below
import Derived.Deep.Slices
namespace Go.Proofs.Ybulkaboc
open Go.ChangeShapes Go.WideShapes Go.ChangeAt Go.RowKit
set_option linter.unusedVariables false

theorem own : ownKnob Yba.prog.godebug = none := by kernel_rfl
theorem laidOut : laidOutB Yba.prog = true := by kernel_rfl
theorem Yba.cells3 : Yba.prog.cellsOf 3 = 1 := by kernel_rfl
theorem Yba.cells22 : Yba.prog.cellsOf 22 = 1 := by kernel_rfl
theorem Yba.cells24 : Yba.prog.cellsOf 24 = 13 := by kernel_rfl

theorem list13 {α : Type} {l : List α} (h : l.length = 13) : ∃ c0 c1 c2 c3 c4 c5 c6 c7 c8 c9 c10 c11 c12, l = [c0, c1, c2, c3, c4, c5, c6, c7, c8, c9, c10, c11, c12] := by
  match l, h with
  | [c0, c1, c2, c3, c4, c5, c6, c7, c8, c9, c10, c11, c12], _ => exact ⟨c0, c1, c2, c3, c4, c5, c6, c7, c8, c9, c10, c11, c12, rfl⟩

section
variable {H' : Type} {enc : TypeId × Value → H'} {W : World} {base : Nat} {spare : Nat → Bool} {held : Bool} {fuel : Nat}

/-- the thirteen numbers of the options -/
theorem opts_of {cs : List Value} {x : DataW H' × List MemPlace} (h : DataW.trod enc Yba.prog W base spare held fuel 24 cs = some x) :
    ∃ m0 m1 m2 m3 m4 m5 m6 m7 m8 m9 m10 m11 m12 : Int, cs = [.int .i64 m0, .int .i64 m1, .int .i64 m2, .int .i64 m3, .int .i64 m4, .int .i64 m5, .int .i64 m6, .int .i64 m7, .int .i64 m8, .int .i64 m9, .int .i64 m10, .int .i64 m11, .int .i64 m12] := by
  obtain ⟨xs, m, _, _, hcl, hxl, hx⟩ := DataW.trod_struct Yba.underlying24 h
  rw [Yba.cells24] at hcl
  obtain ⟨c0, c1, c2, c3, c4, c5, c6, c7, c8, c9, c10, c11, c12, rfl⟩ := list13 hcl
  obtain ⟨x0, x1, x2, x3, x4, x5, x6, x7, x8, x9, x10, x11, x12, rfl⟩ := list13 hxl
  have h0 := hx 0 _ rfl
  have h1 := hx 1 _ rfl
  have h2 := hx 2 _ rfl
  have h3 := hx 3 _ rfl
  have h4 := hx 4 _ rfl
  have h5 := hx 5 _ rfl
  have h6 := hx 6 _ rfl
  have h7 := hx 7 _ rfl
  have h8 := hx 8 _ rfl
  have h9 := hx 9 _ rfl
  have h10 := hx 10 _ rfl
  have h11 := hx 11 _ rfl
  have h12 := hx 12 _ rfl
  simp [Yba.cells3, Yba.cells22] at h0 h1 h2 h3 h4 h5 h6 h7 h8 h9 h10 h11 h12
  obtain ⟨n0, e0, _, w0⟩ := DataW.trod_int Yba.underlying3 h0
  obtain ⟨n1, e1, _, w1⟩ := DataW.trod_int Yba.underlying3 h1
  obtain ⟨n2, e2, _, w2⟩ := DataW.trod_int Yba.underlying3 h2
  obtain ⟨n3, e3, _, w3⟩ := DataW.trod_int Yba.underlying22 h3
  obtain ⟨n4, e4, _, w4⟩ := DataW.trod_int Yba.underlying22 h4
  obtain ⟨n5, e5, _, w5⟩ := DataW.trod_int Yba.underlying22 h5
  obtain ⟨n6, e6, _, w6⟩ := DataW.trod_int Yba.underlying22 h6
  obtain ⟨n7, e7, _, w7⟩ := DataW.trod_int Yba.underlying22 h7
  obtain ⟨n8, e8, _, w8⟩ := DataW.trod_int Yba.underlying3 h8
  obtain ⟨n9, e9, _, w9⟩ := DataW.trod_int Yba.underlying3 h9
  obtain ⟨n10, e10, _, w10⟩ := DataW.trod_int Yba.underlying3 h10
  obtain ⟨n11, e11, _, w11⟩ := DataW.trod_int Yba.underlying3 h11
  obtain ⟨n12, e12, _, w12⟩ := DataW.trod_int Yba.underlying22 h12
  simp at e0 e1 e2 e3 e4 e5 e6 e7 e8 e9 e10 e11 e12
  subst e0 e1 e2 e3 e4 e5 e6 e7 e8 e9 e10 e11 e12
  exact ⟨n0, n1, n2, n3, n4, n5, n6, n7, n8, n9, n10, n11, n12, rfl⟩
end

set_option maxRecDepth 100000 in
theorem table_lifted (os : Os) (started : os.Started) (H : Type) (enc : TypeId × Value → H) :
    ReturnsInHanded {} Yba.checked os 3 .any (Rows.lawS1380ATableSpec.pre6 enc Yba.prog Yba.f3 Rows.lawS1380ATableRow.domain false) (Rows.lawS1380ATableSpec.post enc Yba.prog Yba.f3 false true false false) := by
  refine returnsInHanded_of_change (C := Yba.checked) own started (by kernel_rfl) Yba.func3
    (ChangeSpec.witness6 (enc := enc) (C := Yba.checked) false ⟨#[], #[.agg #[.int .i64 0, .int .i64 0, .int .i64 0, .int .i64 0, .int .i64 0, .int .i64 0, .int .i64 0, .int .i64 0, .int .i64 0, .int .i64 0, .int .i64 0, .int .i64 0, .int .i64 0]], []⟩ 8 (by kernel_rfl) (by kernel_rfl) (by kernel_rfl) (by kernel_rfl)) ?_
  intro W base args ds gs before hval0 hW hcnd _
  have hval : ∀ (j : Nat) t v, Yba.f3.params[j]? = some t → args[j]? = some v → Value.okWide Yba.prog W .any base t v := hval0
  have hW' := hW
  obtain ⟨p, q, hA0, hV, rfl, hfz, hnd⟩ := hW
  have hA : DataW.TrodAll enc Yba.prog W 0 (fun _ => true) true Yba.f3.params.toList args.toList ds p := hA0
  rw [Yba.params3] at hA hval
  obtain ⟨v0, vs0, d0, ds0, p0, q0, hargs, rfl, rfl, h0, r0⟩ := trodAll_cons hA
  obtain ⟨rfl, rfl, rfl⟩ := trodAll_nil r0
  obtain rfl : args = #[v0] := by cases args; simp_all
  obtain ⟨rfl, rfl⟩ := trodVars_none hV
  have k0 := h0
  have lt0 : ∀ x ∈ p0, x.block < W.heap.size := by obtain ⟨m, hm⟩ := k0; exact DataW.trod_lt m _ _ _ hm
  obtain ⟨m0, m1, m2, m3, m4, m5, m6, m7, m8, m9, m10, m11, m12, rfl⟩ : ∃ m0 m1 m2 m3 m4 m5 m6 m7 m8 m9 m10 m11 m12 : Int, v0 = .agg #[.int .i64 m0, .int .i64 m1, .int .i64 m2, .int .i64 m3, .int .i64 m4, .int .i64 m5, .int .i64 m6, .int .i64 m7, .int .i64 m8, .int .i64 m9, .int .i64 m10, .int .i64 m11, .int .i64 m12] := by
    have h := hval 0 24 v0 rfl rfl
    simp only [Value.okWide, Yba.underlying24] at h
    obtain ⟨cs, rfl, _, _⟩ := h
    obtain ⟨fuel, hf⟩ := h0
    obtain ⟨m0, m1, m2, m3, m4, m5, m6, m7, m8, m9, m10, m11, m12, hcs⟩ := opts_of (cs := cs.toList) (by simpa [Value.cells] using hf)
    refine ⟨m0, m1, m2, m3, m4, m5, m6, m7, m8, m9, m10, m11, m12, ?_⟩
    obtain ⟨l⟩ := cs
    simp at hcs
    rw [hcs]
  clear hA0 hval0
  refine (table_walk m0 m1 m2 m3 m4 m5 m6 m7 m8 m9 m10 m11 m12 W).mono fun e W' ⟨he, bel⟩ => ?_
  subst he
  exact ⟨_, rfl, _, _, _, [], _, [], hW', trodAll_mk1 (shut_bool Yba.underlying4 _), (trodAll_cons_mk (Below.trod laidOut (by kernel_rfl) (of_decide_eq_true (by kernel_rfl)) k0 bel lt0) trodAll_mk0), rfl, bel.frame _, fun h => by cases h⟩

/-- THE STATEMENT -/
theorem table_proved : Rows.LawS1380ATableSaid :=
  OpenClaim.holds_of_wide 3 Yba.f3 rfl rfl rfl rfl rfl rfl rfl ⟨rfl, rfl, rfl, rfl, rfl⟩ rfl rfl rfl rfl rfl (by kernel_rfl) Yba.func3 (by kernel_rfl)
    (of_decide_eq_true (by kernel_rfl)) (by unfold Func.isWrapper; first | (rw [if_pos (by decide +kernel)]; kernel_rfl) | (rw [if_neg (by decide +kernel)]; exact ⟨rfl, rfl⟩))
    (fun os started H enc _ => table_lifted os started H enc)
end Go.Proofs.Ybulkaboc
