import Derived.Test.YbulkabdwRt
import Derived.ProofKit
import Derived.OpenShut
import Derived.ShutString
import Derived.ChangeOld
import Derived.Below
import Derived.Deep.Slices
namespace Go.Proofs.Ybulkabdw
open Go.ChangeShapes Go.WideShapes Go.ChangeAt Go.RowKit
open Go.Deep (open_slice choose_lt)
set_option linter.unusedVariables false

theorem own : ownKnob Yba.prog.godebug = none := by kernel_rfl
theorem laidOut : laidOutB Yba.prog = true := by kernel_rfl
theorem Yba.cells5 : Yba.prog.cellsOf 5 = 1 := by kernel_rfl
theorem Yba.cells22 : Yba.prog.cellsOf 22 = 1 := by kernel_rfl
theorem Yba.cells24 : Yba.prog.cellsOf 24 = 5 := by kernel_rfl
theorem Yba.cells26 : Yba.prog.cellsOf 26 = 1 := by kernel_rfl
theorem Yba.cells28 : Yba.prog.cellsOf 28 = 4 := by kernel_rfl

theorem list5 {α : Type} {l : List α} (h : l.length = 5) : ∃ a b c d e, l = [a, b, c, d, e] := by
  match l, h with
  | [a, b, c, d, e], _ => exact ⟨a, b, c, d, e, rfl⟩
theorem list4 {α : Type} {l : List α} (h : l.length = 4) : ∃ a b c d, l = [a, b, c, d] := by
  match l, h with
  | [a, b, c, d], _ => exact ⟨a, b, c, d, rfl⟩

section
variable {H' : Type} {enc : TypeId × Value → H'} {W : World} {base : Nat} {spare : Nat → Bool} {held : Bool} {fuel : Nat}

/-- the header's five numbers -/
theorem head5_of {cs : List Value} {x : DataW H' × List MemPlace} (h : DataW.trod enc Yba.prog W base spare held fuel 24 cs = some x) :
    ∃ f cmd app hop e2e : Int, cs = [.int .u8 f, .int .u32 cmd, .int .u32 app, .int .u32 hop, .int .u32 e2e] ∧ (0 ≤ f ∧ f ≤ 255) ∧ (0 ≤ cmd ∧ cmd ≤ 4294967295) ∧ (0 ≤ app ∧ app ≤ 4294967295) ∧ (0 ≤ hop ∧ hop ≤ 4294967295) ∧ (0 ≤ e2e ∧ e2e ≤ 4294967295) := by
  obtain ⟨xs, m, _, _, hcl, hxl, hx⟩ := DataW.trod_struct Yba.underlying24 h
  rw [Yba.cells24] at hcl
  obtain ⟨c0, c1, c2, c3, c4, rfl⟩ := list5 hcl
  obtain ⟨x0, x1, x2, x3, x4, rfl⟩ := list5 hxl
  have h0 := hx 0 _ rfl
  have h1 := hx 1 _ rfl
  have h2 := hx 2 _ rfl
  have h3 := hx 3 _ rfl
  have h4 := hx 4 _ rfl
  simp [Yba.cells5, Yba.cells22] at h0 h1 h2 h3 h4
  obtain ⟨f, e0, _, w0⟩ := DataW.trod_int Yba.underlying5 h0
  obtain ⟨n1, e1, _, w1⟩ := DataW.trod_int Yba.underlying22 h1
  obtain ⟨n2, e2, _, w2⟩ := DataW.trod_int Yba.underlying22 h2
  obtain ⟨n3, e3, _, w3⟩ := DataW.trod_int Yba.underlying22 h3
  obtain ⟨n4, e4, _, w4⟩ := DataW.trod_int Yba.underlying22 h4
  simp at e0 e1 e2 e3 e4
  subst e0 e1 e2 e3 e4
  have b := bounds_u8 w0
  have b1 := bounds_u32 w1
  have b2 := bounds_u32 w2
  have b3 := bounds_u32 w3
  have b4 := bounds_u32 w4
  exact ⟨f, n1, n2, n3, n4, rfl, b, b1, b2, b3, b4⟩

/-- what one AVP that came in holds -/
structure One (W : World) (b o : Nat) (c f v : Int) (d : List Int) (da : Option Addr) (dc : Nat) : Prop where
  c0 : W.cell? ⟨b, o, none⟩ = some (.int .u32 c)
  c1 : W.cell? ⟨b, o + 1, none⟩ = some (.int .u8 f)
  c2 : W.cell? ⟨b, o + 2, none⟩ = some (.int .u32 v)
  c3 : W.cell? ⟨b, o + 3, none⟩ = some (.slice da d.length dc)
  nodata : da = none → d.length = 0 ∧ dc = 0
  data : 0 < d.length → ∃ db dof, da = some ⟨db, dof, none⟩ ∧ db < W.heap.size ∧ ∀ j, j < d.length → W.cell? ⟨db, dof + j, none⟩ = some (.int .u8 (d.getD j 0))
  size : d.length ≤ 9223372036854775807
  code : 0 ≤ c ∧ c ≤ 4294967295
  flag : 0 ≤ f ∧ f ≤ 255
  vend : 0 ≤ v ∧ v ≤ 4294967295
  byte : ∀ y ∈ d, 0 ≤ y ∧ y ≤ 255

theorem one_of {cs : List Value} {x : DataW H' × List MemPlace} {b o : Nat} (hc : ∀ j, j < 4 → W.cell? ⟨b, o + j, none⟩ = cs[j]?) (h : DataW.trod enc Yba.prog W base spare held fuel 28 cs = some x) : ∃ c f v d da dc, One W b o c f v d da dc := by
  obtain ⟨xs, m, _, _, hcl, hxl, hx⟩ := DataW.trod_struct Yba.underlying28 h
  rw [Yba.cells28] at hcl
  obtain ⟨c0, c1, c2, c3, rfl⟩ := list4 hcl
  obtain ⟨x0, x1, x2, x3, rfl⟩ := list4 hxl
  have h0 := hx 0 _ rfl
  have h1 := hx 1 _ rfl
  have h2 := hx 2 _ rfl
  have h3 := hx 3 _ rfl
  simp [Yba.cells5, Yba.cells22, Yba.cells26] at h0 h1 h2 h3
  obtain ⟨n0, e0, _, w0⟩ := DataW.trod_int Yba.underlying22 h0
  obtain ⟨n1, e1, _, w1⟩ := DataW.trod_int Yba.underlying5 h1
  obtain ⟨n2, e2, _, w2⟩ := DataW.trod_int Yba.underlying22 h2
  simp at e0 e1 e2
  subst e0 e1 e2
  have b0 := bounds_u32 w0
  have b1 := bounds_u8 w1
  have b2 := bounds_u32 w2
  have k0 := hc 0 (by omega)
  have k1 := hc 1 (by omega)
  have k2 := hc 2 (by omega)
  have k3 := hc 3 (by omega)
  simp at k0 k1 k2 k3
  rcases open_ints Yba.underlying26 Yba.underlying5 Yba.cells5 h3 with ⟨hcs, _⟩ | ⟨a, l, c, zs, hcs, _, hl, hm, hz, _, hcell, hwz⟩
  · simp at hcs
    subst hcs
    exact ⟨n0, n1, n2, [], none, 0, k0, k1, k2, k3, fun _ => ⟨rfl, rfl⟩, fun h => by simp at h, by simp, b0, b1, b2, fun y hy => by simp at hy⟩
  · simp at hcs
    subst hcs
    have hlz : l ≤ zs.length := by rw [hz]; split <;> omega
    have hzl : (zs.take l).length = l := by simp; omega
    unfold maxLen at hm
    refine ⟨n0, n1, n2, zs.take l, some a, c, k0, k1, k2, by rw [hzl]; exact k3, (fun h => by cases h), fun h => ?_, by rw [hzl]; omega, b0, b1, b2, fun y hy => ?_⟩
    · rw [hzl] at h
      obtain ⟨db, dof, rfl, hcc⟩ := ints_at hcell (by omega)
      refine ⟨db, dof, rfl, World.block_lt_of_cell? _ _ (hcc 0 (by omega)), fun j hj => ?_⟩
      rw [hzl] at hj
      rw [hcc j (by omega)]
      simp [List.getD, hj]
    · exact bounds_u8 (hwz y (List.mem_of_mem_take hy))

/-- the AVPs that came in, opened -/
theorem given_of {a0 : Option Addr} {len cap : Nat} {x : DataW H' × List MemPlace} (h : DataW.trod enc Yba.prog W base spare held fuel 25 [.slice a0 len cap] = some x) :
    len ≤ cap ∧ cap ≤ 9223372036854775807 ∧ ∃ C F V D DA DC, Given W a0 len C F V D DA DC := by
  rcases open_slice Yba.underlying25 h with ⟨hcs, _⟩ | ⟨a, l, c, m, k, Dd, Pl, hcs, _, hl, hm, hmm, _, hx⟩
  · simp at hcs
    obtain ⟨rfl, rfl, rfl⟩ := hcs
    exact ⟨by omega, by omega, fun _ => 0, fun _ => 0, fun _ => 0, fun _ => [], fun _ => none, fun _ => 0, fun h => by omega, fun i hi => by omega, fun i hi => by omega, fun i hi => by omega, fun i hi => by omega, fun i hi => by omega, fun i hi => by omega, fun i hi => by omega⟩
  · simp at hcs
    obtain ⟨rfl, rfl, rfl⟩ := hcs
    unfold maxLen at hm
    refine ⟨hl, by omega, ?_⟩
    rcases Nat.eq_zero_or_pos len with h0 | h0
    · subst h0
      exact ⟨fun _ => 0, fun _ => 0, fun _ => 0, fun _ => [], fun _ => none, fun _ => 0, fun h => by omega, fun i hi => by omega, fun i hi => by omega, fun i hi => by omega, fun i hi => by omega, fun i hi => by omega, fun i hi => by omega, fun i hi => by omega⟩
    · have hlm : len ≤ m := by rw [hmm]; split <;> omega
      rw [Yba.cells28] at hx
      obtain ⟨b, o, sp⟩ := a
      have hsp : sp = none := by
        obtain ⟨cs', h1, h2⟩ := hx 0 (by omega)
        obtain ⟨_, hlen, hce⟩ := World.cells?_some h1
        have h3 := hce 0 (by omega)
        rw [List.getElem?_eq_getElem (by omega)] at h3
        simpa [Addr.add] using World.cell?_spot h3
      subst hsp
      have key : ∀ i, i < len → ∃ y : Int × Int × Int × List Int × Option Addr × Nat, One W b (o + i * 4) y.1 y.2.1 y.2.2.1 y.2.2.2.1 y.2.2.2.2.1 y.2.2.2.2.2 := by
        intro i hi
        obtain ⟨cs', h1, h2⟩ := hx i (by omega)
        obtain ⟨_, hlen, hce⟩ := World.cells?_some h1
        obtain ⟨c0, f0, v0, d0, da0, dc0, h3⟩ := one_of (b := b) (o := o + i * 4) (fun j hj => by rw [← hce j hj, add_plain, add_plain]) h2
        exact ⟨(c0, f0, v0, d0, da0, dc0), h3⟩
      obtain ⟨Y, hY⟩ := choose_lt key
      refine ⟨fun i => (Y i).1, fun i => (Y i).2.1, fun i => (Y i).2.2.1, fun i => (Y i).2.2.2.1, fun i => (Y i).2.2.2.2.1, fun i => (Y i).2.2.2.2.2, ?_, fun i hi => (hY i hi).nodata, fun i hi => (hY i hi).data, fun i hi => (hY i hi).size, fun i hi => (hY i hi).code, fun i hi => (hY i hi).flag, fun i hi => (hY i hi).vend, fun i hi => (hY i hi).byte⟩
      intro _
      exact ⟨b, o, rfl, World.block_lt_of_cell? _ _ (hY 0 h0).c0, fun i hi => ⟨(hY i hi).c0, (hY i hi).c1, (hY i hi).c2, (hY i hi).c3⟩⟩
end

theorem rt_walk (f cmd app hop e2e : Int) (sa : Option Addr) (n cap : Nat) (C F V : Nat → Int) (D : Nat → List Int) (DA : Nat → Option Addr) (DC : Nat → Nat) (w : World) (hnc : n ≤ cap) (hcap : cap ≤ 9223372036854775807)
    (hf : 0 ≤ f ∧ f ≤ 255) (hcmd : 0 ≤ cmd ∧ cmd ≤ 4294967295) (happ : 0 ≤ app ∧ app ≤ 4294967295) (hhop : 0 ≤ hop ∧ hop ≤ 4294967295) (he2e : 0 ≤ e2e ∧ e2e ≤ 4294967295) (hG : Given w sa n C F V D DA DC) :
    Calls Yba.prog 3 #[.agg #[.int .u8 f, .int .u32 cmd, .int .u32 app, .int .u32 hop, .int .u32 e2e], .slice sa n cap] w fun e w' => e = .returned (.bool true) ∧ Below w.heap.size w w' := by
  by_cases h : 256 < n
  · exact rt_many f cmd app hop e2e sa n cap w h (by omega)
  · exact rt_few f cmd app hop e2e sa n cap C F V D DA DC w (by omega) hnc hcap hf hcmd happ hhop he2e hG

set_option maxRecDepth 100000 in
theorem rt_lifted (os : Os) (started : os.Started) (H : Type) (enc : TypeId × Value → H) :
    ReturnsInHanded {} Yba.checked os 3 .any (Rows.lawS1361BRoundTripSpec.pre6 enc Yba.prog Yba.f3 Rows.lawS1361BRoundTripRow.domain false) (Rows.lawS1361BRoundTripSpec.post enc Yba.prog Yba.f3 false true false false) := by
  refine returnsInHanded_of_change (C := Yba.checked) own started (by kernel_rfl) Yba.func3
    (ChangeSpec.witness6 (enc := enc) (C := Yba.checked) false ⟨#[], #[.agg #[.int .u8 0, .int .u32 0, .int .u32 0, .int .u32 0, .int .u32 0], .slice none 0 0], []⟩ 8 (by kernel_rfl) (by kernel_rfl) (by kernel_rfl) (by kernel_rfl)) ?_
  intro W base args ds gs before hval0 hW hcnd _
  have hval : ∀ (j : Nat) t v, Yba.f3.params[j]? = some t → args[j]? = some v → Value.okWide Yba.prog W .any base t v := hval0
  have hW' := hW
  obtain ⟨p, q, hA0, hV, rfl, hfz, hnd⟩ := hW
  have hA : DataW.TrodAll enc Yba.prog W 0 (fun _ => true) true Yba.f3.params.toList args.toList ds p := hA0
  rw [Yba.params3] at hA hval
  obtain ⟨v0, vs0, d0, ds0, p0, q0, hargs, rfl, rfl, h0, r0⟩ := trodAll_cons hA
  obtain ⟨v1, vs1, d1, ds1, p1, q1, rfl, rfl, rfl, h1, r1⟩ := trodAll_cons r0
  obtain ⟨rfl, rfl, rfl⟩ := trodAll_nil r1
  obtain rfl : args = #[v0, v1] := by cases args; simp_all
  obtain ⟨rfl, rfl⟩ := trodVars_none hV
  have k0 := h0
  have lt0 : ∀ x ∈ p0, x.block < W.heap.size := by obtain ⟨m, hm⟩ := k0; exact DataW.trod_lt m _ _ _ hm
  obtain ⟨f, cmd, app, hop, e2e, rfl, hf, hcmd, happ, hhop, he2e⟩ : ∃ f cmd app hop e2e : Int, v0 = .agg #[.int .u8 f, .int .u32 cmd, .int .u32 app, .int .u32 hop, .int .u32 e2e] ∧ (0 ≤ f ∧ f ≤ 255) ∧ (0 ≤ cmd ∧ cmd ≤ 4294967295) ∧ (0 ≤ app ∧ app ≤ 4294967295) ∧ (0 ≤ hop ∧ hop ≤ 4294967295) ∧ (0 ≤ e2e ∧ e2e ≤ 4294967295) := by
    have h := hval 0 24 v0 rfl rfl
    simp only [Value.okWide, Yba.underlying24] at h
    obtain ⟨cs, rfl, _, _⟩ := h
    obtain ⟨fuel, hf⟩ := h0
    obtain ⟨f, cmd, app, hop, e2e, hcs, hr⟩ := head5_of (cs := cs.toList) (by simpa [Value.cells] using hf)
    refine ⟨f, cmd, app, hop, e2e, ?_, hr⟩
    obtain ⟨l⟩ := cs
    simp at hcs
    rw [hcs]
  obtain ⟨a1, len1, cap1, rfl⟩ := okWide_slice Yba.underlying25 (hval 1 25 v1 rfl rfl)
  have k1 := h1
  have lt1 : ∀ x ∈ p1, x.block < W.heap.size := by obtain ⟨m, hm⟩ := k1; exact DataW.trod_lt m _ _ _ hm
  obtain ⟨hnc, hcap, C, F, V, D, DA, DC, hG⟩ : len1 ≤ cap1 ∧ cap1 ≤ 9223372036854775807 ∧ ∃ C F V D DA DC, Given W a1 len1 C F V D DA DC := by
    obtain ⟨fuel, hf⟩ := h1
    exact given_of (by simpa [Value.cells] using hf)
  clear hA0 hval0
  refine (rt_walk f cmd app hop e2e a1 len1 cap1 C F V D DA DC W hnc hcap hf hcmd happ hhop he2e hG).mono fun e W' ⟨he, bel⟩ => ?_
  subst he
  exact ⟨_, rfl, _, _, _, [], _, [], hW', trodAll_mk1 (shut_bool Yba.underlying4 _), (trodAll_cons_mk (Below.trod laidOut (by kernel_rfl) (of_decide_eq_true (by kernel_rfl)) k0 bel lt0) (trodAll_cons_mk (Below.trod laidOut (by kernel_rfl) (of_decide_eq_true (by kernel_rfl)) k1 bel lt1) trodAll_mk0)), rfl, bel.frame _, fun h => by cases h⟩

/-- THE STATEMENT -/
theorem roundTrip_proved : Rows.LawS1361BRoundTripSaid :=
  OpenClaim.holds_of_wide 3 Yba.f3 rfl rfl rfl rfl rfl rfl rfl ⟨rfl, rfl, rfl, rfl, rfl⟩ rfl rfl rfl rfl rfl (by kernel_rfl) Yba.func3 (by kernel_rfl)
    (of_decide_eq_true (by kernel_rfl)) (by unfold Func.isWrapper; first | (rw [if_pos (by decide +kernel)]; kernel_rfl) | (rw [if_neg (by decide +kernel)]; exact ⟨rfl, rfl⟩))
    (fun os started H enc _ => rt_lifted os started H enc)
end Go.Proofs.Ybulkabdw
