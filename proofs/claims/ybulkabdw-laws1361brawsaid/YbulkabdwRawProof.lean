import Derived.Test.YbulkabdwRaw
import Derived.ProofKit
import Derived.OpenShut
import Derived.ShutString
import Derived.ChangeOld
import Derived.Below
namespace Go.Proofs.Ybulkabdw
open Go.ChangeShapes Go.WideShapes Go.ChangeAt Go.RowKit
set_option linter.unusedVariables false

theorem own : ownKnob Yba.prog.godebug = none := by kernel_rfl
theorem laidOut : laidOutB Yba.prog = true := by kernel_rfl
theorem Yba.cells5 : Yba.prog.cellsOf 5 = 1 := by kernel_rfl
theorem Yba.cells44 : Yba.prog.cellsOf 44 = 20 := by kernel_rfl

theorem bytes_of_wf {n : Int} (h : (Lit.int .u8 n).wf = true) : 0 ≤ n ∧ n ≤ 255 := bounds_u8 h

/-- twenty cells that read as bytes are a header's -/
theorem head_of {H' : Type} {enc : TypeId × Value → H'} {W : World} {base : Nat} {spare : Nat → Bool} {held : Bool} {fuel : Nat} {cs : Array Value} {x : DataW H' × List MemPlace} (hsz : cs.size = 20)
    (h : DataW.trod enc Yba.prog W base spare held fuel 44 cs.toList = some x) : ∃ H : Nat → Int, Bytes H ∧ cs = headA H := by
  obtain ⟨xs, m, _, _, _, hxl, hx⟩ := DataW.trod_array Yba.underlying44 h
  have key : ∀ i, i < 20 → ∃ n : Int, cs[i]? = some (.int .u8 n) ∧ 0 ≤ n ∧ n ≤ 255 := by
    intro i hi
    have hxi := hx i hi
    rw [Yba.cells5, Nat.mul_one, List.getElem?_eq_getElem (by omega)] at hxi
    obtain ⟨n, e, _, wn⟩ := DataW.trod_int Yba.underlying5 hxi
    have hcl : i < cs.toList.length := by simp [hsz, hi]
    rw [List.drop_eq_getElem_cons hcl] at e
    simp at e
    exact ⟨n, by rw [Array.getElem?_eq_getElem (by omega), e], bytes_of_wf wn⟩
  refine ⟨fun i => if i < 20 then intOf (cs.getD i undef) else 0, ?_, ?_⟩
  · intro j
    by_cases hj : j < 20
    · obtain ⟨n, e, r⟩ := key j hj
      simp [hj, Array.getD_eq_getD_getElem?, e, intOf, r]
    · simp [hj]
  · apply Array.ext_getElem?
    intro i
    by_cases hi : i < 20
    · obtain ⟨n, e, r⟩ := key i hi
      have := headL_get (fun i => if i < 20 then intOf (cs.getD i undef) else 0) i hi
      rw [e]
      simp only [Array.getElem?_toList] at this
      rw [this]
      simp [hi, Array.getD_eq_getD_getElem?, e, intOf]
    · rw [Array.getElem?_eq_none (by omega), Array.getElem?_eq_none (by show 20 ≤ i; omega)]

theorem bytes_list {zs : List Int} (h : ∀ n ∈ zs, (Lit.int .u8 n).wf = true) : Bytes (fun j => zs.getD j 0) := by
  intro j
  show 0 ≤ zs.getD j 0 ∧ zs.getD j 0 ≤ 255
  by_cases hj : j < zs.length
  · have e : zs.getD j 0 = zs[j] := by simp [List.getD, hj]
    rw [e]; exact bytes_of_wf (h _ (List.getElem_mem hj))
  · have e : zs.getD j 0 = 0 := by simp [List.getD, List.getElem?_eq_none (Nat.le_of_not_lt hj)]
    rw [e]; decide

/-- what is known of a slice of bytes that came in -/
def IsRow (w : World) (a : Option Addr) (len cap : Nat) (zs : List Int) : Prop :=
  (a = none ∧ len = 0 ∧ cap = 0 ∧ zs = []) ∨
  ∃ x, a = some x ∧ len ≤ cap ∧ cap ≤ maxLen ∧ zs.length = cap ∧ (∀ i, i < zs.length → w.cell? (x.add i) = some (.int .u8 (zs.getD i 0))) ∧ ∀ n ∈ zs, (Lit.int .u8 n).wf = true

theorem IsRow.wf {w : World} {a : Option Addr} {len cap : Nat} {zs : List Int} (h : IsRow w a len cap zs) : ∀ n ∈ zs, (Lit.int .u8 n).wf = true := by
  rcases h with ⟨_, _, _, rfl⟩ | ⟨_, _, _, _, _, _, h⟩
  · intro n hn; simp at hn
  · exact h
theorem IsRow.le {w : World} {a : Option Addr} {len cap : Nat} {zs : List Int} (h : IsRow w a len cap zs) : len ≤ cap ∧ cap ≤ 9223372036854775807 := by
  rcases h with ⟨_, rfl, rfl, _⟩ | ⟨x, _, h1, h2, _⟩
  · omega
  · unfold maxLen at h2; exact ⟨h1, by omega⟩
theorem IsRow.at {w : World} {a : Option Addr} {len cap : Nat} {zs : List Int} (h : IsRow w a len cap zs) (hl : 0 < len) : ∃ b o, a = some ⟨b, o, none⟩ ∧ b < w.heap.size ∧ ∀ j, j < len → w.cell? ⟨b, o + j, none⟩ = some (.int .u8 (zs.getD j 0)) := by
  rcases h with ⟨_, rfl, _⟩ | ⟨x, rfl, h1, _, h3, h4, _⟩
  · omega
  · obtain ⟨b, o, rfl, hc⟩ := ints_at h4 (by omega)
    exact ⟨b, o, rfl, World.block_lt_of_cell? _ _ (hc 0 (by omega)), fun j hj => hc j (by omega)⟩

theorem raw_walk (H : Nat → Int) (hH : Bytes H) (sa : Option Addr) (len cap : Nat) (zs : List Int) (w : World) (hs : IsRow w sa len cap zs) :
    Calls Yba.prog 4 #[.agg (headA H), .slice sa len cap] w fun e w' => e = .returned (.bool true) ∧ Below w.heap.size w w' := by
  have hlen := hs.le
  by_cases hl : 4096 < len
  · exact raw_long H sa len cap w hl (by omega)
  · refine raw_short H (fun j => zs.getD j 0) sa len cap w (by omega) hlen.1 hlen.2 hH (bytes_list hs.wf) ?_ hs.at
    intro hn
    rcases hs with ⟨_, h1, h2, _⟩ | ⟨x, h, _⟩
    · exact ⟨h1, h2⟩
    · rw [hn] at h; cases h

set_option maxRecDepth 100000 in
theorem raw_lifted (os : Os) (started : os.Started) (H : Type) (enc : TypeId × Value → H) :
    ReturnsInHanded {} Yba.checked os 4 .any (Rows.lawS1361BRawSpec.pre6 enc Yba.prog Yba.f4 Rows.lawS1361BRawRow.domain false) (Rows.lawS1361BRawSpec.post enc Yba.prog Yba.f4 false true false false) := by
  refine returnsInHanded_of_change (C := Yba.checked) own started (by kernel_rfl) Yba.func4
    (ChangeSpec.witness6 (enc := enc) (C := Yba.checked) false ⟨#[], #[.agg (headA fun _ => 0), .slice none 0 0], []⟩ 8 (by kernel_rfl) (by kernel_rfl) (by kernel_rfl) (by kernel_rfl)) ?_
  intro W base args ds gs before hval0 hW hcnd _
  have hval : ∀ (j : Nat) t v, Yba.f4.params[j]? = some t → args[j]? = some v → Value.okWide Yba.prog W .any base t v := hval0
  have hW' := hW
  obtain ⟨p, q, hA0, hV, rfl, hfz, hnd⟩ := hW
  have hA : DataW.TrodAll enc Yba.prog W 0 (fun _ => true) true Yba.f4.params.toList args.toList ds p := hA0
  rw [Yba.params4] at hA hval
  obtain ⟨v0, vs0, d0, ds0, p0, q0, hargs, rfl, rfl, h0, r0⟩ := trodAll_cons hA
  obtain ⟨v1, vs1, d1, ds1, p1, q1, rfl, rfl, rfl, h1, r1⟩ := trodAll_cons r0
  obtain ⟨rfl, rfl, rfl⟩ := trodAll_nil r1
  obtain rfl : args = #[v0, v1] := by cases args; simp_all
  obtain ⟨rfl, rfl⟩ := trodVars_none hV
  have k0 := h0
  have lt0 : ∀ x ∈ p0, x.block < W.heap.size := by obtain ⟨m, hm⟩ := k0; exact DataW.trod_lt m _ _ _ hm
  obtain ⟨cs, rfl, hsz⟩ : ∃ cs : Array Value, v0 = .agg cs ∧ cs.size = 20 := by
    have h := hval 0 44 v0 rfl rfl
    simp only [Value.okWide, Yba.underlying44] at h
    obtain ⟨cs, h1, h2, _⟩ := h
    exact ⟨cs, h1, by rw [h2, Yba.cells44]⟩
  obtain ⟨Hd, hHd, rfl⟩ : ∃ Hd : Nat → Int, Bytes Hd ∧ cs = headA Hd := by
    obtain ⟨fuel, hf⟩ := h0
    exact head_of hsz (by simpa [Value.cells] using hf)
  obtain ⟨a1, len1, cap1, rfl⟩ := okWide_slice Yba.underlying26 (hval 1 26 v1 rfl rfl)
  have k1 := h1
  have lt1 : ∀ x ∈ p1, x.block < W.heap.size := by obtain ⟨m, hm⟩ := k1; exact DataW.trod_lt m _ _ _ hm
  obtain ⟨z1, w1⟩ : ∃ zs, IsRow W a1 len1 cap1 zs := by
    obtain ⟨fuel, hf⟩ := h1
    rcases open_ints Yba.underlying26 Yba.underlying5 (by kernel_rfl) hf with ⟨hcs, _⟩ | ⟨x, l, c, zs, hcs, _, hl, hm, hz, _, hcell, hwz⟩
    · simp [Value.cells] at hcs
      obtain ⟨rfl, rfl, rfl⟩ := hcs
      exact ⟨[], .inl ⟨rfl, rfl, rfl, rfl⟩⟩
    · simp [Value.cells] at hcs
      obtain ⟨rfl, rfl, rfl⟩ := hcs
      exact ⟨zs, .inr ⟨_, rfl, hl, hm, by simpa using hz, hcell, hwz⟩⟩
  clear hA0 hval0
  refine (raw_walk Hd hHd a1 len1 cap1 z1 W w1).mono fun e W' ⟨he, bel⟩ => ?_
  subst he
  exact ⟨_, rfl, _, _, _, [], _, [], hW', trodAll_mk1 (shut_bool Yba.underlying4 _), (trodAll_cons_mk (Below.trod laidOut (by kernel_rfl) (of_decide_eq_true (by kernel_rfl)) k0 bel lt0) (trodAll_cons_mk (Below.trod laidOut (by kernel_rfl) (of_decide_eq_true (by kernel_rfl)) k1 bel lt1) trodAll_mk0)), rfl, bel.frame _, fun h => by cases h⟩

/-- THE STATEMENT -/
theorem raw_proved : Rows.LawS1361BRawSaid :=
  OpenClaim.holds_of_wide 4 Yba.f4 rfl rfl rfl rfl rfl rfl rfl ⟨rfl, rfl, rfl, rfl, rfl⟩ rfl rfl rfl rfl rfl (by kernel_rfl) Yba.func4 (by kernel_rfl)
    (of_decide_eq_true (by kernel_rfl)) (by unfold Func.isWrapper; first | (rw [if_pos (by decide +kernel)]; kernel_rfl) | (rw [if_neg (by decide +kernel)]; exact ⟨rfl, rfl⟩))
    (fun os started H enc _ => raw_lifted os started H enc)
end Go.Proofs.Ybulkabdw
