import Derived.Test.YbulkabekFmtRows
import Derived.WalkKit
import Derived.WalkSpells
import Derived.Stop.CallBack
import Derived.Stop.IfaceNil
import GoSem.ClaimData
namespace Go.Proofs.YbulkabekFmt
open Go.RowKit Go.Extern.Stop Go.Stop Go.Extern

/-! ### fmt.errorf is a stop: the closed facts on how it is asked (after the guide's print for such a row) -/
theorem call10 (args : Array Value) (w : World) : (callFunc 10 args).run Ybaf.prog w = ((FmtStop.errorf #[9, 34] #[28] args).run Ybaf.prog w).andThen fun v w' => .ok (.value v) w' :=
  run_callFunc_extern Ybaf.func10 (by kernel_rfl) (by kernel_rfl) (by kernel_rfl) (by kernel_rfl) args w
theorem guard_ok (name : String) (w : World) : (FmtStop.guard name).run Ybaf.prog w = .ok () w := by kernel_rfl
-- the format: no fault is named, and a quoted string
theorem fmt0 : FmtStop.printed? ⟨#[110, 111, 32, 102, 97, 117, 108, 116, 32, 105, 115, 32, 110, 97, 109, 101, 100, 32, 37, 113]⟩ 1 = some [(0, 113, false)] := by kernel_rfl
theorem fmt0r (w : World) : (FmtDoors.printed ⟨#[110, 111, 32, 102, 97, 117, 108, 116, 32, 105, 115, 32, 110, 97, 109, 101, 100, 32, 37, 113]⟩ 1).run Ybaf.prog w = .ok [(0, 113, false)] w := by kernel_rfl
def shape9 : List UInt8 := [12, 6, 0, 0, 0, 0, 0, 0, 0, 115, 116, 114, 105, 110, 103]
theorem op9_113 (name : String) (x : ByteArray) (w : World) : (FmtStop.operand name false 113 false (.iface 9 (.string x))).run Ybaf.prog w = .ok (shape9, FmtStop.pack x.data.toList) w := by kernel_rfl
theorem op9_113w (name : String) (x : ByteArray) (w : World) : (FmtStop.operand name true 113 false (.iface 9 (.string x))).run Ybaf.prog w = .ok (shape9, FmtStop.pack x.data.toList) w := by kernel_rfl
theorem ptr37 (w : World) : (FmtStop.ptrTo "errors.errorString").run Ybaf.prog w = .ok 37 w := by kernel_rfl
theorem elem37 (w : World) : (elemOf 37).run Ybaf.prog w = .ok 39 w := by kernel_rfl
theorem isError37 (w : World) : (FmtDoors.textMethod 37 "Error").run Ybaf.prog w = .ok true w := by kernel_rfl
attribute [local go_sem] call10 guard_ok fmt0 fmt0r op9_113 op9_113w ptr37 elem37 isError37

/-- what fmt is asked -/
def asked (s : List UInt8) : List (List UInt8) := [[110, 111, 32, 102, 97, 117, 108, 116, 32, 105, 115, 32, 110, 97, 109, 101, 100, 32, 37, 113], shape9, FmtStop.pack s]

set_option maxHeartbeats 400000 in
theorem errorf_any (F : Interp) (s : ByteArray) (blk : Nat) (w : World) (hF : F.answers w.tape) (hc : w.cell? ⟨blk, 0, none⟩ = some (.iface 9 (.string s))) :
    Calls Ybaf.prog 9 #[.string ⟨#[110, 111, 32, 102, 97, 117, 108, 116, 32, 105, 115, 32, 110, 97, 109, 101, 100, 32, 37, 113]⟩, .slice (some ⟨blk, 0, none⟩) 1 1] w fun e w' =>
      e = .returned (.iface 37 (.pointer (some ⟨w.heap.size, 0, none⟩))) ∧ Below w.heap.size w w' := by
  have hF' := hF
  unfold Interp.answers at hF'
  go_enter Ybaf.func9, Ybaf.ntmps9
  go_wp2
  go_ret
  exact ⟨rfl, ((Below.refl _ _).alloc (Nat.le_refl _) _).drew⟩

/-- the five names -/
def nameB : Nat → ByteArray
  | 0 => ⟨#[110, 111, 110, 101]⟩
  | 1 => ⟨#[99, 111, 109, 109, 105, 116, 45, 97, 110, 121, 45, 116, 101, 114, 109]⟩
  | 2 => ⟨#[98, 108, 105, 110, 100, 45, 102, 111, 108, 108, 111, 119, 101, 114]⟩
  | 3 => ⟨#[102, 111, 114, 103, 101, 116, 45, 118, 111, 116, 101]⟩
  | _ => ⟨#[108, 101, 97, 100, 101, 114, 45, 99, 104, 101, 99, 107, 112, 111, 105, 110, 116, 115]⟩

/-- the table, as it lies -/
def tabA : Array Value := #[.string ⟨#[110, 111, 110, 101]⟩, .string ⟨#[99, 111, 109, 109, 105, 116, 45, 97, 110, 121, 45, 116, 101, 114, 109]⟩, .string ⟨#[98, 108, 105, 110, 100, 45, 102, 111, 108, 108, 111, 119, 101, 114]⟩,
  .string ⟨#[102, 111, 114, 103, 101, 116, 45, 118, 111, 116, 101]⟩, .string ⟨#[108, 101, 97, 100, 101, 114, 45, 99, 104, 101, 99, 107, 112, 111, 105, 110, 116, 115]⟩]

/-- the table in memory -/
def Tab (w : World) : Prop := w.cell? ⟨0, 0, none⟩ = some (.string ⟨#[110, 111, 110, 101]⟩) ∧ w.cell? ⟨0, 1, none⟩ = some (.string ⟨#[99, 111, 109, 109, 105, 116, 45, 97, 110, 121, 45, 116, 101, 114, 109]⟩) ∧ w.cell? ⟨0, 2, none⟩ = some (.string ⟨#[98, 108, 105, 110, 100, 45, 102, 111, 108, 108, 111, 119, 101, 114]⟩) ∧
  w.cell? ⟨0, 3, none⟩ = some (.string ⟨#[102, 111, 114, 103, 101, 116, 45, 118, 111, 116, 101]⟩) ∧ w.cell? ⟨0, 4, none⟩ = some (.string ⟨#[108, 101, 97, 100, 101, 114, 45, 99, 104, 101, 99, 107, 112, 111, 105, 110, 116, 115]⟩)

theorem idx (k : Nat) (hk : k < 5) (w : World) : (Instr.index 32 (.agg tabA) (.int .i64 k)).run Ybaf.prog w = .ok (.string (nameB k)) w := by
  rcases (show k = 0 ∨ k = 1 ∨ k = 2 ∨ k = 3 ∨ k = 4 from by omega) with rfl | rfl | rfl | rfl | rfl <;> kernel_rfl

theorem str_eq {a b : ByteArray} (h : (a.toList == b.toList) = true) : a = b := by
  rw [ByteArray.toList_eq, ByteArray.toList_eq, beq_iff_eq] at h
  cases a; cases b
  simpa using Array.toList_inj.1 h
theorem str_ne {a b : ByteArray} (h : (a.toList == b.toList) = false) : a ≠ b := by
  rintro rfl; simp at h
theorem eq_str {a b : ByteArray} (h : a = b) : (a.toList == b.toList) = true := by subst h; simp
theorem ne_str {a b : ByteArray} (h : a ≠ b) : (a.toList == b.toList) = false := by
  cases hh : (a.toList == b.toList)
  · rfl
  · exact absurd (str_eq hh) h

theorem none_step {s : ByteArray} {k : Nat} (H : Hid (∀ j, j < k → s ≠ nameB j)) (h : ((nameB k).toList == s.toList) = false) : ∀ j, j < k + 1 → s ≠ nameB j := by
  intro j hj
  rcases Nat.lt_or_ge j k with h1 | h1
  · exact H.out j h1
  · obtain rfl : j = k := by omega
    exact fun e => str_ne h e.symm

/-- a place in the table is a byte -/
theorem idx_u8 {k : Nat} (h : k < 5) : IntKind.u8.wrap (k : Int) = k := by
  rw [IntKind.wrap_u8']; omega

set_option maxRecDepth 100000 in
set_option maxHeartbeats 800000 in
theorem parse_any (F : Interp) (s : ByteArray) (w : World) (hF : F.answers w.tape) (hT : Tab w) :
    Calls Ybaf.prog 8 #[.string s] w fun e w' => Below w.heap.size w w' ∧ ((∃ k, k < 5 ∧ s = nameB k ∧ (∀ j, j < k → s ≠ nameB j) ∧ e = .returned (.tuple #[.int .u8 k, .nilIface])) ∨ ((∀ j, j < 5 → s ≠ nameB j) ∧ ∃ eb : Nat, e = .returned (.tuple #[.int .u8 0, .iface 37 (.pointer (some ⟨eb, 0, none⟩))]))) := by
  obtain ⟨t0, t1, t2, t3, t4⟩ := hT
  go_enter Ybaf.func8, Ybaf.ntmps8
  go_wp2
  go_loop [7] (fun i => ∃ k : Nat, k ≤ 5 ∧ i = .int .i64 k ∧ ∀ j, j < k → s ≠ nameB j) (fun i => 5 - (intOf i).toNat)
  case atStart => exact ⟨0, by omega, rfl, fun j hj => by omega⟩
  case round =>
    obtain ⟨k, hk, rfl, hno⟩ := hrel
    have HN : Hid (∀ j, j < k → s ≠ nameB j) := hno
    clear hno
    by_cases hk5 : k < 5
    · have hx := idx k hk5
      unfold tabA at hx
      clear t0 t1 t2 t3 t4
      by_cases hs : nameB k = s
      · have ht := eq_str hs
        go_wp2
        go_ret2
        exact ⟨Below.refl _ _, .inl ⟨k, hk5, hs.symm, HN.out, rfl⟩⟩
      · have ht := ne_str hs
        clear hs
        go_wp2
        go_round
        case rel => exact ⟨k + 1, by omega, by go_num, none_step HN ht⟩
        case measure => simp [intOf]; omega
    · obtain rfl : k = 5 := by omega
      clear t0 t1 t2 t3 t4
      go_wp2_with (go_at_call 9; refine (errorf_any F s _ _ (by exact hF) (by go_simp)).mono ?_; rintro e w' ⟨rfl, hb⟩)
      go_ret2
      exact ⟨((Below.refl w.heap.size w).alloc (Nat.le_refl _) _).trans (hb.mono (by simp)), .inr ⟨HN.out, _, rfl⟩⟩
end Go.Proofs.YbulkabekFmt
