import Derived.Test.YbulkabekFmtFacts
namespace Go.Proofs.YbulkabekFmt
open Go.RowKit Go.Extern.Stop Go.Stop Go.Extern

set_option maxHeartbeats 400000 in
theorem name_any (k : Nat) (hk : k < 5) (w : World) : Calls Ybaf.prog 7 #[.int .i64 k] w fun e w' => e = .returned (.string (nameB k)) ∧ w' = w := by
  rcases (show k = 0 ∨ k = 1 ∨ k = 2 ∨ k = 3 ∨ k = 4 from by omega) with rfl | rfl | rfl | rfl | rfl
  all_goals
    go_enter Ybaf.func7, Ybaf.ntmps7
    go_wp2
    go_ret
    exact ⟨rfl, rfl⟩

set_option maxRecDepth 100000 in
set_option maxHeartbeats 800000 in
theorem check_any (F : Interp) (s : ByteArray) (w : World) (hF : F.answers w.tape) (hT : Tab w) :
    Calls Ybaf.prog 6 #[.string s] w fun e w' => e = .returned (.bool true) ∧ Below w.heap.size w w' := by
  have hp := parse_any F s w hF hT
  go_enter Ybaf.func6, Ybaf.ntmps6
  go_wp2_with fail
  refine hp.mono ?_
  rintro e w1 ⟨hb, ⟨k, hk, hs, hno, rfl⟩ | ⟨hno, eb, rfl⟩⟩
  · have HB : Hid (Below w.heap.size w w1) := hb
    have HS : Hid (s = nameB k) := hs
    have HN : Hid (∀ j, j < k → s ≠ nameB j) := hno
    have hu := idx_u8 hk
    clear hp hb hs hno
    go_wp2_with fail
    go_loop [5] (fun i => ∃ m : Nat, m ≤ k ∧ i = .int .i64 m) (fun i => 5 - (intOf i).toNat)
    case atStart => exact ⟨0, by omega, rfl⟩
    case round =>
      obtain ⟨m, hm, rfl⟩ := hrel
      by_cases hmk : m < k
      · have ht := ne_str (HN.out m hmk)
        go_wp2_with (go_at_call 7; refine (name_any m (by omega) _).mono ?_; rintro e w' ⟨rfl, hw⟩; obtain rfl := hw.symm)
        go_round
        case rel => exact ⟨m + 1, by omega, by go_num⟩
        case measure => simp [intOf]; omega
      · obtain rfl : m = k := by omega
        have ht := eq_str HS.out
        go_wp2_with (go_at_call 7; refine (name_any m (by omega) _).mono ?_; rintro e w' ⟨rfl, hw⟩; obtain rfl := hw.symm)
        go_ret
        exact ⟨by simp, HB.out⟩
  · have HB : Hid (Below w.heap.size w w1) := hb
    have HN : Hid (∀ j, j < 5 → s ≠ nameB j) := hno
    clear hp hb hno
    go_wp2_with fail
    go_loop [5] (fun i => ∃ m : Nat, m ≤ 5 ∧ i = .int .i64 m) (fun i => 5 - (intOf i).toNat)
    case atStart => exact ⟨0, by omega, rfl⟩
    case round =>
      obtain ⟨m, hm, rfl⟩ := hrel
      by_cases hmk : m < 5
      · have ht := ne_str (HN.out m hmk)
        go_wp2_with (go_at_call 7; refine (name_any m (by omega) _).mono ?_; rintro e w' ⟨rfl, hw⟩; obtain rfl := hw.symm)
        go_round
        case rel => exact ⟨m + 1, by omega, by go_num⟩
        case measure => simp [intOf]; omega
      · go_wp2_with fail
        go_ret
        exact ⟨by simp, HB.out⟩

/-- LawS1362AAny -/
theorem any_walk (F : Interp) (s : ByteArray) (w : World) (hF : F.answers w.tape) (hT : Tab w) :
    Calls Ybaf.prog 4 #[.string s] w fun e w' => e = .returned (.bool true) ∧ Below w.heap.size w w' := by
  have hc := check_any F s w hF hT
  go_enter Ybaf.func4, Ybaf.ntmps4
  go_wp2_with fail
  refine hc.mono ?_
  rintro e w1 ⟨rfl, hb⟩
  clear hc
  go_wp2_with fail
  go_ret
  exact ⟨rfl, hb⟩

/-- LawS1362AKnown -/
theorem known_walk (F : Interp) (n : Int) (w : World) (hn : 0 ≤ n ∧ n ≤ 255) (hF : F.answers w.tape) (hT : Tab w) :
    Calls Ybaf.prog 3 #[.int .u8 n] w fun e w' => e = .returned (.bool true) ∧ Below w.heap.size w w' := by
  obtain ⟨k, hk, hk5⟩ : ∃ k : Nat, n % 5 = k ∧ k < 5 := ⟨(n % 5).toNat, by omega, by omega⟩
  have hc := check_any F (nameB k) w hF hT
  have hN := name_any k hk5 w
  go_enter Ybaf.func3, Ybaf.ntmps3
  go_wp2_with fail
  refine hN.mono ?_
  rintro e w1 ⟨rfl, rfl⟩
  go_wp2_with fail
  refine hc.mono ?_
  rintro e w2 ⟨rfl, hb⟩
  clear hc
  go_wp2_with fail
  go_ret
  exact ⟨rfl, hb⟩
end Go.Proofs.YbulkabekFmt
