import Derived.Test.YbulkabekCount
import Derived.ProofKit
import Derived.OpenShut
import Derived.ShutString
namespace Go.Proofs.Ybulkabek
open Go.ChangeShapes Go.WideShapes Go.ChangeAt Go.RowKit
set_option linter.unusedVariables false

theorem own : ownKnob Yba.prog.godebug = none := by kernel_rfl
theorem heap_last (w : World) (b : Obj) (n : Nat) (h : n = w.heap.size) : (w.alloc b).heap[n]? = some b := by
  subst h; exact heap_alloc_new w b
theorem below_drewN {b : Nat} {a w : World} (h : Below b a w) (k : Nat) : Below b a (w.drewN k) := ⟨h.os, h.tape, h.output, h.size, h.block⟩

/-- is the bit set? -/
def bt (a j : Int) : Bool := bits .and .u8 a j != 0

set_option maxRecDepth 100000 in
set_option maxHeartbeats 400000 in
theorem out_any (a i p : Int) (w : World) : Calls Yba.prog 7 #[.int .u8 a, .int .u64 i, .int .u64 p] w fun e w' => e = .returned (.pointer (some ⟨w.heap.size, 0, none⟩)) ∧ w' = w.alloc (.cells (outA (bt a 1) (bt a 2) (bt a 4) (bt a 8) i p) 56) := by
  go_enter Yba.func7, Yba.ntmps7
  go_wp2
  go_ret
  exact ⟨rfl, rfl⟩

theorem b2_01 (b : Bool) : 0 ≤ b2 b ∧ b2 b ≤ 1 := by cases b <;> decide
theorem small_I64 {x : Int} (h0 : -100 ≤ x) (h1 : x ≤ 100) : I64 x := by unfold I64; omega
theorem wrap_small {x : Int} (h0 : -100 ≤ x) (h1 : x ≤ 100) : wrap64 x = x := wrap_I64 (small_I64 h0 h1)

/-- the events of an outcome, as numbers -/
structure Ev (x0 x1 x2 x3 x4 : Bool) (p0 p1 p2 p3 p4 : Int) : Prop where
  e0 : p0 = b2 x0
  e1 : p1 = b2 x1
  e2 : p2 = b2 x2
  e3 : p3 = b2 x3
  e4 : p4 = b2 x4

/-- count, from small counts -/
theorem count_small (cb ob : Nat) (a b c d e i p : Int) (el co tr re : Bool) (w : World) (ha : 0 ≤ a ∧ a ≤ 50) (hb : 0 ≤ b ∧ b ≤ 50) (hc : 0 ≤ c ∧ c ≤ 50) (hd : 0 ≤ d ∧ d ≤ 50) (he : 0 ≤ e ∧ e ≤ 50)
    (hcb : w.heap[cb]? = some (.cells (chkA a b c d e) 35 (0, 0))) (hob : w.heap[ob]? = some (.cells (outA el co tr re i p) 56 (0, 0))) :
    Calls Yba.prog 5 #[.pointer (some ⟨cb, 0, none⟩), .pointer (some ⟨ob, 0, none⟩)] w fun en w' => en = .returned (.tuple #[]) ∧ Counted w w' cb (a + b2 el) (b + b2 co) (c + b2 tr) (d + b2 re) (e + b2 (fin i p)) := by
  have h := count_any cb ob a b c d e i p el co tr re w (small_I64 (by omega) (by omega)) (small_I64 (by omega) (by omega)) (small_I64 (by omega) (by omega)) (small_I64 (by omega) (by omega)) (small_I64 (by omega) (by omega)) hcb hob
  have k0 := b2_01 el; have k1 := b2_01 co; have k2 := b2_01 tr; have k3 := b2_01 re; have k4 := b2_01 (fin i p)
  rw [wrap_small (x := a + b2 el) (by omega) (by omega), wrap_small (x := b + b2 co) (by omega) (by omega), wrap_small (x := c + b2 tr) (by omega) (by omega), wrap_small (x := d + b2 re) (by omega) (by omega), wrap_small (x := e + b2 (fin i p)) (by omega) (by omega)] at h
  exact h

theorem keep {w w' : World} {cb : Nat} {k : Nat} {o : Obj} (h : w.grownBy w' (some cb)) (hk : w.heap[k]? = some o) (hne : k ≠ cb) : w'.heap[k]? = some o :=
  (h.block k (lt_of_block hk) (fun e => hne (Option.some.inj e))).trans hk

/-- the bits of both, up to the k-th -/
def nsum (a b : Int) : Nat → Int
  | 0 => 0
  | k + 1 => nsum a b k + (b2 (bt a (2 ^ k)) + b2 (bt b (2 ^ k)))

theorem bit_fin : ∀ n : Fin 256, bits .and .u8 (n.val : Int) 1 = b2 (bt n.val 1) ∧ bits .and .u8 ((n.val : Int) / 2) 1 = b2 (bt n.val 2) ∧ bits .and .u8 ((n.val : Int) / 4) 1 = b2 (bt n.val 4) ∧ bits .and .u8 ((n.val : Int) / 8) 1 = b2 (bt n.val 8) := by decide +kernel
theorem bit_all {a : Int} (h : 0 ≤ a ∧ a ≤ 255) : bits .and .u8 a 1 = b2 (bt a 1) ∧ bits .and .u8 (a / 2) 1 = b2 (bt a 2) ∧ bits .and .u8 (a / 4) 1 = b2 (bt a 4) ∧ bits .and .u8 (a / 8) 1 = b2 (bt a 8) := by
  obtain ⟨n, rfl⟩ := Int.eq_ofNat_of_zero_le h.1
  exact bit_fin ⟨n, by omega⟩
theorem nsum_le (a b : Int) (k : Nat) : 0 ≤ nsum a b k ∧ nsum a b k ≤ 2 * k := by
  induction k with
  | zero => exact ⟨Int.le_refl _, Int.le_refl _⟩
  | succ k ih =>
    have := b2_01 (bt a (2 ^ k)); have := b2_01 (bt b (2 ^ k))
    show 0 ≤ nsum a b k + _ ∧ nsum a b k + _ ≤ _
    omega
theorem round_sum (n x y : Int) (hn : 0 ≤ n ∧ n ≤ 20) (hx : 0 ≤ x ∧ x ≤ 1) (hy : 0 ≤ y ∧ y ≤ 1) : wrap64 (n + wrap64 (wrap64 x + wrap64 y)) = n + (x + y) := by
  rw [wrap_small (x := x) (by omega) (by omega), wrap_small (x := y) (by omega) (by omega), wrap_small (x := x + y) (by omega) (by omega), wrap_small (by omega) (by omega)]
theorem round_one (a b x y : Int) (k : Nat) (hk : k ≤ 4) (hx : x = b2 (bt a (2 ^ k))) (hy : y = b2 (bt b (2 ^ k))) : wrap64 (nsum a b k + wrap64 (wrap64 x + wrap64 y)) = nsum a b (k + 1) := by
  have := nsum_le a b k
  rw [hx, hy, round_sum _ _ _ ⟨by omega, by omega⟩ (b2_01 _) (b2_01 _)]
  rfl
theorem nsum4 (a b : Int) : nsum a b 4 = (b2 (bt a 1) + b2 (bt b 1)) + (b2 (bt a 2) + b2 (bt b 2)) + (b2 (bt a 4) + b2 (bt b 4)) + (b2 (bt a 8) + b2 (bt b 8)) := by
  show 0 + _ + _ + _ + _ = _
  rw [Int.zero_add]; rfl

theorem fin_cases (i p : Int) : (fin i p = true ∧ (i != 0) = true) ∨ (fin i p = true ∧ i = 0 ∧ (p != 0) = true) ∨ (fin i p = false ∧ i = 0 ∧ p = 0) := by
  by_cases h1 : i = 0
  · by_cases h2 : p = 0
    · exact .inr (.inr ⟨by simp [fin, h1, h2], h1, h2⟩)
    · exact .inr (.inl ⟨by simp [fin, h2], h1, by simp [h2]⟩)
  · exact .inl ⟨by simp [fin, h1], by simp [h1]⟩

theorem last_sum {a b N p0 p1 p2 p3 p4 q0 q1 q2 q3 q4 : Int} {x y : Bool} (hN : N = nsum a b 4) (hE : (p0 = b2 (bt a 1) ∧ p1 = b2 (bt a 2) ∧ p2 = b2 (bt a 4) ∧ p3 = b2 (bt a 8) ∧ p4 = b2 x) ∧ q0 = b2 (bt b 1) ∧ q1 = b2 (bt b 2) ∧ q2 = b2 (bt b 4) ∧ q3 = b2 (bt b 8) ∧ q4 = b2 y) :
    (p0 + q0 + (p1 + q1) + (p2 + q2) + (p3 + q3) + (p4 + q4) == wrap64 (N + wrap64 (b2 x + b2 y))) = true := by
  have hl := nsum_le a b 4
  have hx := b2_01 x; have hy := b2_01 y
  rw [wrap_small (x := b2 x + b2 y) (by omega) (by omega), wrap_small (by omega) (by omega)]
  rw [nsum4] at hN
  obtain ⟨⟨h0, h1, h2, h3, h4⟩, g0, g1, g2, g3, g4⟩ := hE
  exact beq_iff_eq.mpr (by omega)

set_option maxRecDepth 100000 in
set_option maxHeartbeats 1600000 in
theorem commute_walk (a ai aa b bi ba : Int) (w : World) (ha : 0 ≤ a ∧ a ≤ 255) (hb : 0 ≤ b ∧ b ≤ 255) :
    Calls Yba.prog 4 #[.int .u8 a, .int .u64 ai, .int .u64 aa, .int .u8 b, .int .u64 bi, .int .u64 ba] w fun e w' => e = .returned (.bool true) ∧ Below w.heap.size w w' := by
  have o1 := out_any a ai aa w
  go_enter Yba.func4, Yba.ntmps4
  go_wp2_with fail
  refine o1.mono ?_
  rintro e w1 ⟨rfl, hw1⟩
  have hA1 : w1.heap[w.heap.size]? = some (.cells (outA (bt a 1) (bt a 2) (bt a 4) (bt a 8) ai aa) 56 (0, 0)) := by rw [hw1]; exact heap_last _ _ _ rfl
  have bel1 : Below w.heap.size w w1 := by rw [hw1]; exact (Below.refl _ _).alloc (Nat.le_refl _) _
  have hs1 : w.heap.size < w1.heap.size := lt_of_block hA1
  have HA1 := hide hA1
  clear hw1 o1 hA1
  go_wp2_with fail
  refine (out_any b bi ba w1).mono ?_
  rintro e w2 ⟨rfl, hw2⟩
  have hA2 : w2.heap[w.heap.size]? = some (.cells (outA (bt a 1) (bt a 2) (bt a 4) (bt a 8) ai aa) 56 (0, 0)) := by rw [hw2]; exact (Below.heap_alloc _ _ _ hs1).trans HA1.out
  have hB2 : w2.heap[w1.heap.size]? = some (.cells (outA (bt b 1) (bt b 2) (bt b 4) (bt b 8) bi ba) 56 (0, 0)) := by rw [hw2]; exact heap_last _ _ _ rfl
  have bel2 : Below w.heap.size w w2 := by rw [hw2]; exact bel1.alloc (Nat.le_of_lt hs1) _
  have hs2 : w1.heap.size < w2.heap.size := lt_of_block hB2
  have HA2 := hide hA2
  have HB2 := hide hB2
  clear hw2 hA2 hB2 HA1 bel1
  go_wp2_with fail
  -- the first checker
  have hC3 : (w2.alloc (.cells (chkA 0 0 0 0 0) 35)).heap[w2.heap.size]? = some (.cells (chkA 0 0 0 0 0) 35 (0, 0)) := heap_last _ _ _ rfl
  have hA3 := (Below.heap_alloc w2 (.cells (chkA 0 0 0 0 0) 35) w.heap.size (by omega)).trans HA2.out
  have hB3 := (Below.heap_alloc w2 (.cells (chkA 0 0 0 0 0) 35) w1.heap.size (by omega)).trans HB2.out
  have bel3 : Below w.heap.size w (w2.alloc (.cells (chkA 0 0 0 0 0) 35)) := bel2.alloc bel2.size _
  have hs3 : (w2.alloc (.cells (chkA 0 0 0 0 0) 35)).heap.size = w2.heap.size + 1 := by simp
  refine (count_small w2.heap.size w.heap.size 0 0 0 0 0 ai aa _ _ _ _ (w2.alloc (.cells (chkA 0 0 0 0 0) 35)) (by omega) (by omega) (by omega) (by omega) (by omega) hC3 hA3).mono ?_
  rintro e w4 ⟨rfl, hK⟩
  simp only [Int.zero_add] at hK
  have hA4 := keep hK.same hA3 (by omega)
  have hB4 := keep hK.same hB3 (by omega)
  have hs4 : w2.heap.size < w4.heap.size := lt_of_block hK.blk
  have bel4 : Below w.heap.size w w4 := bel3.grown hK.same (by rw [hs3]; omega) (fun k hk => by obtain rfl := Option.some.inj hk; omega)
  have HA4 := hide hA4
  have HB4 := hide hB4
  have HK4 := hide hK.blk
  clear hK hA4 hB4 hC3 hA3 hB3 bel3 bel2 hs3 HA2 HB2
  obtain ⟨p0, hp0⟩ : ∃ x, x = b2 (bt a 1) := ⟨_, rfl⟩
  obtain ⟨p1, hp1⟩ : ∃ x, x = b2 (bt a 2) := ⟨_, rfl⟩
  obtain ⟨p2, hp2⟩ : ∃ x, x = b2 (bt a 4) := ⟨_, rfl⟩
  obtain ⟨p3, hp3⟩ : ∃ x, x = b2 (bt a 8) := ⟨_, rfl⟩
  obtain ⟨p4, hp4⟩ : ∃ x, x = b2 (fin ai aa) := ⟨_, rfl⟩
  obtain ⟨q0, hq0⟩ : ∃ x, x = b2 (bt b 1) := ⟨_, rfl⟩
  obtain ⟨q1, hq1⟩ : ∃ x, x = b2 (bt b 2) := ⟨_, rfl⟩
  obtain ⟨q2, hq2⟩ : ∃ x, x = b2 (bt b 4) := ⟨_, rfl⟩
  obtain ⟨q3, hq3⟩ : ∃ x, x = b2 (bt b 8) := ⟨_, rfl⟩
  obtain ⟨q4, hq4⟩ : ∃ x, x = b2 (fin bi ba) := ⟨_, rfl⟩
  have lp0 : 0 ≤ p0 ∧ p0 ≤ 1 := hp0 ▸ b2_01 _
  have lp1 : 0 ≤ p1 ∧ p1 ≤ 1 := hp1 ▸ b2_01 _
  have lp2 : 0 ≤ p2 ∧ p2 ≤ 1 := hp2 ▸ b2_01 _
  have lp3 : 0 ≤ p3 ∧ p3 ≤ 1 := hp3 ▸ b2_01 _
  have lp4 : 0 ≤ p4 ∧ p4 ≤ 1 := hp4 ▸ b2_01 _
  have lq0 : 0 ≤ q0 ∧ q0 ≤ 1 := hq0 ▸ b2_01 _
  have lq1 : 0 ≤ q1 ∧ q1 ≤ 1 := hq1 ▸ b2_01 _
  have lq2 : 0 ≤ q2 ∧ q2 ≤ 1 := hq2 ▸ b2_01 _
  have lq3 : 0 ≤ q3 ∧ q3 ≤ 1 := hq3 ▸ b2_01 _
  have lq4 : 0 ≤ q4 ∧ q4 ≤ 1 := hq4 ▸ b2_01 _
  have HK4' : Hid (w4.heap[w2.heap.size]? = some (.cells (chkA p0 p1 p2 p3 p4) 35 (0, 0))) := by rw [hp0, hp1, hp2, hp3, hp4]; exact HK4
  clear HK4
  have HE := hide (And.intro (And.intro hp0 (And.intro hp1 (And.intro hp2 (And.intro hp3 hp4)))) (And.intro hq0 (And.intro hq1 (And.intro hq2 (And.intro hq3 hq4)))))
  clear hp0 hp1 hp2 hp3 hp4 hq0 hq1 hq2 hq3 hq4
  go_wp2_with fail
  refine (count_small w2.heap.size w1.heap.size p0 p1 p2 p3 p4 bi ba _ _ _ _ w4 (by omega) (by omega) (by omega) (by omega) (by omega) HK4'.out HB4.out).mono ?_
  rintro e w5 ⟨rfl, hK⟩
  rw [← HE.out.2.1, ← HE.out.2.2.1, ← HE.out.2.2.2.1, ← HE.out.2.2.2.2.1, ← HE.out.2.2.2.2.2] at hK
  have hA5 := keep hK.same HA4.out (by omega)
  have hB5 := keep hK.same HB4.out (by omega)
  have hs5 : w2.heap.size < w5.heap.size := lt_of_block hK.blk
  have bel5 : Below w.heap.size w w5 := bel4.grown hK.same bel4.size (fun k hk => by obtain rfl := Option.some.inj hk; omega)
  have HA5 := hide hA5
  have HB5 := hide hB5
  have HK5 := hide hK.blk
  clear hK hA5 hB5 HA4 HB4 HK4' bel4 hs4
  go_wp2_with fail
  -- the second checker
  have hC6 : (w5.alloc (.cells (chkA 0 0 0 0 0) 35)).heap[w5.heap.size]? = some (.cells (chkA 0 0 0 0 0) 35 (0, 0)) := heap_last _ _ _ rfl
  have hA6 := (Below.heap_alloc w5 (.cells (chkA 0 0 0 0 0) 35) w.heap.size (by omega)).trans HA5.out
  have hB6 := (Below.heap_alloc w5 (.cells (chkA 0 0 0 0 0) 35) w1.heap.size (by omega)).trans HB5.out
  have hK6 := (Below.heap_alloc w5 (.cells (chkA 0 0 0 0 0) 35) w2.heap.size (by omega)).trans HK5.out
  have bel6 : Below w.heap.size w (w5.alloc (.cells (chkA 0 0 0 0 0) 35)) := bel5.alloc bel5.size _
  refine (count_small w5.heap.size w1.heap.size 0 0 0 0 0 bi ba _ _ _ _ (w5.alloc (.cells (chkA 0 0 0 0 0) 35)) (by omega) (by omega) (by omega) (by omega) (by omega) hC6 hB6).mono ?_
  rintro e w7 ⟨rfl, hK⟩
  simp only [Int.zero_add] at hK
  rw [← HE.out.2.1, ← HE.out.2.2.1, ← HE.out.2.2.2.1, ← HE.out.2.2.2.2.1, ← HE.out.2.2.2.2.2] at hK
  have hA7 := keep hK.same hA6 (by omega)
  have hK7 := keep hK.same hK6 (by omega)
  have hs7 : w5.heap.size < w7.heap.size := lt_of_block hK.blk
  have bel7 : Below w.heap.size w w7 := bel6.grown hK.same bel6.size (fun k hk => by obtain rfl := Option.some.inj hk; omega)
  have HA7 := hide hA7
  have HK7 := hide hK7
  have HL7 := hide hK.blk
  clear hK hA7 hK7 hC6 hA6 hB6 hK6 bel6 bel5 HA5 HB5 HK5
  go_wp2_with fail
  refine (count_small w5.heap.size w.heap.size q0 q1 q2 q3 q4 ai aa _ _ _ _ w7 (by omega) (by omega) (by omega) (by omega) (by omega) HL7.out HA7.out).mono ?_
  rintro e w8 ⟨rfl, hK⟩
  rw [← HE.out.1.1, ← HE.out.1.2.1, ← HE.out.1.2.2.1, ← HE.out.1.2.2.2.1, ← HE.out.1.2.2.2.2, Int.add_comm q0, Int.add_comm q1, Int.add_comm q2, Int.add_comm q3, Int.add_comm q4] at hK
  have hK8 := keep hK.same HK7.out (by omega)
  have hL8 := hK.blk
  have hs8 : w5.heap.size < w8.heap.size := lt_of_block hK.blk
  have bel8 : Below w.heap.size w w8 := bel7.grown hK.same bel7.size (fun k hk => by obtain rfl := Option.some.inj hk; omega)
  have hc8 : w2.heap.size < w8.heap.size := lt_of_block hK8
  obtain ⟨s0, hs0⟩ : ∃ x, x = p0 + q0 := ⟨_, rfl⟩
  obtain ⟨s1, hs1⟩ : ∃ x, x = p1 + q1 := ⟨_, rfl⟩
  obtain ⟨s2, hs2⟩ : ∃ x, x = p2 + q2 := ⟨_, rfl⟩
  obtain ⟨s3, hs3⟩ : ∃ x, x = p3 + q3 := ⟨_, rfl⟩
  obtain ⟨s4, hs4⟩ : ∃ x, x = p4 + q4 := ⟨_, rfl⟩
  rw [← hs0, ← hs1, ← hs2, ← hs3, ← hs4] at hK8 hL8
  have c12 := cell_blk hK8 12
  have c13 := cell_blk hK8 13
  have c14 := cell_blk hK8 14
  have c15 := cell_blk hK8 15
  have c16 := cell_blk hK8 16
  have d12 := cell_blk hL8 12
  have d13 := cell_blk hL8 13
  have d14 := cell_blk hL8 14
  have d15 := cell_blk hL8 15
  have d16 := cell_blk hL8 16
  simp only [chkA, List.getElem?_toArray, List.getElem?_cons_succ, List.getElem?_cons_zero] at c12 c13 c14 c15 c16 d12 d13 d14 d15 d16
  clear hK hK8 hL8 HA7 HK7 HL7 bel7 hs7
  go_wp2_with fail
  go_quiet (fail)
  obtain ⟨w9, hw9⟩ : ∃ w9, w9 = w8.drewN nq := ⟨_, rfl⟩
  have e12 : w9.cell? ⟨w2.heap.size, 12, none⟩ = some (.int .i64 s0) := by rw [hw9]; exact c12
  have e13 : w9.cell? ⟨w2.heap.size, 13, none⟩ = some (.int .i64 s1) := by rw [hw9]; exact c13
  have e14 : w9.cell? ⟨w2.heap.size, 14, none⟩ = some (.int .i64 s2) := by rw [hw9]; exact c14
  have e15 : w9.cell? ⟨w2.heap.size, 15, none⟩ = some (.int .i64 s3) := by rw [hw9]; exact c15
  have e16 : w9.cell? ⟨w2.heap.size, 16, none⟩ = some (.int .i64 s4) := by rw [hw9]; exact c16
  have hc9 : w2.heap.size < w9.heap.size := by rw [hw9]; exact hc8
  have bel9 : Below w.heap.size w w9 := by rw [hw9]; exact below_drewN bel8 _
  rw [← hw9]
  clear hw9 c12 c13 c14 c15 c16 d12 d13 d14 d15 d16 hc8 bel8 hs8
  go_wp2_with fail
  go_loop [17, 18] (fun n i => ∃ k : Nat, k ≤ 4 ∧ i = .int .i64 k ∧ n = .int .i64 (nsum a b k)) (fun _ i => 4 - (intOf i).toNat)
  case atStart => exact ⟨0, by omega, rfl, rfl⟩
  case round =>
    obtain ⟨k, hk, rfl, rfl⟩ := hrel
    by_cases hlt : k < 4
    · obtain rfl | rfl | rfl | rfl : k = 0 ∨ k = 1 ∨ k = 2 ∨ k = 3 := by omega
      · go_wp2
        go_round
        case rel => exact ⟨1, by omega, rfl, by rw [round_one a b _ _ 0 (by omega) (bit_all ha).1 (bit_all hb).1]⟩
        case measure => simp [intOf]
      · go_wp2
        go_round
        case rel => exact ⟨2, by omega, rfl, by rw [round_one a b _ _ 1 (by omega) (bit_all ha).2.1 (bit_all hb).2.1]⟩
        case measure => simp [intOf]
      · go_wp2
        go_round
        case rel => exact ⟨3, by omega, rfl, by rw [round_one a b _ _ 2 (by omega) (bit_all ha).2.2.1 (bit_all hb).2.2.1]⟩
        case measure => simp [intOf]
      · go_wp2
        go_round
        case rel => exact ⟨4, by omega, rfl, by rw [round_one a b _ _ 3 (by omega) (bit_all ha).2.2.2 (bit_all hb).2.2.2]⟩
        case measure => simp [intOf]
    · obtain rfl : k = 4 := by omega
      obtain ⟨N, hN⟩ : ∃ N, N = nsum a b 4 := ⟨_, rfl⟩
      rw [← hN]
      have HN := hide hN
      clear hN
      rcases fin_cases ai aa with ⟨fa, hi⟩ | ⟨fa, rfl, hp⟩ | ⟨fa, rfl, rfl⟩
      all_goals
        rcases fin_cases bi ba with ⟨fb, gi⟩ | ⟨fb, rfl, gp⟩ | ⟨fb, rfl, rfl⟩
      all_goals
        rw [fa] at HE
        try rw [fb] at HE
        go_wp2_with (go_at_call 6; refine (b2i_any _ _).mono ?_; rintro en w' ⟨rfl, hw⟩; obtain rfl := hw.symm)
        go_ret
        exact ⟨congrArg (fun x => Ending.returned (.bool x)) (last_sum HN.out HE.out), bel9.alloc bel9.size _⟩

/-! ### the row's step: the shell's own text, with 'Below' for 'Grown' -/
set_option maxRecDepth 100000 in
theorem commute_lifted (os : Os) (started : os.Started) (H : Type) (enc : TypeId × Value → H) :
    ReturnsInHanded {} Yba.checked os 4 .any (Rows.lawS1362CCommuteSpec.pre6 enc Yba.prog Yba.f4 Rows.lawS1362CCommuteRow.domain false) (Rows.lawS1362CCommuteSpec.post enc Yba.prog Yba.f4 false true false false) := by
  refine returnsInHanded_of_change (C := Yba.checked) own started (by kernel_rfl) Yba.func4
    (ChangeSpec.witness6 (enc := enc) (C := Yba.checked) false ⟨#[], #[.int .u8 0, .int .u64 0, .int .u64 0, .int .u8 0, .int .u64 0, .int .u64 0], []⟩ 8 (by kernel_rfl) (by kernel_rfl) (by kernel_rfl) (by kernel_rfl)) ?_
  intro W base args ds gs before hval0 hW hcnd _
  have hval : ∀ (j : Nat) t v, Yba.f4.params[j]? = some t → args[j]? = some v → Value.okWide Yba.prog W .any base t v := hval0
  have hW' := hW
  obtain ⟨p, q, hA0, hV, rfl, hfz, hnd⟩ := hW
  have hA : DataW.TrodAll enc Yba.prog W 0 (fun _ => true) true Yba.f4.params.toList args.toList ds p := hA0
  rw [Yba.params4] at hA hval
  obtain ⟨v0, vs0, d0, ds0, p0, q0, hargs, rfl, rfl, h0, r0⟩ := trodAll_cons hA
  obtain ⟨v1, vs1, d1, ds1, p1, q1, rfl, rfl, rfl, h1, r1⟩ := trodAll_cons r0
  obtain ⟨v2, vs2, d2, ds2, p2, q2, rfl, rfl, rfl, h2, r2⟩ := trodAll_cons r1
  obtain ⟨v3, vs3, d3, ds3, p3, q3, rfl, rfl, rfl, h3, r3⟩ := trodAll_cons r2
  obtain ⟨v4, vs4, d4, ds4, p4, q4, rfl, rfl, rfl, h4, r4⟩ := trodAll_cons r3
  obtain ⟨v5, vs5, d5, ds5, p5, q5, rfl, rfl, rfl, h5, r5⟩ := trodAll_cons r4
  obtain ⟨rfl, rfl, rfl⟩ := trodAll_nil r5
  obtain rfl : args = #[v0, v1, v2, v3, v4, v5] := by cases args; simp_all
  obtain ⟨rfl, rfl⟩ := trodVars_none hV
  obtain ⟨a0, rfl, rfl, rfl, w0⟩ := open_int Yba.underlying5 (hval 0 5 v0 rfl rfl) h0
  obtain ⟨a1, rfl, rfl, rfl, w1⟩ := open_int Yba.underlying22 (hval 1 22 v1 rfl rfl) h1
  obtain ⟨a2, rfl, rfl, rfl, w2⟩ := open_int Yba.underlying22 (hval 2 22 v2 rfl rfl) h2
  obtain ⟨a3, rfl, rfl, rfl, w3⟩ := open_int Yba.underlying5 (hval 3 5 v3 rfl rfl) h3
  obtain ⟨a4, rfl, rfl, rfl, w4⟩ := open_int Yba.underlying22 (hval 4 22 v4 rfl rfl) h4
  obtain ⟨a5, rfl, rfl, rfl, w5⟩ := open_int Yba.underlying22 (hval 5 22 v5 rfl rfl) h5
  clear hA0 hval0
  simp only [List.append_nil] at hW'
  have ba := bounds_u8 w0
  have bb := bounds_u8 w3
  refine (commute_walk a0 a1 a2 a3 a4 a5 W (by omega) (by omega)).mono fun e W' ⟨he, hg⟩ => ?_
  subst he
  exact ⟨_, rfl, _, _, _, [], [], [], hW', trodAll_mk1 (shut_bool Yba.underlying4 _), (trodAll_cons_mk (shut_int Yba.underlying5 w0) (trodAll_cons_mk (shut_int Yba.underlying22 w1) (trodAll_cons_mk (shut_int Yba.underlying22 w2) (trodAll_cons_mk (shut_int Yba.underlying5 w3) (trodAll_cons_mk (shut_int Yba.underlying22 w4) (trodAll_cons_mk (shut_int Yba.underlying22 w5) trodAll_mk0)))))), rfl, hg.frame _, fun h => by cases h⟩

/-- THE STATEMENT -/
theorem commute_proved : Rows.LawS1362CCommuteSaid :=
  OpenClaim.holds_of_wide 4 Yba.f4 rfl rfl rfl rfl rfl rfl rfl ⟨rfl, rfl, rfl, rfl, rfl⟩ rfl rfl rfl rfl rfl (by kernel_rfl) Yba.func4 (by kernel_rfl)
    (of_decide_eq_true (by kernel_rfl)) (by unfold Func.isWrapper; first | (rw [if_pos (by decide +kernel)]; kernel_rfl) | (rw [if_neg (by decide +kernel)]; exact ⟨rfl, rfl⟩))
    (fun os started H enc _ => commute_lifted os started H enc)
end Go.Proofs.Ybulkabek
