/-
  THE PLAIN PART: what parseAVPs reads, as a function of the bytes. No Go in sight.
-/
namespace Go.Proofs.Ybulkabdw

/-- four bytes, the greatest first -/
def be4 (a b c d : Int) : Int := a * 16777216 + b * 65536 + c * 256 + d
/-- three bytes, the greatest first -/
def be3 (a b c : Int) : Int := a * 65536 + b * 256 + c
/-- the header's length: 12 where the flags' highest bit is set -/
def hlN (f : Int) : Nat := if 128 ≤ f then 12 else 8
/-- a length brought up to a multiple of four -/
def pad (n : Nat) : Nat := (n + 3) / 4 * 4

/-- what the AVP at place p says of itself -/
def codeAt (B : Nat → Int) (p : Nat) : Int := be4 (B p) (B (p + 1)) (B (p + 2)) (B (p + 3))
def nAt (B : Nat → Int) (p : Nat) : Nat := (be3 (B (p + 5)) (B (p + 6)) (B (p + 7))).toNat
def vendAt (B : Nat → Int) (p : Nat) : Int := if 128 ≤ B (p + 4) then be4 (B (p + 8)) (B (p + 9)) (B (p + 10)) (B (p + 11)) else 0

/-- where the k-th AVP begins -/
def chain (B : Nat → Int) : Nat → Nat
  | 0 => 0
  | k + 1 => chain B k + pad (nAt B (chain B k))

/-- the AVP at p can be read -/
def Good (B : Nat → Int) (len p : Nat) : Prop := p + 8 ≤ len ∧ hlN (B (p + 4)) ≤ nAt B p ∧ p + nAt B p ≤ len

/-- each of the cells is a byte -/
def Bytes (B : Nat → Int) : Prop := ∀ j, 0 ≤ B j ∧ B j ≤ 255

theorem hlN_ge (f : Int) : 8 ≤ hlN f := by unfold hlN; split <;> omega
theorem hlN_le (f : Int) : hlN f ≤ 12 := by unfold hlN; split <;> omega
theorem pad_ge (n : Nat) : n ≤ pad n := by unfold pad; omega
theorem pad_lt (n : Nat) : pad n < n + 4 := by unfold pad; omega

theorem be3_range {a b c : Int} (ra : 0 ≤ a ∧ a ≤ 255) (rb : 0 ≤ b ∧ b ≤ 255) (rc : 0 ≤ c ∧ c ≤ 255) : 0 ≤ be3 a b c ∧ be3 a b c ≤ 16777215 := by unfold be3; omega
theorem be4_range {a b c d : Int} (ra : 0 ≤ a ∧ a ≤ 255) (rb : 0 ≤ b ∧ b ≤ 255) (rc : 0 ≤ c ∧ c ≤ 255) (rd : 0 ≤ d ∧ d ≤ 255) : 0 ≤ be4 a b c d ∧ be4 a b c d ≤ 4294967295 := by unfold be4; omega

theorem chain_ge (B : Nat → Int) (len : Nat) : ∀ k, (∀ i, i < k → Good B len (chain B i)) → 8 * k ≤ chain B k
  | 0, _ => by simp
  | k + 1, h => by
    have ih := chain_ge B len k (fun i hi => h i (by omega))
    have g := (h k (by omega)).2.1
    have h8 := hlN_ge (B (chain B k + 4))
    have hp := pad_ge (nAt B (chain B k))
    simp only [chain]
    omega

/-- so many AVPs, so many bytes -/
theorem count_le (B : Nat → Int) (len k : Nat) (h : ∀ i, i < k → Good B len (chain B i)) : 8 * k ≤ len := by
  cases k with
  | zero => omega
  | succ k =>
    have ih := chain_ge B len k (fun i hi => h i (by omega))
    have g := (h k (by omega)).1
    omega

theorem chain_le (B : Nat → Int) (len K k : Nat) (h : ∀ i, i < K → Good B len (chain B i)) (hk : k ≤ K) : chain B k ≤ len + 3 := by
  cases k with
  | zero => simp [chain]
  | succ k =>
    have g := (h k (by omega)).2.2
    have := pad_lt (nAt B (chain B k))
    simp only [chain]
    omega
end Go.Proofs.Ybulkabdw
