/-
  THE PLAIN PART OF THE ROUND TRIP: a message's octets, and that the AVPs lie in them where 'chain' looks. No Go in sight.
-/
import Derived.Test.YbulkabdwPlain
namespace Go.Proofs.Ybulkabdw

def bytes4 (x : Int) : List Int := [x / 16777216 % 256, x / 65536 % 256, x / 256 % 256, x % 256]
def hdrL (f cmd app hop e2e : Int) : List Int := [1, 0, 0, 0, f] ++ [cmd / 65536 % 256, cmd / 256 % 256, cmd % 256] ++ bytes4 app ++ bytes4 hop ++ bytes4 e2e
/-- the length's three octets -/
def len3 (f : Int) (n : Nat) : List Int := [f, (n : Int) / 65536 % 256, (n : Int) / 256 % 256, (n : Int) % 256]
def vendL (f v : Int) : List Int := if 128 ≤ f then bytes4 v else []
/-- one AVP's octets -/
def encL (c f v : Int) (d : List Int) : List Int :=
  bytes4 c ++ len3 f (hlN f + d.length) ++ vendL f v ++ d ++ List.replicate (pad (hlN f + d.length) - (hlN f + d.length)) 0
def encs (C F V : Nat → Int) (D : Nat → List Int) : Nat → List Int
  | 0 => []
  | k + 1 => encs C F V D k ++ encL (C k) (F k) (V k) (D k)

/-- what is known of the fields -/
structure Fields (C F V : Nat → Int) (D : Nat → List Int) (n : Nat) : Prop where
  code : ∀ i, i < n → 0 ≤ C i ∧ C i ≤ 4294967295
  flag : ∀ i, i < n → 0 ≤ F i ∧ F i ≤ 255
  vend : ∀ i, i < n → 0 ≤ V i ∧ V i ≤ 4294967295
  data : ∀ i, i < n → ∀ x ∈ D i, 0 ≤ x ∧ x ≤ 255
  short : ∀ i, i < n → (D i).length ≤ 1024

theorem vendL_length (f v : Int) : (vendL f v).length = hlN f - 8 := by unfold vendL hlN; split <;> rfl
theorem encL_length (c f v : Int) (d : List Int) : (encL c f v d).length = pad (hlN f + d.length) := by
  have h := hlN_ge f
  have h2 := pad_ge (hlN f + d.length)
  simp only [encL, List.length_append, List.length_replicate, vendL_length]
  simp only [bytes4, len3, List.length_cons, List.length_nil]
  omega

theorem getD_app_left (a b : List Int) (j : Nat) (h : j < a.length) : (a ++ b).getD j 0 = a.getD j 0 := by simp [List.getD, List.getElem?_append_left h]
theorem getD_app_right (a b : List Int) (j : Nat) : (a ++ b).getD (a.length + j) 0 = b.getD j 0 := by simp [List.getD, List.getElem?_append_right (Nat.le_add_right _ _)]

theorem be4_bytes4 (x : Int) (h : 0 ≤ x ∧ x ≤ 4294967295) : be4 (x / 16777216 % 256) (x / 65536 % 256) (x / 256 % 256) (x % 256) = x := by unfold be4; omega

/-- an AVP's octets, one by one -/
theorem encL_code (c f v : Int) (d : List Int) (j : Nat) (hj : j < 4) : (encL c f v d).getD j 0 = (bytes4 c).getD j 0 := by
  unfold encL
  rw [List.append_assoc, List.append_assoc, List.append_assoc, getD_app_left _ _ _ (by simpa [bytes4] using hj)]
theorem encL_len (c f v : Int) (d : List Int) (j : Nat) (hj : j < 4) : (encL c f v d).getD (4 + j) 0 = (len3 f (hlN f + d.length)).getD j 0 := by
  unfold encL
  rw [List.append_assoc, List.append_assoc, List.append_assoc]
  have e : 4 = (bytes4 c).length := rfl
  rw [e, getD_app_right, getD_app_left _ _ _ (by simpa [len3] using hj)]
theorem encL_vend (c f v : Int) (d : List Int) (hf : 128 ≤ f) (j : Nat) (hj : j < 4) : (encL c f v d).getD (8 + j) 0 = (bytes4 v).getD j 0 := by
  unfold encL
  rw [List.append_assoc, List.append_assoc]
  have e : 8 = (bytes4 c ++ len3 f (hlN f + d.length)).length := rfl
  have hv : vendL f v = bytes4 v := if_pos hf
  rw [e, getD_app_right, hv, getD_app_left _ _ _ (by simpa [bytes4] using hj)]
theorem encL_data (c f v : Int) (d : List Int) (j : Nat) (hj : j < d.length) : (encL c f v d).getD (hlN f + j) 0 = d.getD j 0 := by
  unfold encL
  rw [List.append_assoc]
  have e : hlN f = (bytes4 c ++ len3 f (hlN f + d.length) ++ vendL f v).length := by
    have h := hlN_ge f
    simp only [List.length_append, vendL_length]
    simp only [bytes4, len3, List.length_cons, List.length_nil]
    omega
  have k := getD_app_right (bytes4 c ++ len3 f (hlN f + d.length) ++ vendL f v) (d ++ List.replicate (pad (hlN f + d.length) - (hlN f + d.length)) 0) j
  rw [← e] at k
  rw [k, getD_app_left _ _ _ hj]

theorem encs_get (C F V : Nat → Int) (D : Nat → List Int) (k j : Nat) (hj : j < (encL (C k) (F k) (V k) (D k)).length) : ∀ n, k < n → (encs C F V D n).getD ((encs C F V D k).length + j) 0 = (encL (C k) (F k) (V k) (D k)).getD j 0
  | 0, h => by omega
  | n + 1, h => by
    rcases Nat.lt_or_ge k n with hk | hk
    · have ih := encs_get C F V D k j hj n hk
      rw [encs, getD_app_left, ih]
      have hmono : ∀ m, k < m → (encs C F V D k).length + (encL (C k) (F k) (V k) (D k)).length ≤ (encs C F V D m).length := by
        intro m
        induction m with
        | zero => intro h; omega
        | succ m ihm =>
          intro h
          rcases Nat.lt_or_ge k m with h' | h'
          · have := ihm h'; simp only [encs, List.length_append]; omega
          · obtain rfl : k = m := by omega
            simp [encs]
      have := hmono n hk
      omega
    · obtain rfl : k = n := by omega
      rw [encs, getD_app_right]

section
variable {C F V : Nat → Int} {D : Nat → List Int} {n : Nat}

/-- the octets of all AVPs, by place -/
def tOf (C F V : Nat → Int) (D : Nat → List Int) (n : Nat) (j : Nat) : Int := (encs C F V D n).getD j 0
/-- where the k-th AVP was laid -/
def offOf (C F V : Nat → Int) (D : Nat → List Int) (k : Nat) : Nat := (encs C F V D k).length

theorem offOf_succ (C F V : Nat → Int) (D : Nat → List Int) (k : Nat) : offOf C F V D (k + 1) = offOf C F V D k + pad (hlN (F k) + (D k).length) := by
  simp [offOf, encs, encL_length]

theorem t_at (k j : Nat) (hk : k < n) (hj : j < pad (hlN (F k) + (D k).length)) : tOf C F V D n (offOf C F V D k + j) = (encL (C k) (F k) (V k) (D k)).getD j 0 :=
  encs_get C F V D k j (by rw [encL_length]; exact hj) n hk

theorem t_code (h : Fields C F V D n) (k : Nat) (hk : k < n) : codeAt (tOf C F V D n) (offOf C F V D k) = C k := by
  have hp := pad_ge (hlN (F k) + (D k).length)
  have h8 := hlN_ge (F k)
  have e : ∀ j, j < 4 → tOf C F V D n (offOf C F V D k + j) = (bytes4 (C k)).getD j 0 := fun j hj => by rw [t_at k j hk (by omega), encL_code _ _ _ _ j hj]
  unfold codeAt
  have e0 := e 0 (by omega)
  rw [Nat.add_zero] at e0
  rw [e0, e 1 (by omega), e 2 (by omega), e 3 (by omega)]
  exact be4_bytes4 _ (h.code k hk)

theorem t_flag (k : Nat) (hk : k < n) : tOf C F V D n (offOf C F V D k + 4) = F k := by
  have hp := pad_ge (hlN (F k) + (D k).length)
  have h8 := hlN_ge (F k)
  rw [t_at k 4 hk (by omega)]
  exact encL_len (C k) (F k) (V k) (D k) 0 (by omega)

theorem t_len (h : Fields C F V D n) (k : Nat) (hk : k < n) : nAt (tOf C F V D n) (offOf C F V D k) = hlN (F k) + (D k).length := by
  have hp := pad_ge (hlN (F k) + (D k).length)
  have h8 := hlN_ge (F k)
  have h12 := hlN_le (F k)
  have hs := h.short k hk
  unfold nAt
  rw [t_at k 5 hk (by omega), t_at k 6 hk (by omega), t_at k 7 hk (by omega), encL_len (C k) (F k) (V k) (D k) 1 (by omega), encL_len (C k) (F k) (V k) (D k) 2 (by omega), encL_len (C k) (F k) (V k) (D k) 3 (by omega)]
  show (be3 (((hlN (F k) + (D k).length : Nat) : Int) / 65536 % 256) (((hlN (F k) + (D k).length : Nat) : Int) / 256 % 256) (((hlN (F k) + (D k).length : Nat) : Int) % 256)).toNat = _
  unfold be3
  omega

theorem t_vend (h : Fields C F V D n) (k : Nat) (hk : k < n) : vendAt (tOf C F V D n) (offOf C F V D k) = if 128 ≤ F k then V k else 0 := by
  unfold vendAt
  rw [t_flag k hk]
  by_cases hf : 128 ≤ F k
  · rw [if_pos hf, if_pos hf]
    have hp := pad_ge (hlN (F k) + (D k).length)
    have h8 : hlN (F k) = 12 := by simp [hlN, hf]
    rw [t_at k 8 hk (by omega), t_at k 9 hk (by omega), t_at k 10 hk (by omega), t_at k 11 hk (by omega)]
    have e := encL_vend (C k) (F k) (V k) (D k) hf
    rw [e 0 (by omega), e 1 (by omega), e 2 (by omega), e 3 (by omega)]
    exact be4_bytes4 _ (h.vend k hk)
  · rw [if_neg hf, if_neg hf]

theorem t_data (k j : Nat) (hk : k < n) (hj : j < (D k).length) : tOf C F V D n (offOf C F V D k + hlN (F k) + j) = (D k).getD j 0 := by
  have hp := pad_ge (hlN (F k) + (D k).length)
  rw [Nat.add_assoc, t_at k _ hk (by omega), encL_data _ _ _ _ j hj]

theorem off_mono (k m : Nat) (hkm : k ≤ m) : offOf C F V D k ≤ offOf C F V D m := by
  induction m with
  | zero => obtain rfl : k = 0 := by omega
            exact Nat.le_refl _
  | succ m ih =>
    rcases Nat.lt_or_ge m k with h | h
    · obtain rfl : k = m + 1 := by omega
      exact Nat.le_refl _
    · have := ih h; rw [offOf_succ]; omega

theorem chain_off (h : Fields C F V D n) : ∀ k, k ≤ n → chain (tOf C F V D n) k = offOf C F V D k
  | 0, _ => rfl
  | k + 1, hk => by
    rw [chain, chain_off h k (by omega), t_len h k (by omega), offOf_succ]

theorem good_off (h : Fields C F V D n) (k : Nat) (hk : k < n) : Good (tOf C F V D n) (offOf C F V D n) (offOf C F V D k) := by
  have hm := off_mono (C := C) (F := F) (V := V) (D := D) (k + 1) n (by omega)
  rw [offOf_succ] at hm
  have hp := pad_ge (hlN (F k) + (D k).length)
  have h8 := hlN_ge (F k)
  exact ⟨by omega, by rw [t_flag k hk, t_len h k hk]; omega, by rw [t_len h k hk]; omega⟩

/-- PARSING GIVES BACK JUST AS MANY AS WERE LAID, WITHOUT AN ERROR -/
theorem count_is (h : Fields C F V D n) (K : Nat) (hg : ∀ i, i < K → Good (tOf C F V D n) (offOf C F V D n) (chain (tOf C F V D n) i))
    (hfin : offOf C F V D n ≤ chain (tOf C F V D n) K ∨ (chain (tOf C F V D n) K < offOf C F V D n ∧ ¬ Good (tOf C F V D n) (offOf C F V D n) (chain (tOf C F V D n) K))) :
    K = n ∧ offOf C F V D n ≤ chain (tOf C F V D n) K := by
  have h1 : ¬ n < K := by
    intro hlt
    have g := (hg n hlt).1
    rw [chain_off h n (Nat.le_refl _)] at g
    omega
  have h2 : ¬ K < n := by
    intro hlt
    have hgd := good_off h K hlt
    rw [chain_off h K (by omega)] at hfin
    rcases hfin with hf | ⟨_, hf⟩
    · have := hgd.1; omega
    · exact hf hgd
  obtain rfl : K = n := by omega
  refine ⟨rfl, ?_⟩
  rw [chain_off h K (Nat.le_refl _)]
  exact Nat.le_refl _

theorem bytes4_range (x : Int) : ∀ y ∈ bytes4 x, 0 ≤ y ∧ y ≤ 255 := by
  intro y hy
  simp only [bytes4, List.mem_cons, List.not_mem_nil, or_false] at hy
  rcases hy with rfl | rfl | rfl | rfl <;> omega
theorem encL_range (c f v : Int) (d : List Int) (hf : 0 ≤ f ∧ f ≤ 255) (hd : ∀ x ∈ d, 0 ≤ x ∧ x ≤ 255) : ∀ y ∈ encL c f v d, 0 ≤ y ∧ y ≤ 255 := by
  intro y hy
  simp only [encL, List.mem_append] at hy
  rcases hy with (((hy | hy) | hy) | hy) | hy
  · exact bytes4_range _ y hy
  · simp only [len3, List.mem_cons, List.not_mem_nil, or_false] at hy
    rcases hy with rfl | rfl | rfl | rfl
    · exact hf
    all_goals omega
  · unfold vendL at hy
    split at hy
    · exact bytes4_range _ y hy
    · simp at hy
  · exact hd y hy
  · rw [List.mem_replicate] at hy
    omega
theorem encs_range (h : Fields C F V D n) : ∀ k, k ≤ n → ∀ y ∈ encs C F V D k, 0 ≤ y ∧ y ≤ 255
  | 0, _ => by simp [encs]
  | k + 1, hk => by
    intro y hy
    simp only [encs, List.mem_append] at hy
    rcases hy with hy | hy
    · exact encs_range h k (by omega) y hy
    · exact encL_range _ _ _ _ (h.flag k (by omega)) (h.data k (by omega)) y hy
theorem list_bytes {zs : List Int} (h : ∀ y ∈ zs, 0 ≤ y ∧ y ≤ 255) : Bytes (fun j => zs.getD j 0) := by
  intro j
  show 0 ≤ zs.getD j 0 ∧ zs.getD j 0 ≤ 255
  by_cases hj : j < zs.length
  · have e : zs.getD j 0 = zs[j] := by simp [List.getD, hj]
    rw [e]; exact h _ (List.getElem_mem hj)
  · have e : zs.getD j 0 = 0 := by simp [List.getD, List.getElem?_eq_none (Nat.le_of_not_lt hj)]
    rw [e]; decide
theorem t_bytes (h : Fields C F V D n) : Bytes (tOf C F V D n) := list_bytes (encs_range h n (Nat.le_refl _))
theorem off_le (h : Fields C F V D n) : ∀ k, k ≤ n → offOf C F V D k ≤ 1040 * k
  | 0, _ => by simp [offOf, encs]
  | k + 1, hk => by
    have ih := off_le h k (by omega)
    have hp := pad_lt (hlN (F k) + (D k).length)
    have h12 := hlN_le (F k)
    have hs := h.short k (by omega)
    rw [offOf_succ]
    omega
end
end Go.Proofs.Ybulkabdw
