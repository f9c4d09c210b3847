import Derived.Test.YbulkabdwBuf
namespace Go.Proofs.Ybulkabdw
open Go.RowKit
attribute [local go_sem] alloc_drewN setCell_drewN

/-- the AVPs that came in: n of them; their data -/
structure Given (w : World) (sa : Option Addr) (n : Nat) (C F V : Nat → Int) (D : Nat → List Int) (DA : Nat → Option Addr) (DC : Nat → Nat) : Prop where
  lie : 0 < n → ∃ b o, sa = some ⟨b, o, none⟩ ∧ b < w.heap.size ∧ ∀ i, i < n → w.cell? ⟨b, o + i * 4, none⟩ = some (.int .u32 (C i)) ∧ w.cell? ⟨b, o + i * 4 + 1, none⟩ = some (.int .u8 (F i)) ∧ w.cell? ⟨b, o + i * 4 + 2, none⟩ = some (.int .u32 (V i)) ∧
    w.cell? ⟨b, o + i * 4 + 3, none⟩ = some (.slice (DA i) (D i).length (DC i))
  nodata : ∀ i, i < n → DA i = none → (D i).length = 0 ∧ DC i = 0
  data : ∀ i, i < n → 0 < (D i).length → ∃ b o, DA i = some ⟨b, o, none⟩ ∧ b < w.heap.size ∧ ∀ j, j < (D i).length → w.cell? ⟨b, o + j, none⟩ = some (.int .u8 ((D i).getD j 0))
  size : ∀ i, i < n → (D i).length ≤ 9223372036854775807
  code : ∀ i, i < n → 0 ≤ C i ∧ C i ≤ 4294967295
  flag : ∀ i, i < n → 0 ≤ F i ∧ F i ≤ 255
  vend : ∀ i, i < n → 0 ≤ V i ∧ V i ≤ 4294967295
  byte : ∀ i, i < n → ∀ x ∈ D i, 0 ≤ x ∧ x ≤ 255

/-- the building's state: the buffer; below it all is as it was -/
def St (W0 wx : World) (g c : Nat) (xs : List Int) : Prop := Buf wx W0.heap.size g c xs ∧ Below W0.heap.size W0 wx
theorem St.step {W0 wx w' : World} {g c g' c' : Nat} {xs ys : List Int} (h : St W0 wx g c xs) (hb : Buf w' W0.heap.size g' c' ys) (hg : wx.grownBy w' (some g)) : St W0 w' g' c' ys :=
  ⟨hb, h.2.grown hg h.2.size (fun k hk => by obtain rfl := Option.some.inj hk; exact h.1.lt.1)⟩
theorem St.alloc {W0 wx : World} {g c : Nat} {xs : List Int} (h : St W0 wx g c xs) (o : Obj) : St W0 (wx.alloc o) g c xs := ⟨h.1.alloc o, h.2.alloc h.2.size o⟩

/-- the header's box -/
def boxH (f cmd app hop e2e : Int) : Obj := .cells #[.int .u8 f, .int .u32 cmd, .int .u32 app, .int .u32 hop, .int .u32 e2e] 24

theorem St.box {w wx : World} {g c : Nat} {xs : List Int} {f cmd app hop e2e : Int} (h : St (w.alloc (boxH f cmd app hop e2e)) wx g c xs) :
    wx.cell? ⟨w.heap.size, 0, none⟩ = some (.int .u8 f) ∧ wx.cell? ⟨w.heap.size, 1, none⟩ = some (.int .u32 cmd) ∧ wx.cell? ⟨w.heap.size, 2, none⟩ = some (.int .u32 app) ∧ wx.cell? ⟨w.heap.size, 3, none⟩ = some (.int .u32 hop) ∧ wx.cell? ⟨w.heap.size, 4, none⟩ = some (.int .u32 e2e) := by
  have e : ∀ j, wx.cell? ⟨w.heap.size, j, none⟩ = (w.alloc (boxH f cmd app hop e2e)).cell? ⟨w.heap.size, j, none⟩ := fun j => h.2.cell (p := ⟨w.heap.size, j, none⟩) (by simp)
  refine ⟨?_, ?_, ?_, ?_, ?_⟩ <;> rw [e] <;> simp [boxH]

theorem cells_lit {w : World} {n : Nat} {cs : Array Value} {t : TypeId} (hn : n = w.heap.size) {W : World} (hW : W = w.alloc (.cells cs t)) (news : List Int) (hc : cs.toList = cellsOf news) :
    ∀ ad, some (⟨n, 0, none⟩ : Addr) = some ad → ∀ j, j < news.length → W.cell? (ad.add j) = some (.int .u8 (news.getD j 0)) := by
  subst hn; subst hW
  intro ad had j hj
  obtain rfl := Option.some.inj had
  rw [Addr.add_lit, Nat.zero_add, World.cell?_alloc_new]
  have : cs[j]? = (cellsOf news)[j]? := by rw [← hc]; simp
  rw [this]
  simp [cellsOf, List.getD, hj]

set_option maxRecDepth 100000 in
set_option maxHeartbeats 400000 in
theorem rt_many (f cmd app hop e2e : Int) (sa : Option Addr) (n cap : Nat) (w : World) (h : 256 < n) (hn : n ≤ 9223372036854775807) :
    Calls Yba.prog 3 #[.agg #[.int .u8 f, .int .u32 cmd, .int .u32 app, .int .u32 hop, .int .u32 e2e], .slice sa n cap] w fun e w' => e = .returned (.bool true) ∧ Below w.heap.size w w' := by
  go_enter Yba.func3, Yba.ntmps3
  go_wp2
  go_ret
  exact ⟨rfl, (Below.refl _ _).alloc (Nat.le_refl _) _⟩

theorem short_step {D : Nat → List Int} {k d : Nat} (H : Hid (∀ j, j < k → (D j).length ≤ 1024)) (HD : Hid (d = (D k).length)) (hd : d ≤ 1024) : ∀ j, j < k + 1 → (D j).length ≤ 1024 := by
  intro j hj
  rcases Nat.lt_or_ge j k with h | h
  · exact H.out j h
  · obtain rfl : j = k := by omega
    rw [← HD.out]; exact hd

theorem Below.of_alloc {w wx : World} {o : Obj} (h : Below (w.alloc o).heap.size (w.alloc o) wx) : Below w.heap.size w wx :=
  ((Below.refl w.heap.size w).alloc (Nat.le_refl _) o).trans (h.mono (by simp))

theorem cell_blk {w : World} {b : Nat} {cs : Array Value} {t : TypeId} (h : w.heap[b]? = some (.cells cs t (0, 0))) (j : Nat) : w.cell? ⟨b, j, none⟩ = cs[j]? := by simp [World.cell?, h]
/-- a box of another type stays as it was where the buffer grows -/
theorem box_step {wx w' : World} {base g c ab : Nat} {xs : List Int} {bx : Array Value} (hbuf : Buf wx base g c xs) (hbox : wx.heap[ab]? = some (.cells bx 28 (0, 0))) (hg : wx.grownBy w' (some g)) : w'.heap[ab]? = some (.cells bx 28 (0, 0)) :=
  (hg.block ab (lt_of_block hbox) (fun e => hbuf.ne hbox (by decide) (Option.some.inj e))).trans hbox
theorem box_alloc {wx : World} {ab : Nat} {bx : Array Value} (hbox : wx.heap[ab]? = some (.cells bx 28 (0, 0))) (o : Obj) : (wx.alloc o).heap[ab]? = some (.cells bx 28 (0, 0)) :=
  (Below.heap_alloc wx o ab (lt_of_block hbox)).trans hbox

theorem len3_8 (f : Int) (d : Nat) (h : d ≤ 1024) : [f, (8 + (d : Int)) / 65536, (8 + (d : Int)) / 256, (8 + (d : Int)) % 256] = len3 f (8 + d) := by
  unfold len3
  rw [show ((8 + d : Nat) : Int) = 8 + (d : Int) by omega, show (8 + (d : Int)) / 65536 % 256 = (8 + (d : Int)) / 65536 by omega, show (8 + (d : Int)) / 256 % 256 = (8 + (d : Int)) / 256 by omega]
theorem len3_12 (f : Int) (d : Nat) (h : d ≤ 1024) : [f, (12 + (d : Int)) / 65536, (12 + (d : Int)) / 256, (12 + (d : Int)) % 256] = len3 f (12 + d) := by
  unfold len3
  rw [show ((12 + d : Nat) : Int) = 12 + (d : Int) by omega, show (12 + (d : Int)) / 65536 % 256 = (12 + (d : Int)) / 65536 by omega, show (12 + (d : Int)) / 256 % 256 = (12 + (d : Int)) / 256 by omega]

theorem data_cells {w wx : World} {sa : Option Addr} {n : Nat} {C F V : Nat → Int} {D : Nat → List Int} {DA : Nat → Option Addr} {DC : Nat → Nat} (hG : Given w sa n C F V D DA DC) (m : Nat) (hm : m < n) (hb : Below w.heap.size w wx) :
    ∀ ad, DA m = some ad → ∀ j, j < (D m).length → wx.cell? (ad.add j) = some (.int .u8 ((D m).getD j 0)) := by
  intro ad had j hj
  obtain ⟨b, o, h1, h2, h3⟩ := hG.data m hm (by omega)
  rw [h1] at had
  obtain rfl := Option.some.inj had
  rw [Addr.add_lit, hb.cell (p := ⟨b, o + j, none⟩) h2, h3 j hj]

theorem off_mod (C F V : Nat → Int) (D : Nat → List Int) : ∀ k, offOf C F V D k % 4 = 0
  | 0 => rfl
  | k + 1 => by have := off_mod C F V D k; rw [offOf_succ]; unfold pad; omega

/-- the padding is whole -/
theorem pad_done {n t L : Nat} (hL : L % 4 = 0) (h : ∀ s, s < t → (L + n + s) % 4 ≠ 0) (ht : t ≤ 3) (hend : t = 3 ∨ (L + n + t) % 4 = 0) : t = pad n - n := by
  have h0 : 0 < t → (L + n + 0) % 4 ≠ 0 := h 0
  have h1 : 1 < t → (L + n + 1) % 4 ≠ 0 := h 1
  have h2 : 2 < t → (L + n + 2) % 4 ≠ 0 := h 2
  unfold pad
  omega

theorem pad_step {L t : Nat} (H : Hid (∀ r, r < t → (L + r) % 4 ≠ 0)) (h : ¬ (L + t) % 4 = 0) : ∀ r, r < t + 1 → (L + r) % 4 ≠ 0 := by
  intro r hr
  rcases Nat.lt_or_ge r t with h1 | h1
  · exact H.out r h1
  · obtain rfl : r = t := by omega
    exact h

theorem enc_done {C F V : Nat → Int} {D : Nat → List Int} {m d t H : Nat} {hd : List Int} (HD : Hid (d = (D m).length)) (hH : hlN (F m) = H) (ht : t = pad (H + d) - (H + d)) :
    hd ++ encs C F V D m ++ bytes4 (C m) ++ len3 (F m) (H + d) ++ vendL (F m) (V m) ++ D m ++ List.replicate t 0 = hd ++ encs C F V D (m + 1) := by
  subst ht; subst hH
  rw [HD.out]
  simp only [encs, encL, List.append_assoc]

theorem rt_round {C F V : Nat → Int} {D : Nat → List Int} {m d t H L Lp gq cq : Nat} {hd ys : List Int} {W0 wq : World} (HL : Hid (L = 20 + offOf C F V D m)) (HD : Hid (d = (D m).length)) (hH : hlN (F m) = H) (hLp : Lp = L + (H + d))
    (HQ : Hid (∀ r, r < t → (Lp + r) % 4 ≠ 0)) (ht : t ≤ 3) (hend : t = 3 ∨ (Lp + t) % 4 = 0) (hys : ys = hd ++ encs C F V D m ++ bytes4 (C m) ++ len3 (F m) (H + d) ++ vendL (F m) (V m) ++ D m) (sq : St W0 wq gq cq (ys ++ List.replicate t 0)) :
    Value.slice (some ⟨gq, 0, none⟩) (Lp + t) cq = .slice (some ⟨gq, 0, none⟩) (20 + offOf C F V D (m + 1)) cq ∧ St W0 wq gq cq (hd ++ encs C F V D (m + 1)) := by
  subst hLp
  have hmod := off_mod C F V D m
  have hL := HL.out
  have htp : t = pad (H + d) - (H + d) := pad_done (L := L) (by omega) HQ.out ht hend
  have hpg := pad_ge (H + d)
  refine ⟨?_, ?_⟩
  · rw [offOf_succ, hH, ← HD.out, show L + (H + d) + t = 20 + (offOf C F V D m + pad (H + d)) by omega]
  · rw [← enc_done HD hH htp, ← hys]; exact sq

theorem Buf.cap {w : World} {base g c : Nat} {xs : List Int} (h : Buf w base g c xs) : xs.length ≤ c ∧ c ≤ 9223372036854775807 := by
  rcases h.2 with ⟨h0, _⟩ | ⟨g', cap, cur, hv, _, _, h1, h2, _⟩
  · cases h0
  · simp only [Value.slice.injEq] at hv
    obtain ⟨_, _, rfl⟩ := hv
    unfold maxLen at h2
    exact ⟨h1, by omega⟩

theorem Buf.cells {w : World} {base g c : Nat} {hd tl : List Int} (h : Buf w base g c (hd ++ tl)) (h20 : hd.length = 20) : ∀ j, j < 20 + tl.length → w.cell? ⟨g, j, none⟩ = some (.int .u8 (zOf (fun j => hd.getD j 0) (fun j => tl.getD j 0) j)) := by
  intro j hj
  have e := World.ownsRow.cellAt h j (by rw [List.length_append]; omega)
  rw [e]
  unfold zOf cellsOf
  by_cases h1 : j < 20
  · rw [if_pos h1, List.map_append, List.getElem?_append_left (by simp; omega)]
    simp [List.getD, show j < hd.length by omega]
  · rw [if_neg h1, List.map_append, List.getElem?_append_right (by simp; omega), List.length_map, h20]
    simp [List.getD, show j - 20 < tl.length by omega]

/-- the low 24 bits -/
theorem and24 (x : Int) (h : 0 ≤ x ∧ x ≤ 4294967295) : bits .and .u32 x 16777215 = be3 (x / 65536 % 256) (x / 256 % 256) (x % 256) := by
  obtain ⟨n, rfl⟩ := Int.eq_ofNat_of_zero_le h.1
  have e := u32_and_nat n 16777215 (by omega) (by omega)
  rw [show ((16777215 : Nat) : Int) = (16777215 : Int) from rfl] at e
  rw [e, show (16777215 : Nat) = 2 ^ 24 - 1 from rfl, Nat.and_two_pow_sub_one_eq_mod]
  unfold be3
  omega

/-- what the message's box holds -/
theorem head_msg (f cmd app hop e2e : Int) (happ : 0 ≤ app ∧ app ≤ 4294967295) (hhop : 0 ≤ hop ∧ hop ≤ 4294967295) (he2e : 0 ≤ e2e ∧ e2e ≤ 4294967295) (v : Value) :
    headCells (fun j => (hdrL f cmd app hop e2e).getD j 0) v = #[.int .u8 f, .int .u32 (be3 (cmd / 65536 % 256) (cmd / 256 % 256) (cmd % 256)), .int .u32 app, .int .u32 hop, .int .u32 e2e, v, .nilFunc] := by
  have h1 : codeAt (fun j => (hdrL f cmd app hop e2e).getD j 0) 8 = app := be4_bytes4 app happ
  have h2 : codeAt (fun j => (hdrL f cmd app hop e2e).getD j 0) 12 = hop := be4_bytes4 hop hhop
  have h3 : codeAt (fun j => (hdrL f cmd app hop e2e).getD j 0) 16 = e2e := be4_bytes4 e2e he2e
  unfold headCells
  rw [h1, h2, h3]
  rfl
theorem hdr_bytes (f cmd app hop e2e : Int) (hf : 0 ≤ f ∧ f ≤ 255) : Bytes (fun j => (hdrL f cmd app hop e2e).getD j 0) := by
  apply list_bytes
  intro y hy
  simp only [hdrL, List.mem_append, List.mem_cons, List.not_mem_nil, or_false] at hy
  rcases hy with ((((rfl | rfl | rfl | rfl | rfl) | rfl | rfl | rfl) | hy) | hy) | hy
  all_goals first | exact bytes4_range _ y hy | omega

section
variable {C F V : Nat → Int} {D : Nat → List Int} {n : Nat}
theorem dataV_is (hF : Fields C F V D n) (g c t : Nat) (ht : t < n) : dataV g 20 c (tOf C F V D n) (offOf C F V D t) =
    .slice (if c - offOf C F V D t = hlN (F t) then some ⟨g, 20 + offOf C F V D t, none⟩ else some ⟨g, 20 + offOf C F V D t + hlN (F t), none⟩) (D t).length (c - offOf C F V D t - hlN (F t)) := by
  unfold dataV
  rw [t_flag t ht, t_len hF t ht, Nat.add_sub_cancel_left]

theorem data_buf {wx : World} {g t : Nat} {H : Nat → Int} {A : Option Addr} (hF : Fields C F V D n) (ht : t < n) (h : ∀ j, j < 20 + offOf C F V D n → wx.cell? ⟨g, j, none⟩ = some (.int .u8 (zOf H (tOf C F V D n) j)))
    (hA : 0 < (D t).length → A = some ⟨g, 20 + offOf C F V D t + hlN (F t), none⟩) : BytesAt wx A (D t) := by
  intro h0
  refine ⟨g, _, hA h0, fun i hi => ?_⟩
  have hg := (good_off hF t ht).2.2
  rw [t_len hF t ht] at hg
  rw [h _ (by omega)]
  unfold zOf
  rw [if_neg (by omega), show 20 + offOf C F V D t + hlN (F t) + i - 20 = offOf C F V D t + hlN (F t) + i by omega, t_data t i ht hi]

theorem data_arg {w wx : World} {sa : Option Addr} {DA : Nat → Option Addr} {DC : Nat → Nat} (hG : Given w sa n C F V D DA DC) (t : Nat) (ht : t < n) (hb : Below w.heap.size w wx) : BytesAt wx (DA t) (D t) := by
  intro h0
  obtain ⟨b, o, h1, h2, h3⟩ := hG.data t ht h0
  exact ⟨b, o, h1, fun i hi => (hb.cell (p := ⟨b, o + i, none⟩) h2).trans (h3 i hi)⟩
end

theorem st_made {w w1 : World} {o : Obj} (hown : w1.ownsRow (w.heap.size + 1) 5 1 (.slice (some ⟨(w.alloc o).heap.size, 0, none⟩) 0 20) 0 []) (hg : (w.alloc o).grownBy w1 none) : St (w.alloc o) w1 (w.heap.size + 1) 20 [] := by
  have e : (w.alloc o).heap.size = w.heap.size + 1 := by simp
  refine ⟨?_, (Below.refl _ _).grown hg (Nat.le_refl _) (fun k hk => by cases hk)⟩
  unfold Buf
  rw [e] at hown ⊢
  exact hown

set_option maxRecDepth 100000 in
set_option maxHeartbeats 3200000 in
theorem rt_few (f cmd app hop e2e : Int) (sa : Option Addr) (n cap : Nat) (C F V : Nat → Int) (D : Nat → List Int) (DA : Nat → Option Addr) (DC : Nat → Nat) (w : World) (hn : n ≤ 256) (hnc : n ≤ cap) (hcap : cap ≤ 9223372036854775807)
    (hf : 0 ≤ f ∧ f ≤ 255) (hcmd : 0 ≤ cmd ∧ cmd ≤ 4294967295) (happ : 0 ≤ app ∧ app ≤ 4294967295) (hhop : 0 ≤ hop ∧ hop ≤ 4294967295) (he2e : 0 ≤ e2e ∧ e2e ≤ 4294967295) (hG : Given w sa n C F V D DA DC) :
    Calls Yba.prog 3 #[.agg #[.int .u8 f, .int .u32 cmd, .int .u32 app, .int .u32 hop, .int .u32 e2e], .slice sa n cap] w fun e w' => e = .returned (.bool true) ∧ Below w.heap.size w w' := by
  obtain ⟨i5, hi, hz0, hz1, hz2⟩ := info_parts Yba.info5
  have hbw0 : Below w.heap.size w (w.alloc (boxH f cmd app hop e2e)) := (Below.refl _ _).alloc (Nat.le_refl _) _
  go_enter Yba.func3, Yba.ntmps3
  go_wp2
  go_loop [5] (fun i => ∃ k : Nat, k ≤ n ∧ i = .int .i64 k ∧ ∀ j, j < k → (D j).length ≤ 1024) (fun i => n - (intOf i).toNat)
  case atStart => exact ⟨0, by omega, rfl, fun j hj => by omega⟩
  case round =>
    obtain ⟨k, hk, rfl, hsh⟩ := hrel
    have HSH := hide hsh
    clear hsh
    by_cases hkn : k < n
    · obtain ⟨b, o, hsa, hbb, hcs⟩ := hG.lie (by omega)
      subst hsa
      have c3 := (hbw0.cell (p := ⟨b, o + k * 4 + 3, none⟩) hbb).trans (hcs k hkn).2.2.2
      simp only [boxH] at c3
      have hsz := hG.size k hkn
      obtain ⟨d, hd⟩ : ∃ d, d = (D k).length := ⟨_, rfl⟩
      rw [← hd] at c3 hsz
      have HD := hide hd
      clear hd hcs
      by_cases hbig : 1024 < d
      · go_wp2
        go_ret
        exact ⟨rfl, hbw0⟩
      · go_wp2
        go_round
        case rel => exact ⟨k + 1, by omega, by go_num, fun j hj => short_step HSH HD (by omega) j hj⟩
        case measure => simp [intOf]; omega
    · obtain rfl : k = n := by omega
      have hFl : Fields C F V D k := ⟨hG.code, hG.flag, hG.vend, hG.byte, HSH.out⟩
      go_wp2_with (first | (at_make; (refine wpList_make_own _ rfl (.const (.int .i64 0)) (.const (.int .i64 20)) 26 rfl (w.heap.size + 1) 5 i5 (.int .u8 0) 1 Yba.underlying26 hi hz0 hz1 .i64 .i64 _ 20 rfl rfl (by omega) (by rw [hz2]; omega) (by unfold maxLen; omega) (by simp) ?_; intro w1 hown1a hgrow1; have s1 : St (w.alloc (boxH f cmd app hop e2e)) w1 (w.heap.size + 1) 20 [] := st_made hown1a hgrow1; obtain ⟨x0, x1, x2, x3, x4⟩ := s1.box; clear hown1a hgrow1)) | (at_builtin; (refine wpList_append_buf rfl (.tmp 35) (.tmp 38) rfl _ (w.heap.size + 1) 20 0 [] rfl rfl (s1.alloc _).1 _ 5 5 [1, 0, 0, 0, f] rfl rfl (by simp) (cells_lit rfl rfl _ rfl) (by simp) (s1.alloc _).2.size (by simp) ?_; intro g2 c2 w2 hb2 hg2; have s2 := (s1.alloc _).step hb2 hg2; clear x0 x1 x2 x3 x4 hb2 hg2; obtain ⟨x0, x1, x2, x3, x4⟩ := s2.box)) | (at_builtin; (refine wpList_append_buf rfl (.tmp 40) (.tmp 52) rfl _ g2 c2 5 _ rfl rfl (s2.alloc _).1 _ 3 3 [cmd / 65536 % 256, cmd / 256 % 256, cmd % 256] rfl rfl (by simp) (cells_lit rfl rfl _ rfl) (by simp) (s2.alloc _).2.size (by simp) ?_; intro g3 c3 w3 hb3 hg3; have s3 := (s2.alloc _).step hb3 hg3; clear x0 x1 x2 x3 x4 hb3 hg3; obtain ⟨x0, x1, x2, x3, x4⟩ := s3.box)))
      refine (put32_any _ g3 c3 8 _ app w3 happ s3.1 rfl (by simp) s3.2.size).mono ?_
      rintro e w4 ⟨g4, c4, rfl, hb4, hg4⟩
      have s4 := s3.step hb4 hg4
      clear x0 x1 x2 x3 x4 hb4 hg4
      obtain ⟨x0, x1, x2, x3, x4⟩ := s4.box
      go_wp2_with fail
      refine (put32_any _ g4 c4 12 _ hop w4 hhop s4.1 rfl (by simp [bytes4]) s4.2.size).mono ?_
      rintro e w5 ⟨g5, c5, rfl, hb5, hg5⟩
      have s5 := s4.step hb5 hg5
      clear x0 x1 x2 x3 x4 hb5 hg5
      obtain ⟨x0, x1, x2, x3, x4⟩ := s5.box
      go_wp2_with fail
      refine (put32_any _ g5 c5 16 _ e2e w5 he2e s5.1 rfl (by simp [bytes4]) s5.2.size).mono ?_
      rintro e w6 ⟨g6, c6, rfl, hb6, hg6⟩
      have s6 : St (w.alloc (boxH f cmd app hop e2e)) w6 g6 c6 (hdrL f cmd app hop e2e) := s5.step hb6 hg6
      clear x0 x1 x2 x3 x4 hb6 hg6 s5 s4 s3 s2 s1
      go_wp2_with fail
      have hoff := off_le hFl
      have hl20 : (hdrL f cmd app hop e2e).length = 20 := rfl
      go_loopw [6, 7] (fun b i wr => ∃ (m g c : Nat), m ≤ k ∧ i = .int .i64 m ∧ b = .slice (some ⟨g, 0, none⟩) (20 + offOf C F V D m) c ∧ St (w.alloc (boxH f cmd app hop e2e)) wr g c (hdrL f cmd app hop e2e ++ encs C F V D m)) (fun _ i _ => k - (intOf i).toNat)
      case atStart => exact ⟨0, g6, c6, by omega, rfl, rfl, by simpa [encs] using s6⟩
      case round =>
        obtain ⟨m, g, c, hm, rfl, rfl, s⟩ := hrel
        have hom := hoff m hm
        have hxl : (hdrL f cmd app hop e2e ++ encs C F V D m).length = 20 + offOf C F V D m := by rw [List.length_append, hl20]; rfl
        obtain ⟨L, hL⟩ : ∃ L, L = 20 + offOf C F V D m := ⟨_, rfl⟩
        rw [← hL] at hxl ⊢
        have hLb : L ≤ 266260 := by omega
        have HL := hide hL
        have HXL := hide hxl
        have HOF := hide hoff
        clear hL hxl hom hoff
        have hbwr : Below w.heap.size w wr := Below.of_alloc s.2
        by_cases hmk : m < k
        · obtain ⟨b, o, hsa, hbb, hcs⟩ := hG.lie (by omega)
          subst hsa
          obtain ⟨q0, q1, q2, q3⟩ := hcs m hmk
          rw [← hbwr.cell (p := ⟨b, _, none⟩) hbb] at q0 q1 q2 q3
          have hsz := hFl.short m hmk
          obtain ⟨d, hd⟩ : ∃ d, d = (D m).length := ⟨_, rfl⟩
          rw [← hd] at q3 hsz
          have hFr := hFl.flag m hmk
          have hand := and128 (F m) hFr
          have HD := hide hd
          clear hd hcs
          by_cases hv : 128 ≤ F m
          · simp only [hv, decide_true] at hand
            have hl8 : hlN (F m) = 12 := by simp [hlN, hv]
            have hvn : vendL (F m) (V m) = bytes4 (V m) := by simp [vendL, hv]
            have HL8 := hide hl8
            have HVN := hide hvn
            clear hl8 hvn
            go_wp2_with fail
            refine (put32_any _ g c L _ (C m) _ (hFl.code m hmk) (s.alloc _).1 HXL.out.symm (by rw [HXL.out]; omega) (s.alloc _).2.size).mono ?_
            rintro e w1 ⟨g1, c1, rfl, hb1, hg1⟩
            have s1 := (s.alloc _).step hb1 hg1
            have bx1 := hide (box_step (s.alloc _).1 (heap_last _ _ _ rfl) hg1)
            have y1 := cell_blk bx1.out 1
            have y2 := cell_blk bx1.out 2
            have y3 := cell_blk bx1.out 3
            simp at y1 y2 y3
            have hbl := lt_of_block bx1.out
            clear hb1 hg1
            have HN := hide (len3_12 (F m) d hsz)
            go_wp2_with (at_builtin; (refine wpList_append_buf rfl (.tmp 89) (.tmp 100) rfl _ g1 c1 (L + 4) _ rfl (by rw [List.length_append, HXL.out]; rfl) (s1.alloc _).1 _ 4 4 [F m, (12 + (d : Int)) / 65536, (12 + (d : Int)) / 256, (12 + (d : Int)) % 256] rfl rfl (by simp) (cells_lit rfl rfl _ rfl) (by rw [List.length_append, HXL.out]; simp [bytes4]; omega) (s1.alloc _).2.size (by simp) ?_; intro g2 c2 w2 hb2 hg2; have s2 := (s1.alloc _).step hb2 hg2; have bx2 := hide (box_step (s1.alloc _).1 (box_alloc bx1.out _) hg2); have z2 := cell_blk bx2.out 2; have z3 := cell_blk bx2.out 3; simp at z2 z3; rw [HN.out] at s2; clear hb2 hg2))
            refine (put32_any _ g2 c2 (L + 4 + 4) _ (V m) _ (hFl.vend m hmk) s2.1 (by rw [List.length_append, List.length_append, HXL.out]; rfl) (by rw [List.length_append, List.length_append, HXL.out]; simp [bytes4, len3]; omega) s2.2.size).mono ?_
            rintro e w3 ⟨g3, c3, rfl, hb3, hg3⟩
            have s3 := s2.step hb3 hg3
            have bx3 := hide (box_step s2.1 bx2.out hg3)
            have v3 := cell_blk bx3.out 3
            simp at v3
            clear hb3 hg3 z2 z3
            go_wp2_with (at_builtin; (refine wpList_append_buf rfl (.tmp 108) (.tmp 110) rfl _ g3 c3 (L + 4 + 4 + 4) _ rfl (by rw [List.length_append, List.length_append, List.length_append, HXL.out]; rfl) s3.1 _ d _ (D m) rfl HD.out (fun h => by rw [HD.out]; exact hG.nodata m hmk h) (data_cells hG m hmk (Below.of_alloc s3.2)) (by rw [List.length_append, List.length_append, List.length_append, HXL.out, ← HD.out]; simp [bytes4, len3]; omega) s3.2.size (by rw [List.length_append, List.length_append, List.length_append, HXL.out]; simp [bytes4, len3]; omega) ?_; intro g4 c4 w4 hb4 hg4; have s4 := s3.step hb4 hg4; clear hb4 hg4))
            clear y1 y2 y3 v3 q0 q1 q2 q3 hbl
            have hlp : (hdrL f cmd app hop e2e ++ encs C F V D m ++ bytes4 (C m) ++ len3 (F m) (12 + d) ++ bytes4 (V m) ++ D m).length = L + 4 + 4 + 4 + d := by rw [List.length_append, List.length_append, List.length_append, List.length_append, HXL.out, ← HD.out]; rfl
            have HLP := hide hlp
            clear hlp
            go_loopw [6, 11] (fun bq iq wq => ∃ (t gq cq : Nat), t ≤ 3 ∧ iq = .int .i64 t ∧ bq = .slice (some ⟨gq, 0, none⟩) (L + 4 + 4 + 4 + d + t) cq ∧ St (w.alloc (boxH f cmd app hop e2e)) wq gq cq (hdrL f cmd app hop e2e ++ encs C F V D m ++ bytes4 (C m) ++ len3 (F m) (12 + d) ++ bytes4 (V m) ++ D m ++ List.replicate t 0) ∧ ∀ r, r < t → (L + 4 + 4 + 4 + d + r) % 4 ≠ 0) (fun _ iq _ => 3 - (intOf iq).toNat)
            case atStart => exact ⟨0, g4, c4, by omega, rfl, rfl, by simpa using s4, fun r hr => by omega⟩
            case round =>
              obtain ⟨t, gq, cq, ht, rfl, rfl, sq, hq⟩ := hrel
              have HQ := hide hq
              clear hq
              by_cases hgo : t < 3 ∧ ¬ (L + 4 + 4 + 4 + d + t) % 4 = 0
              · obtain ⟨ht3, hm4⟩ := hgo
                go_wp2_with (at_builtin; (refine wpList_append_buf rfl (.tmp 122) (.tmp 123) rfl _ gq cq (L + 4 + 4 + 4 + d + t) _ rfl (by rw [List.length_append, HLP.out, List.length_replicate]) (sq.alloc _).1 _ 1 1 [0] rfl rfl (by simp) (cells_lit rfl rfl _ rfl) (by rw [List.length_append, HLP.out, List.length_replicate]; simp; omega) (sq.alloc _).2.size (by simp) ?_; intro g5 c5 w5 hb5 hg5; have s5 := (sq.alloc _).step hb5 hg5; clear hb5 hg5))
                go_roundw
                case rel => exact ⟨t + 1, g5, c5, by omega, by go_num, rfl, by rw [List.append_assoc, ← List.replicate_succ'] at s5; exact s5, fun r hr => pad_step HQ hm4 r hr⟩
                case measure => simp [intOf]; omega
              · have hend : t = 3 ∨ (L + 4 + 4 + 4 + d + t) % 4 = 0 := by omega
                clear hgo
                have hR := rt_round (ys := hdrL f cmd app hop e2e ++ encs C F V D m ++ bytes4 (C m) ++ len3 (F m) (12 + d) ++ bytes4 (V m) ++ D m) HL HD HL8.out (by omega) HQ ht hend (by rw [HVN.out]) sq
                have HR := hide hR
                clear hR
                go_wp2_with fail
                all_goals
                  go_roundw
                  case rel => exact ⟨m + 1, gq, cq, by omega, by go_num, HR.out.1, HR.out.2⟩
                  case measure => simp [intOf]; omega
          · simp only [hv, decide_false] at hand
            have hl8 : hlN (F m) = 8 := by simp [hlN, hv]
            have hvn : vendL (F m) (V m) = [] := by simp [vendL, hv]
            have HL8 := hide hl8
            have HVN := hide hvn
            clear hl8 hvn
            go_wp2_with fail
            refine (put32_any _ g c L _ (C m) _ (hFl.code m hmk) (s.alloc _).1 HXL.out.symm (by rw [HXL.out]; omega) (s.alloc _).2.size).mono ?_
            rintro e w1 ⟨g1, c1, rfl, hb1, hg1⟩
            have s1 := (s.alloc _).step hb1 hg1
            have bx1 := hide (box_step (s.alloc _).1 (heap_last _ _ _ rfl) hg1)
            have y1 := cell_blk bx1.out 1
            have y2 := cell_blk bx1.out 2
            have y3 := cell_blk bx1.out 3
            simp at y1 y2 y3
            have hbl := lt_of_block bx1.out
            clear hb1 hg1
            have HN := hide (len3_8 (F m) d hsz)
            go_wp2_with (first | (at_builtin; (refine wpList_append_buf rfl (.tmp 89) (.tmp 100) rfl _ g1 c1 (L + 4) _ rfl (by rw [List.length_append, HXL.out]; rfl) (s1.alloc _).1 _ 4 4 [F m, (8 + (d : Int)) / 65536, (8 + (d : Int)) / 256, (8 + (d : Int)) % 256] rfl rfl (by simp) (cells_lit rfl rfl _ rfl) (by rw [List.length_append, HXL.out]; simp [bytes4]; omega) (s1.alloc _).2.size (by simp) ?_; intro g2 c2 w2 hb2 hg2; have s2 := (s1.alloc _).step hb2 hg2; have bx2 := hide (box_step (s1.alloc _).1 (box_alloc bx1.out _) hg2); have z2 := cell_blk bx2.out 2; have z3 := cell_blk bx2.out 3; simp at z2 z3; rw [HN.out] at s2; clear hb2 hg2)) | (at_builtin; (refine wpList_append_buf rfl (.tmp 108) (.tmp 110) rfl _ g2 c2 (L + 4 + 4) _ rfl (by rw [List.length_append, List.length_append, HXL.out]; rfl) s2.1 _ d _ (D m) rfl HD.out (fun h => by rw [HD.out]; exact hG.nodata m hmk h) (data_cells hG m hmk (Below.of_alloc s2.2)) (by rw [List.length_append, List.length_append, HXL.out, ← HD.out]; simp [bytes4, len3]; omega) s2.2.size (by rw [List.length_append, List.length_append, HXL.out]; simp [bytes4, len3]; omega) ?_; intro g3 c3 w3 hb3 hg3; have s3 := s2.step hb3 hg3; clear hb3 hg3)))
            clear y1 y2 y3 z2 z3 q0 q1 q2 q3 hbl
            have hlp : (hdrL f cmd app hop e2e ++ encs C F V D m ++ bytes4 (C m) ++ len3 (F m) (8 + d) ++ D m).length = L + 4 + 4 + d := by rw [List.length_append, List.length_append, List.length_append, HXL.out, ← HD.out]; rfl
            have HLP := hide hlp
            clear hlp
            go_loopw [6, 11] (fun bq iq wq => ∃ (t gq cq : Nat), t ≤ 3 ∧ iq = .int .i64 t ∧ bq = .slice (some ⟨gq, 0, none⟩) (L + 4 + 4 + d + t) cq ∧ St (w.alloc (boxH f cmd app hop e2e)) wq gq cq (hdrL f cmd app hop e2e ++ encs C F V D m ++ bytes4 (C m) ++ len3 (F m) (8 + d) ++ D m ++ List.replicate t 0) ∧ ∀ r, r < t → (L + 4 + 4 + d + r) % 4 ≠ 0) (fun _ iq _ => 3 - (intOf iq).toNat)
            case atStart => exact ⟨0, g3, c3, by omega, rfl, rfl, by simpa using s3, fun r hr => by omega⟩
            case round =>
              obtain ⟨t, gq, cq, ht, rfl, rfl, sq, hq⟩ := hrel
              have HQ := hide hq
              clear hq
              by_cases hgo : t < 3 ∧ ¬ (L + 4 + 4 + d + t) % 4 = 0
              · obtain ⟨ht3, hm4⟩ := hgo
                go_wp2_with (at_builtin; (refine wpList_append_buf rfl (.tmp 122) (.tmp 123) rfl _ gq cq (L + 4 + 4 + d + t) _ rfl (by rw [List.length_append, HLP.out, List.length_replicate]) (sq.alloc _).1 _ 1 1 [0] rfl rfl (by simp) (cells_lit rfl rfl _ rfl) (by rw [List.length_append, HLP.out, List.length_replicate]; simp; omega) (sq.alloc _).2.size (by simp) ?_; intro g4 c4 w4 hb4 hg4; have s4 := (sq.alloc _).step hb4 hg4; clear hb4 hg4))
                go_roundw
                case rel => exact ⟨t + 1, g4, c4, by omega, by go_num, rfl, by rw [List.append_assoc, ← List.replicate_succ'] at s4; exact s4, fun r hr => pad_step HQ hm4 r hr⟩
                case measure => simp [intOf]; omega
              · have hend : t = 3 ∨ (L + 4 + 4 + d + t) % 4 = 0 := by omega
                clear hgo
                have hR := rt_round (ys := hdrL f cmd app hop e2e ++ encs C F V D m ++ bytes4 (C m) ++ len3 (F m) (8 + d) ++ D m) HL HD HL8.out (by omega) HQ ht hend (by rw [HVN.out, List.append_nil]) sq
                have HR := hide hR
                clear hR
                go_wp2_with fail
                all_goals
                  go_roundw
                  case rel => exact ⟨m + 1, gq, cq, by omega, by go_num, HR.out.1, HR.out.2⟩
                  case measure => simp [intOf]; omega
        · obtain rfl : m = k := by omega
          have hcap2 := s.1.cap
          rw [HXL.out] at hcap2
          have hLe := HL.out
          have hp := parse_read g c (offOf C F V D m) (fun j => (hdrL f cmd app hop e2e).getD j 0) (tOf C F V D m) wr (by omega) (by omega) hcap2.2 (hdr_bytes f cmd app hop e2e hf) (t_bytes hFl) s.1.lt.2 (s.1.cells hl20)
          rw [← hLe] at hp
          have HP := hide hp
          clear hp hLe
          go_wp2_with fail
          refine HP.out.mono ?_
          rintro e w4 ⟨K, mb, v, er, rfl, hr⟩
          obtain ⟨hKm, hch⟩ := count_is hFl K hr.good (by rcases hr.fin with ⟨_, h⟩ | ⟨_, _, _, _, h1, h2⟩; exact .inl h; exact .inr ⟨h1, h2⟩)
          subst hKm
          obtain rfl : er = .nilIface := by
            rcases hr.fin with ⟨h, _⟩ | ⟨_, _, _, _, h1, _⟩
            · exact h
            · omega
          have hmc := hr.cells
          rw [head_msg f cmd app hop e2e happ hhop he2e] at hmc
          have m0 := cell_blk hmc 0
          have m1 := cell_blk hmc 1
          have m2 := cell_blk hmc 2
          have m3 := cell_blk hmc 3
          have m4 := cell_blk hmc 4
          have m5 := cell_blk hmc 5
          simp at m0 m1 m2 m3 m4 m5
          have hml : mb < w4.heap.size := lt_of_block hmc
          have hand := and24 cmd hcmd
          have hbw4 : Below w.heap.size w w4 := hbwr.trans (hr.below.mono hbwr.size)
          have hwl : w.heap.size < wr.heap.size := by have := s.2.size; simp at this; omega
          obtain ⟨x0, x1, x2, x3, x4⟩ := s.box
          rw [← hr.below.cell (p := ⟨w.heap.size, _, none⟩) hwl] at x0 x1 x2 x3 x4
          obtain ⟨vo, cv, hv⟩ : ∃ vo cv, v = .slice vo K cv := by
            rcases hr.own.2 with ⟨h, h0⟩ | ⟨g3, c3, _, h, _⟩
            · exact ⟨Option.none, 0, by rw [h, h0]⟩
            · exact ⟨_, _, h⟩
          rw [hv] at m5
          have HV := hide hv
          have HR := hide hr
          have HMC := hide hmc
          have HB := hide (s.1.cells hl20)
          have hgl := s.1.lt.2
          have hs4 := hr.below.size
          clear hv hr hmc s hch
          go_wp2_with fail
          go_quiet (fail)
          go_wp2_with fail
          clear m0 m1 m2 m3 m4 x0 x1 x2 x3 x4 hand
          go_loopw [14] (fun i wq => ∃ t : Nat, t ≤ K ∧ i = .int .i64 t ∧ Below w4.heap.size w4 wq) (fun i _ => K - (intOf i).toNat)
          case atStart => exact ⟨0, by omega, rfl, ⟨rfl, rfl, rfl, Nat.le_refl _, fun _ _ => rfl⟩⟩
          case round =>
            obtain ⟨t, ht, rfl, hbq⟩ := hrel
            have hsq := hbq.size
            by_cases htk : t < K
            · obtain ⟨b, o, hsa, hbb, hcs⟩ := hG.lie (by omega)
              subst hsa
              have hbwq : Below w.heap.size w wr := hbw4.trans (hbq.mono hbw4.size)
              obtain ⟨q0, q1, q2, q3⟩ := hcs t htk
              rw [← hbwq.cell (p := ⟨b, _, none⟩) hbb] at q0 q1 q2 q3
              clear hcs
              obtain ⟨g3, c3, hv3, _, hg3b⟩ := own_shape HR.out.own (by omega)
              have hown4 := HR.out.own
              rw [hv3] at hown4
              obtain ⟨a0, a1, a2, a3⟩ := avp_cells hown4 t htk
              rw [chain_off hFl t ht] at a0 a1 a2 a3
              rw [← hbq.cell (p := ⟨g3, _, none⟩) hg3b] at a0 a1 a2 a3
              rw [t_code hFl t htk] at a0
              rw [t_flag t htk] at a1
              rw [t_vend hFl t htk] at a2
              rw [dataV_is hFl _ _ t htk] at a3
              have M5 : wr.cell? ⟨mb, 5, none⟩ = some (.slice (some ⟨g3, 0, none⟩) K c3) := by rw [hbq.cell (p := ⟨mb, 5, none⟩) hml, m5, ← HV.out, hv3]
              clear hown4
              have hgood := (good_off hFl t htk).2.2
              rw [t_len hFl t htk] at hgood
              obtain ⟨d, hd⟩ : ∃ d, d = (D t).length := ⟨_, rfl⟩
              obtain ⟨DD, hDD⟩ : ∃ DD, DD = if c - 20 - offOf C F V D t = hlN (F t) then some (⟨g, 20 + offOf C F V D t, none⟩ : Addr) else some ⟨g, 20 + offOf C F V D t + hlN (F t), none⟩ := ⟨_, rfl⟩
              have cE : ∀ (wx : World), Below wr.heap.size wr wx → ∀ c1 c2, Calls Yba.prog 7 #[.slice DD d c1, .slice (DA t) d c2] wx fun e w' => e = .returned (.bool true) ∧ w' = wx := fun wx hb c1 c2 =>
                equal_same DD (DA t) d c1 d c2 (D t) wx hd hd (data_buf (H := fun j => (hdrL f cmd app hop e2e).getD j 0) hFl htk (fun j hj => by
                  rw [hb.cell (p := ⟨g, j, none⟩) (by show g < wr.heap.size; omega), hbq.cell (p := ⟨g, j, none⟩) (by show g < w4.heap.size; omega), HR.out.below.cell (p := ⟨g, j, none⟩) hgl]; exact HB.out j hj) (fun h => by
                  rw [hDD, if_neg (by have := HL.out; omega)])) (data_arg hG t htk (hbwq.trans (hb.mono hbwq.size)))
              rw [← hd] at a3 q3
              rw [← hDD] at a3
              have hsz := hFl.short t htk
              rw [← hd] at hsz
              have HE := hide cE
              have HD := hide hd
              have HDD := hide hDD
              have hFr := hFl.flag t htk
              have hand := and128 (F t) hFr
              obtain ⟨cD, hcD⟩ : ∃ cD, cD = c - 20 - offOf C F V D t - hlN (F t) := ⟨_, rfl⟩
              rw [← hcD] at a3
              have hbl : b < wr.heap.size := by have := hbwq.size; omega
              have hg3q : g3 < wr.heap.size := by omega
              clear cE hd hDD hcD hgood
              by_cases hv8 : 128 ≤ F t
              · simp only [hv8, decide_true] at hand
                rw [if_pos hv8] at a2
                go_wp2_with (go_at_call 7; refine (HE.out _ (by repeat (first | exact Below.refl _ _ | refine below_drewN ?_ _ | refine Below.drew ?_ | refine below_alloc ?_ _)) _ _).mono ?_; rintro e w' ⟨rfl, rfl⟩)
                go_roundw
                case rel => exact ⟨t + 1, by omega, by go_num, hbq.trans (Below.mono (by repeat (first | exact Below.refl _ _ | refine below_drewN ?_ _ | refine Below.drew ?_ | refine below_alloc ?_ _)) hsq)⟩
                case measure => simp [intOf]; omega
              · simp only [hv8, decide_false] at hand
                rw [if_neg hv8] at a2
                go_wp2_with (go_at_call 7; refine (HE.out _ (by repeat (first | exact Below.refl _ _ | refine below_drewN ?_ _ | refine Below.drew ?_ | refine below_alloc ?_ _)) _ _).mono ?_; rintro e w' ⟨rfl, rfl⟩)
                go_roundw
                case rel => exact ⟨t + 1, by omega, by go_num, hbq.trans (Below.mono (by repeat (first | exact Below.refl _ _ | refine below_drewN ?_ _ | refine Below.drew ?_ | refine below_alloc ?_ _)) hsq)⟩
                case measure => simp [intOf]; omega
            · go_wp2_with fail
              go_ret
              exact ⟨rfl, hbw4.trans (hbq.mono hbw4.size)⟩
end Go.Proofs.Ybulkabdw
