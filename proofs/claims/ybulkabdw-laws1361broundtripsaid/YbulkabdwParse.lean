import Derived.Test.YbulkabdwCalls
import Derived.Deep.RegionWith
import Derived.RegionTactic
import Derived.Lib.MinMax
namespace Go.Proofs.Ybulkabdw
open Go.RowKit

theorem Yba.info41 : (Yba.prog.info? 41).map (fun i => (i.zero, i.size, i.bytes)) = some (some (.agg #[.int .u32 0, .int .u8 0, .int .u32 0, .slice none 0 0]), 4, 40) := by kernel_rfl

theorem alloc_drewN (w : World) (k : Nat) (o : Obj) : (w.drewN k).alloc o = (w.alloc o).drewN k := rfl
theorem setCell_drewN (w : World) (k : Nat) (a : Addr) (v : Value) : (w.drewN k).setCell a v = (w.setCell a v).drewN k := rfl
attribute [local go_sem] alloc_drewN setCell_drewN

/-- the data of the AVP at p -/
def dataV (g o cap : Nat) (B : Nat → Int) (p : Nat) : Value :=
  .slice (if cap - p = hlN (B (p + 4)) then some ⟨g, o + p, none⟩ else some ⟨g, o + p + hlN (B (p + 4)), none⟩) (nAt B p - hlN (B (p + 4))) (cap - p - hlN (B (p + 4)))
def avpCells (g o cap : Nat) (B : Nat → Int) (p : Nat) : List Value := [.int .u32 (codeAt B p), .int .u8 (B (p + 4)), .int .u32 (vendAt B p), dataV g o cap B p]
def avpsCells (g o cap : Nat) (B : Nat → Int) (K : Nat) : List Value := (List.range K).flatMap fun i => avpCells g o cap B (chain B i)

def lenV : Value → Nat | .slice _ n _ => n | _ => 0

/-- what parseAVPs hands back -/
def ParsedTo (g o len cap : Nat) (B : Nat → Int) (w : World) (e : Ending) (w' : World) : Prop :=
  ∃ (K : Nat) (v er : Value), e = .returned (.tuple #[v, er]) ∧ w'.ownsRow w.heap.size 41 4 v K (avpsCells g o cap B K) ∧ Below w.heap.size w w' ∧ (∀ i, i < K → Good B len (chain B i)) ∧
    ((er = .nilIface ∧ len ≤ chain B K) ∨ ∃ eb : Nat, er = .iface 46 (.pointer (some ⟨eb, 0, none⟩)) ∧ w.heap.size ≤ eb ∧ (∃ fl vd dv, w'.heap[eb]? = some (.cells #[.int .u32 (if len - chain B K < 4 then 0 else codeAt B (chain B K)), fl, vd, dv] 49 (0, 0))) ∧ chain B K < len ∧ ¬ Good B len (chain B K))

theorem own_below {w w' : World} {base e size n : Nat} {v : Value} {xs : List Value} (h : w.ownsRow base e size v n xs) (hb : Below w.heap.size w w') : w'.ownsRow base e size v n xs :=
  h.kept (row := none) ⟨hb.os, hb.tape, hb.output, hb.size, fun k hk _ => hb.block k hk⟩ (by cases hv : v.ownBlock <;> simp)

theorem mk_err {g o len cap : Nat} {B : Nat → Int} {w wr w' : World} {K pos cv eb : Nat} {ao : Option Addr} {c : Int} {fl vd dv : Value} (HP : Hid (pos = min (chain B K) len)) (hlt : pos < len)
    (HO : Hid (wr.ownsRow w.heap.size 41 4 (.slice ao K cv) K (avpsCells g o cap B K))) (HG : Hid (∀ i, i < K → Good B len (chain B i))) (hnx : Below w.heap.size w wr)
    (hb : Below wr.heap.size wr w') (heb : wr.heap.size ≤ eb) (hblk : w'.heap[eb]? = some (.cells #[.int .u32 c, fl, vd, dv] 49 (0, 0))) (hcd : c = if len - pos < 4 then 0 else codeAt B pos) (hng : ¬ Good B len pos) :
    ParsedTo g o len cap B w (.returned (.tuple #[.slice ao K cv, .iface 46 (.pointer (some ⟨eb, 0, none⟩))])) w' := by
  have hch : chain B K = pos := by have := HP.out; omega
  have hs := hnx.size
  refine ⟨K, _, _, rfl, own_below HO.out hb, hnx.trans (hb.mono hs), HG.out, .inr ⟨eb, rfl, by omega, ⟨fl, vd, dv, ?_⟩, by omega, by rw [hch]; exact hng⟩⟩
  rw [hblk, hch, hcd]

theorem below_drewN {b : Nat} {a w : World} (h : Below b a w) (k : Nat) : Below b a (w.drewN k) := ⟨h.os, h.tape, h.output, h.size, h.block⟩

theorem below_alloc {a w : World} (h : Below a.heap.size a w) (o : Obj) : Below a.heap.size a (w.alloc o) := h.alloc h.size o

theorem hide {p : Prop} (h : p) : Hid p := h

theorem heap_last (w : World) (b : Obj) (n : Nat) (h : n = w.heap.size) : (w.alloc b).heap[n]? = some b := by
  subst h; exact heap_alloc_new w b

theorem cell_four_new (w : World) (k n : Nat) (x y z d : Value) (t : TypeId) (hn : n = w.heap.size) : ∀ j u, [x, y, z, d][j]? = some u → ((w.alloc (.cells #[x, y, z, d] t)).drewN k).cell? ((⟨n, 0, none⟩ : Addr).add j) = some u := by
  subst hn
  intro j u hj
  match j, hj with
  | 0, hj => simp at hj; subst hj; simp [Addr.add]
  | 1, hj => simp at hj; subst hj; simp [Addr.add]
  | 2, hj => simp at hj; subst hj; simp [Addr.add]
  | 3, hj => simp at hj; subst hj; simp [Addr.add]
  | (j + 4), hj => simp at hj

theorem avpsCells_succ (g o cap : Nat) (B : Nat → Int) (K : Nat) : avpsCells g o cap B (K + 1) = avpsCells g o cap B K ++ avpCells g o cap B (chain B K) := by
  simp [avpsCells, List.range_succ, List.flatMap_append]

/-- what a round that reads an AVP does to the relation -/
theorem round_ok {g o len cap : Nat} {B : Nat → Int} {w wr W w3 : World} {K pos cv N H M : Nat} {ao : Option Addr} {v3 : Value} {F V : Int} {A A2 : Addr} (hlc : len ≤ cap) (HP : Hid (pos = min (chain B K) len)) (hlt : pos < len)
    (HO : Hid (wr.ownsRow w.heap.size 41 4 (.slice ao K cv) K (avpsCells g o cap B K))) (HG : Hid (∀ i, i < K → Good B len (chain B i))) (hnx : Below w.heap.size w wr) (HN : Hid (N = nAt B pos)) (HF : Hid (F = B (pos + 4))) (HL : Hid (hlN F = H))
    (h8 : ¬ len - pos < 8) (hn : H ≤ N) (hn2 : N ≤ len - pos) (hV : V = vendAt B pos) (hA : (if cap - pos = H then some (⟨g, o + pos, none⟩ : Addr) else some ⟨g, o + pos + H, none⟩) = some A)
    (HM : Hid (M = min (pad N) (len - pos))) (hA2 : (if cap - pos = M then some (⟨g, o + pos, none⟩ : Addr) else some ⟨g, o + pos + M, none⟩) = some A2)
    (hb : Below wr.heap.size wr W) (hown3 : w3.ownsRow w.heap.size 41 4 v3 (K + 1) (avpsCells g o cap B K ++ [.int .u32 (codeAt B pos), .int .u8 F, .int .u32 V, .slice (some A) (N - H) (cap - pos - H)]))
    (hgrow3 : W.grownBy w3 (Value.slice ao K cv).ownBlock) :
    ∃ (K' pos' : Nat) (sa' ao' : Option Addr) (cv' : Nat), pos' = min (chain B K') len ∧ Value.slice (some A2) (len - pos - M) (cap - pos - M) = .slice sa' (len - pos') (cap - pos') ∧ v3 = .slice ao' K' cv' ∧ (pos' < len → sa' = some ⟨g, o + pos', none⟩) ∧
      w3.ownsRow w.heap.size 41 4 v3 K' (avpsCells g o cap B K') ∧ Below w.heap.size w w3 ∧ (∀ i, i < K' → Good B len (chain B i)) := by
  have hch : chain B K = pos := by have := HP.out; omega
  have hM := HM.out
  have hpd := pad_ge N
  obtain ⟨g3, cap3, hv3⟩ : ∃ g3 cap3, v3 = .slice (some ⟨g3, 0, none⟩) (K + 1) cap3 := by
    rcases hown3.2 with ⟨_, h⟩ | ⟨g3, cap3, _, h, _⟩
    · omega
    · exact ⟨g3, cap3, h⟩
  have hs := hnx.size
  have hbW : Below w.heap.size w W := hnx.trans (hb.mono hs)
  have hgd : Good B len pos := ⟨by omega, by rw [← HF.out, HL.out, ← HN.out]; exact hn, by rw [← HN.out]; omega⟩
  refine ⟨K + 1, pos + M, some A2, some ⟨g3, 0, none⟩, cap3, ?_, ?_, hv3, ?_, ?_, ?_, ?_⟩
  · simp only [chain, hch, ← HN.out]; omega
  · rw [show len - (pos + M) = len - pos - M by omega, show cap - (pos + M) = cap - pos - M by omega]
  · intro h
    rw [if_neg (by omega)] at hA2
    rw [← hA2, Nat.add_assoc]
  · rw [avpsCells_succ, hch]
    have e : avpCells g o cap B pos = [.int .u32 (codeAt B pos), .int .u8 F, .int .u32 V, .slice (some A) (N - H) (cap - pos - H)] := by
      unfold avpCells dataV
      rw [← HF.out, HL.out, ← HN.out, hA, hV]
    rw [e]; exact hown3
  · exact hbW.grown hgrow3 (by have := hbW.size; omega) (fun j hj => (HO.out.lt j hj).1)
  · intro i hi
    rcases Nat.lt_or_ge i K with h | h
    · exact HG.out i h
    · obtain rfl : i = K := by omega
      rw [hch]; exact hgd

set_option maxHeartbeats 3200000 in
theorem parseAVPs_any (g o len cap : Nat) (sa0 : Option Addr) (B : Nat → Int) (w : World) (hlc : len ≤ cap) (hlen : len ≤ 1099511627776) (hcap : cap ≤ 9223372036854775807) (hB : Bytes B) (hsa : 0 < len → sa0 = some ⟨g, o, none⟩ ∧ g < w.heap.size)
    (hc : ∀ j, j < len → w.cell? ⟨g, o + j, none⟩ = some (.int .u8 (B j))) :
    Calls Yba.prog 11 #[.slice sa0 len cap] w fun e w' => ParsedTo g o len cap B w e w' := by
  obtain ⟨i0, hi, hz0, hz1, hz2⟩ := info_parts Yba.info41
  go_enter Yba.func11, Yba.ntmps11
  go_wp2
  go_loopw [0, 4] (fun sv v wr => ∃ (K pos : Nat) (sa ao : Option Addr) (cv : Nat), pos = min (chain B K) len ∧ sv = .slice sa (len - pos) (cap - pos) ∧ v = .slice ao K cv ∧ (pos < len → sa = some ⟨g, o + pos, none⟩) ∧
      wr.ownsRow w.heap.size 41 4 v K (avpsCells g o cap B K) ∧ Below w.heap.size w wr ∧ (∀ i, i < K → Good B len (chain B i)))
    (fun sv _ _ => lenV sv)
  case atStart => exact ⟨0, 0, sa0, none, 0, by simp [chain], by simp, rfl, fun h => by simpa using (hsa h).1, World.ownsRow_nil _ _ _ _, Below.refl _ _, fun i hi => by omega⟩
  case round =>
    obtain ⟨K, pos, sa, ao, cv, hpos, rfl, rfl, hAd, hown, hnx, hgood⟩ := hrel
    have hpl : pos ≤ len := by omega
    have HP : Hid (pos = min (chain B K) len) := hpos
    have HO : Hid (wr.ownsRow w.heap.size 41 4 (.slice ao K cv) K (avpsCells g o cap B K)) := hown
    have HG : Hid (∀ i, i < K → Good B len (chain B i)) := hgood
    have hK := count_le B len K hgood
    have hsize := hnx.size
    clear hpos hown hgood
    by_cases hlt : pos < len
    · obtain rfl := hAd hlt
      have hgw := (hsa (by omega)).2
      have hgr : g < wr.heap.size := by omega
      have hcr : ∀ j, pos + j < len → wr.cell? ⟨g, o + pos + j, none⟩ = some (.int .u8 (B (pos + j))) := fun j hj => by
        rw [hnx.cell (p := ⟨g, o + pos + j, none⟩) hgw, Nat.add_assoc]; exact hc (pos + j) hj
      clear hAd hc hsa
      have HC : Hid (∀ j, pos + j < len → wr.cell? ⟨g, o + pos + j, none⟩ = some (.int .u8 (B (pos + j)))) := hcr
      clear hcr
      by_cases h4 : len - pos < 4
      · go_wp2
        go_region
        all_goals go_wp2
        all_goals go_ret2
        all_goals exact mk_err HP hlt HO HG hnx ((((Below.refl _ _).alloc (Nat.le_refl _) _).alloc (by simp) _).drew) (by simp) (heap_last _ _ _ (by simp)) (by rw [if_pos h4]) (fun hg => by have := hg.1; omega)
      · have c0 := HC.out 0 (by omega)
        have c1 := HC.out 1 (by omega)
        have c2 := HC.out 2 (by omega)
        have c3 := HC.out 3 (by omega)
        simp only [Nat.add_zero] at c0
        have hcode : codeAt B pos = be4 (B pos) (B (pos + 1)) (B (pos + 2)) (B (pos + 3)) := rfl
        have cC : ∀ (wx : World) (n c : Nat), 4 ≤ n → Below wr.heap.size wr wx → Calls Yba.prog 10 #[.agg #[], .slice (some ⟨g, o + pos, none⟩) n c] wx fun e w' => e = .returned (.int .u32 (codeAt B pos)) ∧ ∃ k, w' = (wx.alloc (.cells #[] 52)).drewN k := fun wx n c hn hb => by
          rw [hcode]
          exact u32_any g (o + pos) n c _ _ _ _ wx hn (hB _) (hB _) (hB _) (hB _) ((hb.cell hgr).trans c0) ((hb.cell hgr).trans c1) ((hb.cell hgr).trans c2) ((hb.cell hgr).trans c3)
        have HCC := hide cC
        clear cC hcode
        by_cases h8 : len - pos < 8
        · go_wp2_with (go_at_call 10; refine (HCC.out _ _ _ (by omega) (by repeat (first | exact Below.refl _ _ | refine below_drewN ?_ _ | refine Below.drew ?_ | refine below_alloc ?_ _))).mono ?_; rintro e w1 ⟨rfl, k1, rfl⟩)
          go_region
          all_goals go_wp2
          all_goals go_ret2
          all_goals exact mk_err HP hlt HO HG hnx (by repeat (first | exact Below.refl _ _ | refine below_drewN ?_ _ | refine Below.drew ?_ | refine below_alloc ?_ _)) (by first | omega | simp) (heap_last _ _ _ (by simp)) (by rw [if_neg h4]) (fun hg => by have := hg.1; omega)
        · have c4 := HC.out 4 (by omega)
          have c5 := HC.out 5 (by omega)
          have c6 := HC.out 6 (by omega)
          have c7 := HC.out 7 (by omega)
          obtain ⟨N, hN⟩ : ∃ N : Nat, N = nAt B pos := ⟨_, rfl⟩
          have hN3 : be3 (B (pos + 5)) (B (pos + 6)) (B (pos + 7)) = (N : Int) := by
            have := be3_range (hB (pos + 5)) (hB (pos + 6)) (hB (pos + 7)); rw [hN]; unfold nAt; omega
          have hNle : N ≤ 16777215 := by have := be3_range (hB (pos + 5)) (hB (pos + 6)) (hB (pos + 7)); omega
          have cN : ∀ (wx : World) (c : Nat), Below wr.heap.size wr wx → Calls Yba.prog 9 #[.slice (some ⟨g, o + pos + 5, none⟩) 3 c] wx fun e w' => e = .returned (.int .u32 (N : Nat)) ∧ ∃ k, w' = wx.drewN k := fun wx c hb => by
            rw [← hN3]
            exact uint24_any g (o + pos + 5) 3 c _ _ _ wx (by omega) (hB _) (hB _) (hB _) ((hb.cell hgr).trans c5) ((hb.cell hgr).trans c6) ((hb.cell hgr).trans c7)
          have HCN := hide cN
          have HN := hide hN
          have n5 : ¬ cap - pos = 5 := by omega
          clear cN hN hN3 c0 c1 c2 c3 c5 c6 c7
          obtain ⟨F, hF⟩ : ∃ F, F = B (pos + 4) := ⟨_, rfl⟩
          rw [← hF] at c4
          have hFr : 0 ≤ F ∧ F ≤ 255 := by rw [hF]; exact hB _
          have hand := and128 F hFr
          have HF := hide hF
          clear hF
          by_cases hv : 128 ≤ F
          · simp only [hv, decide_true] at hand
            have hl12 : hlN F = 12 := by simp [hlN, hv]
            have cH : ∀ (cd vd : Int) (d : Value) (wx : World), Calls Yba.prog 12 #[.agg #[.int .u32 cd, .int .u8 F, .int .u32 vd, d]] wx fun e w' => e = .returned (.int .i64 12) ∧ w' = wx.alloc (.cells #[.int .u32 cd, .int .u8 F, .int .u32 vd, d] 41) := fun cd vd d wx => by
              have := headerLen_any cd F vd d wx hFr
              rw [hl12] at this; exact this
            have HCH := hide cH
            have HL := hide hl12
            clear cH hl12
            by_cases h12 : len - pos < 12
            · -- no vendor is read; the length is below 12 or runs past the list
              by_cases hn : N < 12
              · skip
                go_wp2_with (first | (go_at_call 10; refine (HCC.out _ _ _ (by omega) (by repeat (first | exact Below.refl _ _ | refine below_drewN ?_ _ | refine Below.drew ?_ | refine below_alloc ?_ _))).mono ?_; rintro e w1 ⟨rfl, k1, rfl⟩) | (go_at_call 9; refine (HCN.out _ _ (by repeat (first | exact Below.refl _ _ | refine below_drewN ?_ _ | refine Below.drew ?_ | refine below_alloc ?_ _))).mono ?_; rintro e w1 ⟨rfl, k2, rfl⟩) | (go_at_call 12; refine (HCH.out _ _ _ _).mono ?_; rintro e w1 ⟨rfl, rfl⟩))
                go_region
                all_goals go_wp2
                all_goals go_ret2
                all_goals exact mk_err HP hlt HO HG hnx (by repeat (first | exact Below.refl _ _ | refine below_drewN ?_ _ | refine Below.drew ?_ | refine below_alloc ?_ _)) (by first | omega | simp) (heap_last _ _ _ (by simp)) (by rw [if_neg h4]) (fun hg => by have h1 := hg.2.1; have h2 := hg.2.2; rw [← HF.out, HL.out, ← HN.out] at h1; rw [← HN.out] at h2; omega)
              · have hn2 : len - pos < N := by omega
                go_wp2_with (first | (go_at_call 10; refine (HCC.out _ _ _ (by omega) (by repeat (first | exact Below.refl _ _ | refine below_drewN ?_ _ | refine Below.drew ?_ | refine below_alloc ?_ _))).mono ?_; rintro e w1 ⟨rfl, k1, rfl⟩) | (go_at_call 9; refine (HCN.out _ _ (by repeat (first | exact Below.refl _ _ | refine below_drewN ?_ _ | refine Below.drew ?_ | refine below_alloc ?_ _))).mono ?_; rintro e w1 ⟨rfl, k2, rfl⟩) | (go_at_call 12; refine (HCH.out _ _ _ _).mono ?_; rintro e w1 ⟨rfl, rfl⟩))
                go_region
                all_goals go_wp2
                all_goals go_ret2
                all_goals exact mk_err HP hlt HO HG hnx (by repeat (first | exact Below.refl _ _ | refine below_drewN ?_ _ | refine Below.drew ?_ | refine below_alloc ?_ _)) (by first | omega | simp) (heap_last _ _ _ (by simp)) (by rw [if_neg h4]) (fun hg => by have h1 := hg.2.1; have h2 := hg.2.2; rw [← HF.out, HL.out, ← HN.out] at h1; rw [← HN.out] at h2; omega)
            · -- the vendor
              have c8 := HC.out 8 (by omega)
              have c9 := HC.out 9 (by omega)
              have c10 := HC.out 10 (by omega)
              have c11 := HC.out 11 (by omega)
              have hvend : vendAt B pos = be4 (B (pos + 8)) (B (pos + 9)) (B (pos + 10)) (B (pos + 11)) := by unfold vendAt; rw [if_pos (by rw [← HF.out]; exact hv)]
              have cV : ∀ (wx : World) (c : Nat), Below wr.heap.size wr wx → Calls Yba.prog 10 #[.agg #[], .slice (some ⟨g, o + pos + 8, none⟩) 4 c] wx fun e w' => e = .returned (.int .u32 (vendAt B pos)) ∧ ∃ k, w' = (wx.alloc (.cells #[] 52)).drewN k := fun wx c hb => by
                rw [hvend]
                exact u32_any g (o + pos + 8) 4 c _ _ _ _ wx (by omega) (hB _) (hB _) (hB _) (hB _) ((hb.cell hgr).trans c8) ((hb.cell hgr).trans c9) ((hb.cell hgr).trans c10) ((hb.cell hgr).trans c11)
              have HCV := hide cV
              have n8 : ¬ cap - pos = 8 := by omega
              clear cV hvend c8 c9 c10 c11
              go_wp2_with (go_at_call 10; refine (HCC.out _ _ _ (by omega) (by repeat (first | exact Below.refl _ _ | refine below_drewN ?_ _ | refine Below.drew ?_ | refine below_alloc ?_ _))).mono ?_; rintro e w1 ⟨rfl, k1, rfl⟩)
              go_region_with (go_at_call 10; refine (HCV.out _ _ (by repeat (first | exact Below.refl _ _ | refine below_drewN ?_ _ | refine Below.drew ?_ | refine below_alloc ?_ _))).mono ?_; rintro e w1 ⟨rfl, k3, rfl⟩)
              all_goals
                by_cases hn : N < 12
                · skip
                  go_wp2_with (first | (go_at_call 10; refine (HCC.out _ _ _ (by omega) (by repeat (first | exact Below.refl _ _ | refine below_drewN ?_ _ | refine Below.drew ?_ | refine below_alloc ?_ _))).mono ?_; rintro e w1 ⟨rfl, k1, rfl⟩) | (go_at_call 9; refine (HCN.out _ _ (by repeat (first | exact Below.refl _ _ | refine below_drewN ?_ _ | refine Below.drew ?_ | refine below_alloc ?_ _))).mono ?_; rintro e w1 ⟨rfl, k2, rfl⟩) | (go_at_call 12; refine (HCH.out _ _ _ _).mono ?_; rintro e w1 ⟨rfl, rfl⟩))
                  go_region
                  all_goals go_wp2
                  all_goals go_ret2
                  all_goals exact mk_err HP hlt HO HG hnx (by repeat (first | exact Below.refl _ _ | refine below_drewN ?_ _ | refine Below.drew ?_ | refine below_alloc ?_ _)) (by first | omega | simp) (heap_last _ _ _ (by simp)) (by rw [if_neg h4]) (fun hg => by have h1 := hg.2.1; have h2 := hg.2.2; rw [← HF.out, HL.out, ← HN.out] at h1; rw [← HN.out] at h2; omega)
                · by_cases hn2 : len - pos < N
                  · skip
                    go_wp2_with (first | (go_at_call 10; refine (HCC.out _ _ _ (by omega) (by repeat (first | exact Below.refl _ _ | refine below_drewN ?_ _ | refine Below.drew ?_ | refine below_alloc ?_ _))).mono ?_; rintro e w1 ⟨rfl, k1, rfl⟩) | (go_at_call 9; refine (HCN.out _ _ (by repeat (first | exact Below.refl _ _ | refine below_drewN ?_ _ | refine Below.drew ?_ | refine below_alloc ?_ _))).mono ?_; rintro e w1 ⟨rfl, k2, rfl⟩) | (go_at_call 12; refine (HCH.out _ _ _ _).mono ?_; rintro e w1 ⟨rfl, rfl⟩))
                    go_region
                    all_goals go_wp2
                    all_goals go_ret2
                    all_goals exact mk_err HP hlt HO HG hnx (by repeat (first | exact Below.refl _ _ | refine below_drewN ?_ _ | refine Below.drew ?_ | refine below_alloc ?_ _)) (by first | omega | simp) (heap_last _ _ _ (by simp)) (by rw [if_neg h4]) (fun hg => by have h1 := hg.2.1; have h2 := hg.2.2; rw [← HF.out, HL.out, ← HN.out] at h1; rw [← HN.out] at h2; omega)
                  · skip
                    obtain ⟨A, hA⟩ : ∃ A : Addr, (if cap - pos = 12 then some (⟨g, o + pos, none⟩ : Addr) else some ⟨g, o + pos + 12, none⟩) = some A := by split <;> exact ⟨_, rfl⟩
                    obtain ⟨M, hM⟩ : ∃ M, M = min (pad N) (len - pos) := ⟨_, rfl⟩
                    have hMl : M ≤ len - pos := by omega
                    have hMp : 0 < M := by have := pad_ge N; omega
                    have hmin : min ((pad N : Nat) : Int) ((len - pos : Nat) : Int) = (M : Nat) := by omega
                    obtain ⟨A2, hA2⟩ : ∃ A2 : Addr, (if cap - pos = M then some (⟨g, o + pos, none⟩ : Addr) else some ⟨g, o + pos + M, none⟩) = some A2 := by split <;> exact ⟨_, rfl⟩
                    have HM := hide hM
                    clear hM
                    set_option maxRecDepth 4000 in
                    go_wp2_with (first | (go_at_call 10; refine (HCC.out _ _ _ (by omega) (by repeat (first | exact Below.refl _ _ | refine below_drewN ?_ _ | refine Below.drew ?_ | refine below_alloc ?_ _))).mono ?_; rintro e w1 ⟨rfl, k1, rfl⟩) | (go_at_call 9; refine (HCN.out _ _ (by repeat (first | exact Below.refl _ _ | refine below_drewN ?_ _ | refine Below.drew ?_ | refine below_alloc ?_ _))).mono ?_; rintro e w1 ⟨rfl, k2, rfl⟩) | (go_at_call 12; refine (HCH.out _ _ _ _).mono ?_; rintro e w1 ⟨rfl, rfl⟩) | (go_at_call 13; refine (padded_any N _ (by omega)).mono ?_; rintro e w1 ⟨rfl, rfl⟩) | (at_builtin; refine wpList_append_own _ rfl (.tmp 68) (.tmp 70) 36 rfl w.heap.size 41 i0 (.agg #[.int .u32 0, .int .u8 0, .int .u32 0, .slice none 0 0]) 4 40 Yba.underlying36 hi hz0 hz1 hz2 rfl (by decide) _ _ _ rfl (own_below HO.out (by repeat (first | exact Below.refl _ _ | refine below_drewN ?_ _ | refine Below.drew ?_ | refine below_alloc ?_ _))) _ 1 1 [.int .u32 (codeAt B pos), .int .u8 F, .int .u32 (vendAt B pos), .slice (some A) (N - 12) (cap - pos - 12)] rfl rfl (cell_four_new _ _ _ _ _ _ _ _ (by simp)) (by intro u hu; simp at hu; rcases hu with rfl | rfl | rfl | rfl <;> rfl) (by unfold maxLen; omega) (by omega) (by simp; omega) ?_; intro v3 w3 hown3 hgrow3 hnil3))
                    go_roundw
                    case rel => exact round_ok hlc HP hlt HO HG hnx HN HF HL h8 (by omega) (by omega) rfl hA HM hA2 (by repeat (first | exact Below.refl _ _ | refine below_drewN ?_ _ | refine Below.drew ?_ | refine below_alloc ?_ _)) hown3 hgrow3
                    case measure => simp [lenV]; omega
          · simp only [hv, decide_false] at hand
            have hl8 : hlN F = 8 := by simp [hlN, hv]
            have cH : ∀ (cd vd : Int) (d : Value) (wx : World), Calls Yba.prog 12 #[.agg #[.int .u32 cd, .int .u8 F, .int .u32 vd, d]] wx fun e w' => e = .returned (.int .i64 8) ∧ w' = wx.alloc (.cells #[.int .u32 cd, .int .u8 F, .int .u32 vd, d] 41) := fun cd vd d wx => by
              have := headerLen_any cd F vd d wx hFr
              rw [hl8] at this; exact this
            have HCH := hide cH
            have HL := hide hl8
            clear cH hl8
            by_cases hn : N < 8
            · skip
              go_wp2_with (first | (go_at_call 10; refine (HCC.out _ _ _ (by omega) (by repeat (first | exact Below.refl _ _ | refine below_drewN ?_ _ | refine Below.drew ?_ | refine below_alloc ?_ _))).mono ?_; rintro e w1 ⟨rfl, k1, rfl⟩) | (go_at_call 9; refine (HCN.out _ _ (by repeat (first | exact Below.refl _ _ | refine below_drewN ?_ _ | refine Below.drew ?_ | refine below_alloc ?_ _))).mono ?_; rintro e w1 ⟨rfl, k2, rfl⟩) | (go_at_call 12; refine (HCH.out _ _ _ _).mono ?_; rintro e w1 ⟨rfl, rfl⟩))
              go_region
              all_goals go_wp2
              all_goals go_ret2
              all_goals exact mk_err HP hlt HO HG hnx (by repeat (first | exact Below.refl _ _ | refine below_drewN ?_ _ | refine Below.drew ?_ | refine below_alloc ?_ _)) (by first | omega | simp) (heap_last _ _ _ (by simp)) (by rw [if_neg h4]) (fun hg => by have h1 := hg.2.1; have h2 := hg.2.2; rw [← HF.out, HL.out, ← HN.out] at h1; rw [← HN.out] at h2; omega)
            · by_cases hn2 : len - pos < N
              · skip
                go_wp2_with (first | (go_at_call 10; refine (HCC.out _ _ _ (by omega) (by repeat (first | exact Below.refl _ _ | refine below_drewN ?_ _ | refine Below.drew ?_ | refine below_alloc ?_ _))).mono ?_; rintro e w1 ⟨rfl, k1, rfl⟩) | (go_at_call 9; refine (HCN.out _ _ (by repeat (first | exact Below.refl _ _ | refine below_drewN ?_ _ | refine Below.drew ?_ | refine below_alloc ?_ _))).mono ?_; rintro e w1 ⟨rfl, k2, rfl⟩) | (go_at_call 12; refine (HCH.out _ _ _ _).mono ?_; rintro e w1 ⟨rfl, rfl⟩))
                go_region
                all_goals go_wp2
                all_goals go_ret2
                all_goals exact mk_err HP hlt HO HG hnx (by repeat (first | exact Below.refl _ _ | refine below_drewN ?_ _ | refine Below.drew ?_ | refine below_alloc ?_ _)) (by first | omega | simp) (heap_last _ _ _ (by simp)) (by rw [if_neg h4]) (fun hg => by have h1 := hg.2.1; have h2 := hg.2.2; rw [← HF.out, HL.out, ← HN.out] at h1; rw [← HN.out] at h2; omega)
              · skip
                obtain ⟨A, hA⟩ : ∃ A : Addr, (if cap - pos = 8 then some (⟨g, o + pos, none⟩ : Addr) else some ⟨g, o + pos + 8, none⟩) = some A := by split <;> exact ⟨_, rfl⟩
                obtain ⟨M, hM⟩ : ∃ M, M = min (pad N) (len - pos) := ⟨_, rfl⟩
                have hMl : M ≤ len - pos := by omega
                have hMp : 0 < M := by have := pad_ge N; omega
                have hmin : min ((pad N : Nat) : Int) ((len - pos : Nat) : Int) = (M : Nat) := by omega
                obtain ⟨A2, hA2⟩ : ∃ A2 : Addr, (if cap - pos = M then some (⟨g, o + pos, none⟩ : Addr) else some ⟨g, o + pos + M, none⟩) = some A2 := by split <;> exact ⟨_, rfl⟩
                have HM := hide hM
                clear hM
                set_option maxRecDepth 4000 in
                go_wp2_with (first | (go_at_call 10; refine (HCC.out _ _ _ (by omega) (by repeat (first | exact Below.refl _ _ | refine below_drewN ?_ _ | refine Below.drew ?_ | refine below_alloc ?_ _))).mono ?_; rintro e w1 ⟨rfl, k1, rfl⟩) | (go_at_call 9; refine (HCN.out _ _ (by repeat (first | exact Below.refl _ _ | refine below_drewN ?_ _ | refine Below.drew ?_ | refine below_alloc ?_ _))).mono ?_; rintro e w1 ⟨rfl, k2, rfl⟩) | (go_at_call 12; refine (HCH.out _ _ _ _).mono ?_; rintro e w1 ⟨rfl, rfl⟩) | (go_at_call 13; refine (padded_any N _ (by omega)).mono ?_; rintro e w1 ⟨rfl, rfl⟩) | (at_builtin; refine wpList_append_own _ rfl (.tmp 68) (.tmp 70) 36 rfl w.heap.size 41 i0 (.agg #[.int .u32 0, .int .u8 0, .int .u32 0, .slice none 0 0]) 4 40 Yba.underlying36 hi hz0 hz1 hz2 rfl (by decide) _ _ _ rfl (own_below HO.out (by repeat (first | exact Below.refl _ _ | refine below_drewN ?_ _ | refine Below.drew ?_ | refine below_alloc ?_ _))) _ 1 1 [.int .u32 (codeAt B pos), .int .u8 F, .int .u32 0, .slice (some A) (N - 8) (cap - pos - 8)] rfl rfl (cell_four_new _ _ _ _ _ _ _ _ (by simp)) (by intro u hu; simp at hu; rcases hu with rfl | rfl | rfl | rfl <;> rfl) (by unfold maxLen; omega) (by omega) (by simp; omega) ?_; intro v3 w3 hown3 hgrow3 hnil3))
                go_roundw
                case rel => exact round_ok hlc HP hlt HO HG hnx HN HF HL h8 (by omega) (by omega) (by unfold vendAt; rw [← HF.out, if_neg (by omega)]) hA HM hA2 (by repeat (first | exact Below.refl _ _ | refine below_drewN ?_ _ | refine Below.drew ?_ | refine below_alloc ?_ _)) hown3 hgrow3
                case measure => simp [lenV]; omega
    · go_wp2
      go_ret2
      exact ⟨K, _, _, rfl, HO.out, hnx, HG.out, .inl ⟨rfl, by have := HP.out; omega⟩⟩
end Go.Proofs.Ybulkabdw
