/-
  Seat b1195a: the walk of LawS1195ADrain (function 4).
-/
import Derived.Test.YbulkxsmDrainInv
namespace Go.Proofs.Ybulkxsm
open Go.RowKit

theorem upto_succ {p : Nat → Prop} {k : Nat} (h : ∀ q, q < k → p q) (hk : p k) : ∀ q, q < k + 1 → p q := fun q hq => by
  by_cases e : q = k
  · subst e; exact hk
  · exact h q (by omega)

theorem hide {p : Prop} (h : p) : Hid p := h
theorem all64_pair (P Q : Nat → Int) : All64 (pairL P Q 0) := all64_bc P Q 1
theorem news_of (x : World) (cs : Array Value) (t : TypeId) {n : Nat} (hn : x.heap.size = n) : ∀ j u, cs.toList[j]? = some u → (x.alloc (.cells cs t)).cell? ((⟨n, 0, none⟩ : Addr).add j) = some u := by
  subst hn
  exact World.news_of_block (heap_alloc_new x _)

set_option maxHeartbeats 4000000 in
theorem drain_walk (b off n c : Nat) (ra : Option Addr) (rn rc : Nat) (P Q : Nat → Int) (A : Nat → Option Addr) (L C : Nat → Nat) (P' Q' : Nat → Nat → Int) (w : World) (h0 : 0 < n) (hn : n ≤ 1024) (hr : rn ≤ 256) (hc : n ≤ c)
    (hB : Batch w (some ⟨b, off, none⟩) n P Q) (hR : Rest w ra rn A L C) (hL : ∀ i, L i ≤ C i ∧ C i ≤ maxLen ∧ Batch w (A i) (L i) (P' i) (Q' i)) :
    Calls Yba.prog 4 #[.slice (some ⟨b, off, none⟩) n c, .slice ra rn rc] w fun e w' => e = .returned (.bool true) ∧ Below w.heap.size w w' := by
  have HB : Hid (Batch w (some ⟨b, off, none⟩) n P Q) := hB
  have HR : Hid (Rest w ra rn A L C) := hR
  have HL : Hid (∀ i, L i ≤ C i ∧ C i ≤ maxLen ∧ Batch w (A i) (L i) (P' i) (Q' i)) := hL
  clear hB hR hL
  have e0 : ((n : Int) == 0) = false := by simp; omega
  have e1 : ¬ (1024 : Int) < (n : Int) := by omega
  have e2 : ¬ (256 : Int) < (rn : Int) := by omega
  obtain ⟨t0, hi, hz0, hz1, hz2⟩ := info_parts info35
  have hb1 : Below w.heap.size w (w.alloc (.cells #[.slice ra rn rc] 23)) := (Below.refl _ _).alloc (Nat.le_refl _) _
  go_enter Yba.func4, Yba.ntmps4
  go_wp2
  go_loop [34] (fun i => ∃ k : Nat, k ≤ rn ∧ i = .int .i64 k ∧ ∀ q, q < k → L q ≤ 1024) (fun i => rn - (intOf i).toNat)
  case atStart => exact ⟨0, Nat.zero_le _, rfl, fun q hq => absurd hq (Nat.not_lt_zero q)⟩
  case round =>
    obtain ⟨k, hk, rfl, hq⟩ := hrel
    have HQ : Hid (∀ q, q < k → L q ≤ 1024) := hq
    clear hq
    by_cases hlt : k < rn
    · obtain ⟨g, o, rfl, hcl⟩ := HR.out.1 (by omega)
      have hlti : (k : Int) < (rn : Int) := by omega
      have g0 : (w.alloc (.cells #[.slice (some ⟨g, o, none⟩) rn rc] 23)).cell? ⟨g, o + k, none⟩ = some (.slice (A k) (L k) (C k)) := (hb1.cell (by exact World.block_lt_of_cell? w _ (hcl k hlt))).trans (hcl k hlt)
      clear hcl
      by_cases hl : L k ≤ 1024
      · have hli : ¬ (1024 : Int) < (L k : Int) := by omega
        go_wp2
        go_round
        case rel => exact ⟨k + 1, by omega, by go_num, upto_succ (p := fun q => L q ≤ 1024) HQ.out hl⟩
        case measure => simp [intOf]; omega
      · have hli : (1024 : Int) < (L k : Int) := by omega
        go_wp2
        go_ret
        exact ⟨rfl, hb1⟩
    · obtain rfl : rn = k := by omega
      have hall : ∀ i, L i ≤ 1024 := fun i => if h : i < rn then HQ.out i h else by rw [(HR.out.2 i (by omega)).2.1]; omega
      have HT : Hid (∀ j, j ≤ rn → tot L j ≤ 262144) := fun j hj => by have := tot_le L hall j; omega
      have HAL : Hid (∀ i, L i ≤ 1024) := hall
      obtain ⟨W0, hW0⟩ : ∃ W0, w.alloc (.cells #[.slice ra rn rc] 23) = W0 := ⟨_, rfl⟩
      have z0 : W0.heap.size = w.heap.size + 1 := by rw [← hW0]; simp
      have x0 : W0.cell? ⟨w.heap.size, 0, none⟩ = some (.slice ra rn rc) := by rw [← hW0]; simp
      rw [hW0] at hb1
      simp only [hW0]
      clear HQ hall hk hlt hW0
      go_wp2_with (first
        | (at_make; refine wpList_make_own _ rfl _ _ 22 rfl (w.heap.size + 1) 35 t0 _ 2 Yba.underlying22 hi hz0 hz1 .i64 .i64 _ n rfl rfl rfl (by rw [hz2]; omega) (by unfold maxLen; omega) (by omega) ?_; intro w1 hown1 hgr1; have hbel1 := (Below.refl (w.heap.size + 1) W0).grown hgr1 (by omega) (by simp); rw [z0] at hown1)
        | (at_builtin; refine wpList_append_own _ rfl (.tmp 47) (.tmp 48) 22 rfl (w.heap.size + 1) 35 t0 _ 2 16 Yba.underlying22 hi hz0 hz1 hz2 rfl (by decide) _ 0 [] rfl hown1 ⟨b, off, none⟩ n c (bc P Q n) rfl (bc_length _ _ _) ((HB.out.below (hb1.trans (hbel1.mono (by omega))) (Nat.le_refl _)).news) (all64_bc _ _ _).one (by unfold maxLen; omega) (by omega) (by have := hbel1.size; omega) ?_; intro v2 w2 hown2 hgr2 _; have hbel2 := hbel1.grown hgr2 (by have := hbel1.size; omega) (fun b hb => (hown1.lt b hb).1)))
      go_loopw [6, 7] (fun v jv wr => ∃ j : Nat, j ≤ rn ∧ jv = .int .i64 j ∧ Hid (∀ q, q < j → 0 < L q) ∧ wr.ownsRow (w.heap.size + 1) 35 2 v (n + tot L j) (bc P Q n ++ tl (fun i => bc (P' i) (Q' i) (L i)) 0 j) ∧ Below (w.heap.size + 1) W0 wr)
        (fun _ jv _ => rn - (intOf jv).toNat)
      case atStart => exact ⟨0, Nat.zero_le _, rfl, fun q hq => absurd hq (Nat.not_lt_zero q), by simpa [tot, tl] using hown2, hbel2⟩
      case round =>
        obtain ⟨j, hj, rfl, hpos, hown, hbel⟩ := hrel
        clear hown1 hgr1 hbel1 hown2 hgr2 hbel2
        have hsz := hbel.size
        have hwr : Below w.heap.size w wr := hb1.trans (hbel.mono (by omega))
        have x1 : wr.cell? ⟨w.heap.size, 0, none⟩ = some (.slice ra rn rc) := (hbel.cell (by simp)).trans x0
        by_cases hx : j < rn ∧ 0 < L j
        · obtain ⟨hlt, hl⟩ := hx
          obtain ⟨g, o, rfl, hcl⟩ := HR.out.1 (by omega)
          have hlti : (j : Int) < (rn : Int) := by omega
          have g0 : wr.cell? ⟨g, o + j, none⟩ = some (.slice (A j) (L j) (C j)) := (hwr.cell (by exact World.block_lt_of_cell? w _ (hcl j hlt))).trans (hcl j hlt)
          clear hcl
          have hlj := HAL.out j
          have htj := HT.out j hj
          have hli : (0 : Int) < (L j : Int) := by omega
          obtain ⟨b', off', hA, -⟩ := (HL.out j).2.2 hl
          have hBj := (HL.out j).2.2.below hwr (Nat.le_refl _)
          rw [hA] at g0 hBj
          have HBj : Hid (Batch wr (some ⟨b', off', none⟩) (L j) (P' j) (Q' j)) := hBj
          clear hA hBj
          go_wp2_with (at_builtin; refine wpList_append_own _ rfl (.tmp 62) (.tmp 66) 22 rfl (w.heap.size + 1) 35 t0 _ 2 16 Yba.underlying22 hi hz0 hz1 hz2 rfl (by decide) _ (n + tot L j) (bc P Q n ++ tl (fun i => bc (P' i) (Q' i) (L i)) 0 j) rfl hown ⟨b', off', none⟩ (L j) (C j) (bc (P' j) (Q' j) (L j)) rfl (bc_length _ _ _) HBj.out.news (all64_bc _ _ _).one (by unfold maxLen; omega) (by omega) (by omega) ?_; intro v3 w3 hown3 hgr3 _)
          go_roundw
          case rel =>
            refine ⟨j + 1, by omega, by go_num, upto_succ (p := fun q => 0 < L q) hpos.out hl, ?_, hbel.grown hgr3 (by omega) (fun b hb => (hown.lt b hb).1)⟩
            rw [tl_snoc, ← List.append_assoc, show n + tot L (j + 1) = n + tot L j + L j from by simp [tot, Nat.add_assoc]]
            exact hown3
          case measure => simp [intOf]; omega
        · have hl0 : L j = 0 := by
            by_cases h : j < rn
            · omega
            · exact (HR.out.2 j (by omega)).2.1
          have htj := HT.out j hj
          obtain ⟨T, hT⟩ : ∃ T, n + tot L j = T := ⟨_, rfl⟩
          obtain ⟨WL, hWL⟩ : ∃ WL, bc P Q n ++ tl (fun i => bc (P' i) (Q' i) (L i)) 0 j = WL := ⟨_, rfl⟩
          have h64 : All64 WL := by rw [← hWL]; exact (all64_bc _ _ _).append (all64_tl (fun i => all64_bc _ _ _) _ _)
          have hTb : T ≤ 300000 := by omega
          have hT0 : 0 < T := by omega
          rw [hT, hWL] at hown
          have HST : Hid (St j (fun i => bc (P' i) (Q' i) (L i)) WL 0 n P Q []) := .inl ⟨h0, Nat.zero_le _, by simpa using hWL⟩
          have HP : Hid (∀ q, q < j → 0 < L q) := hpos
          obtain ⟨aw, cw, rfl, yw⟩ := own_shape hown
          have HW : Hid (wr.ownsRow (w.heap.size + 1) 35 2 (.slice aw T cw) T WL) := hown
          have H64 : Hid (All64 WL) := h64
          clear hT hWL h64 hown hpos yw
          obtain ⟨w2, hw2⟩ : ∃ w2, w2 = wr := ⟨_, rfl⟩
          subst hw2
          by_cases hlt : j < rn
          all_goals
            first
              | (have hlti : ¬ (j : Int) < (rn : Int) := by omega
                 skip)
              | (obtain ⟨g, o, hra, hcl⟩ := HR.out.1 (by omega)
                 subst hra
                 have hlti : (j : Int) < (rn : Int) := by omega
                 have g0 : w2.cell? ⟨g, o + j, none⟩ = some (.slice (A j) 0 (C j)) := (hwr.cell (by exact World.block_lt_of_cell? w _ (hcl j hlt))).trans ((hcl j hlt).trans (by rw [hl0]))
                 clear hcl)
            go_wp2_with (at_make; refine wpList_make_own _ rfl _ _ 22 rfl (w2.heap.size + 2) 35 t0 _ 2 Yba.underlying22 hi hz0 hz1 .i64 .i64 _ (T + 2) rfl rfl (by omega) (by rw [hz2]; omega) (by unfold maxLen; omega) (by simp) ?_; intro w4 hown4 hgr4)
            have hs2 : w.heap.size + 1 ≤ w2.heap.size := by omega
            have HC4 : Hid (Cells w2 w.heap.size 0 n c (some ⟨b, off, none⟩) w4) := Cells.start hgr4
            have HB2 : Hid (Batch w2 (some ⟨b, off, none⟩) n P Q) := HB.out.below hwr (Nat.le_refl _)
            clear hgr4 htj
            go_loopw [10, 12] (fun v sv wq => ∃ (t k m c1 : Nat) (a1 : Option Addr) (Pc Qc : Nat → Int) (gc : List Value), sv = .int .i64 t ∧ Hid (Cells w2 w.heap.size k m c1 a1 wq) ∧ wq.ownsRow (w2.heap.size + 2) 35 2 v t gc ∧ m ≤ c1 ∧ m ≤ 1024 ∧ Hid (Batch w2 a1 m Pc Qc) ∧ Hid (St j (fun i => bc (P' i) (Q' i) (L i)) WL k m Pc Qc gc))
              (fun _ sv _ => T + 2 - (intOf sv).toNat)
            case atStart => exact ⟨0, 0, n, c, _, P, Q, [], rfl, HC4, (by simpa using hown4), hc, hn, HB2, HST⟩
            case round =>
              obtain ⟨t, k, m, c1, a1, Pc, Qc, gc, rfl, HC, hown, hmc, hm1, HBt, HS⟩ := hrel
              clear hown4 HC4 HB2 HST
              have hle := HS.out.le hown.1 HW.out.1
              have hst : (t : Int) < (T : Int) + 2 := by omega
              have hwq : Below w.heap.size w wr := hwr.trans (HC.out.below.mono (by omega))
              have b2 := HC.out.batch
              rcases Nat.eq_zero_or_pos m with hm0 | hm0
              · subst hm0
                rcases HS.out with ⟨h, _⟩ | ⟨_, rfl, rfl⟩
                · omega
                have htT : t = T := by have h1 := hown.1; have h2 := HW.out.1; omega
                subst htT
                obtain ⟨ag, cg, rfl, -⟩ := own_shape hown
                have BG : Hid (Batch wr ag t _ _) := batch_of_owned hown H64.out
                have BW : Hid (Batch wr aw t _ _) := batch_of_owned (owned_below HW.out HC.out.below (Nat.le_refl _)) H64.out
                have b0 := HC.out.calls
                go_wp2_with (first
                  | (go_at_call 9; refine (head_none _ c1 a1 _ b2).mono ?_; rintro e w' ⟨he, hw⟩; rw [he, hw]; clear he hw)
                  | (go_at_call 7; refine (eq_any ag aw t cg cw _ _ _ ?_ BG.out BW.out).mono ?_; (unfold maxLen; omega); rintro e w' ⟨he, nq, hw⟩; rw [he, hw]; clear he hw))
                go_ret
                exact ⟨rfl, below_drewN hwq _⟩
              · obtain ⟨b1, o1, rfl, hp, hq⟩ := HBt.out hm0
                have p0 : wr.cell? ⟨b1, o1, none⟩ = some (.int .u64 (Pc 0)) := (HC.out.below.cell (by exact World.block_lt_of_cell? w2 _ (hp 0 hm0))).trans (by simpa using hp 0 hm0)
                have p1 : wr.cell? ⟨b1, o1 + 1, none⟩ = some (.int .u64 (Qc 0)) := (HC.out.below.cell (by exact World.block_lt_of_cell? w2 _ (hq 0 hm0))).trans (by simpa using hq 0 hm0)
                clear hp hq
                by_cases hm2 : 2 ≤ m
                · go_wp2_with (first
                    | (go_at_call 9; refine (head_some _ b1 o1 _ c1 (Pc 0) (Qc 0) _ hm0 b2 p0 p1).mono ?_; rintro e w' ⟨he, nq, hw⟩; rw [he, hw]; clear he hw)
                    | (at_builtin; refine wpList_append_own _ rfl (.tmp 97) (.tmp 101) 22 rfl (w2.heap.size + 2) 35 t0 _ 2 16 Yba.underlying22 hi hz0 hz1 hz2 rfl (by decide) _ t gc rfl (by exact hown.alloc _) ⟨wr.heap.size, 0, none⟩ 1 1 (pairL Pc Qc 0) rfl rfl (by exact news_of _ #[.int .u64 (Pc 0), .int .u64 (Qc 0)] _ (by simp)) (all64_pair _ _).one (by unfold maxLen; omega) (by omega) (by have := HC.out.size; simp; omega) ?_; intro v5 w5 hown5 hgr5 _; have hc5 := ((HC.out.drewN _).alloc _).more hgr5 (fun x e => (hown.lt x e).1); have HC5 := hide hc5; clear hc5 hgr5)
                    | (go_at_call 6; refine (adv_long (w2.heap.size + 1) b1 o1 m c1 _ hm2 hm1 hmc HC5.out.batch HC5.out.fz2).mono ?_; rintro e w6 ⟨he, hw⟩; rw [he, hw]; clear he hw))
                  go_roundw
                  case rel => exact ⟨t + 1, k, m - 1, c1 - 1, _, _, _, _, by go_num, HC5.out.cut _ _ _, owned_cut hown5 (by omega), by omega, by omega, HBt.out.tail, HS.out.long hm2⟩
                  case measure => simp [intOf]; omega
                · have hm3 : m = 1 := by omega
                  subst hm3
                  have hkj : k ≤ j := by rcases HS.out with ⟨_, h, _⟩ | ⟨h, _⟩ <;> omega
                  go_wp2_with (first
                    | (go_at_call 9; refine (head_some _ b1 o1 _ c1 (Pc 0) (Qc 0) _ hm0 b2 p0 p1).mono ?_; rintro e w' ⟨he, nq, hw⟩; rw [he, hw]; clear he hw)
                    | (at_builtin; refine wpList_append_own _ rfl (.tmp 97) (.tmp 101) 22 rfl (w2.heap.size + 2) 35 t0 _ 2 16 Yba.underlying22 hi hz0 hz1 hz2 rfl (by decide) _ t gc rfl (by exact hown.alloc _) ⟨wr.heap.size, 0, none⟩ 1 1 (pairL Pc Qc 0) rfl rfl (by exact news_of _ #[.int .u64 (Pc 0), .int .u64 (Qc 0)] _ (by simp)) (all64_pair _ _).one (by unfold maxLen; omega) (by omega) (by have := HC.out.size; simp; omega) ?_; intro v5 w5 hown5 hgr5 _; have hc5 := ((HC.out.drewN _).alloc _).more hgr5 (fun x e => (hown.lt x e).1); have HC5 := hide hc5; clear hc5 hgr5)
                    | (go_at_call 6; refine (adv_last8 (w2.heap.size + 1) w2.heap.size w.heap.size k rn rc b1 o1 c1 _ A L C _ (by omega) (by omega) HC5.out.batch HC5.out.next HC5.out.calls ((HC5.out.below.cell (by exact hs2)).trans x1) HC5.out.fz2 HC5.out.fz0 (by omega) (by omega) (by omega) (HR.out.below (hwr.trans (HC5.out.below.mono (by omega))) (Nat.le_refl _)) (fun h g o e => by have := HR.out.low h g o e; omega)).mono ?_; rintro e w6 ⟨he, hm6⟩; rw [he]; clear he))
                  go_roundw
                  case rel => exact ⟨t + 1, k + 1, L k, C k, A k, P' k, Q' k, _, by go_num, HC5.out.moved hm6, owned_moved hm6 hown5 (by omega) (by omega), (HL.out k).1, HAL.out k, (HL.out k).2.2.below hwr (Nat.le_refl _), HS.out.last HP.out hl0⟩
                  case measure => simp [intOf]; omega
end Go.Proofs.Ybulkxsm
