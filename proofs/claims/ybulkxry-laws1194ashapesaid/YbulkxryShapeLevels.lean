/-
  Seat b1194a: the walks of (*table).root (function 8) and (*table).levels (function 6).
-/
import Derived.Test.YbulkxryShapeBuild
import Derived.BigRegion
import Derived.RegionTactic
import Derived.Deep.WholeRow
import Derived.Laws.AppendOwnNone
namespace Go.Proofs.Ybulkxry
open Go.RowKit
attribute [local go_sem ↓] to_bd37 to_ld31 to_st37
theorem run_st37 (w : World) (Z : Array Value) (n : Nat) (hn : n = w.heap.size) (hZ : Z.size = 36) (s : ByteArray) (k : Int) (s' : ByteArray) (k' : Int) :
    Sem.run Yba.prog (st37 (.pointer (some ⟨n, 0, none⟩)) (.agg (prA s k s' k'))) (w.alloc (.cells Z 37)).drew = .ok () (w.alloc (.cells (prA s k s' k') 37)).drew := by
  subst hn
  have h := run_storeVar_row (P := Yba.prog) (w.alloc (.cells Z 37)).drew w.heap.size 37 37 Z (prA s k s' k') (heap_alloc_new w _) (by kernel_rfl) hZ (all_oneCell_toArray (prL_one s k s' k'))
  have e : (w.alloc (.cells Z 37)).drew.setRow w.heap.size (prA s k s' k') = (w.alloc (.cells (prA s k s' k') 37)).drew := by
    exact congrArg World.drew (World.setRow_alloc_new w Z (prA s k s' k') 37)
  rw [e] at h
  simpa only [st37, Instr.storeAt, Instr.sureAddr, Sem.run_bind, Sem.run_pure, Result.andThen_ok] using h
attribute [local go_sem] run_bd37' run_st37
set_option maxHeartbeats 1000000 in
theorem root_any (T g m c : Nat) (S : Nat → ByteArray) (w : World) (hm : m + 1 ≤ 1024) (hT : w.cell? ⟨T, 18, none⟩ = some (.slice (some ⟨g, 0, none⟩) (m + 1) c))
    (hr : ∀ i, i < m + 1 → w.rangeAt g (i * 18) (pcL (S i) i)) :
    Calls Yba.prog 8 #[.pointer (some ⟨T, 0, none⟩)] w fun e w' => e = .returned (.agg (prA (S m) m (S 0) 0)) ∧ ∃ o n, w' = (w.alloc o).drewN n := by
  have hTs : T < w.heap.size := World.block_lt_of_cell? w _ hT
  have l0 : ∀ o, Sem.run Yba.prog (ld31 (.pointer (some ⟨g, m * 18, none⟩))) (w.alloc o).drew = .ok (.agg (pcA (S m) m)) (w.alloc o).drew := fun o => run_ld31 (by simpa using World.rangeAt_alloc (hr m (by omega)) o)
  have l1 : ∀ o, Sem.run Yba.prog (ld31 (.pointer (some ⟨g, 0, none⟩))) (w.alloc o).drew = .ok (.agg (pcA (S 0) 0)) (w.alloc o).drew := fun o => run_ld31 (by simpa using World.rangeAt_alloc (by simpa using hr 0 (by omega)) o)
  go_enter Yba.func8, Yba.ntmps8
  go_wp2
  go_region
  go_wp2
  refine bodyPost_ret (v := .agg (prA (S m) m (S 0) 0)) ?_ rfl ⟨rfl, _, 1, rfl⟩
  have hl := run_loadVar_mid (P := Yba.prog) (w.alloc (.cells (prA (S m) m (S 0) 0) 37)).drew w.heap.size 0 37 (prL (S m) m (S 0) 0) _
    (by rw [World.rangeAt_drew]; intro j v hv; rw [World.cell?_alloc_at _ _ _ _ rfl]; simpa [prA] using hv) Yba.underlying37 rfl (by kernel_rfl)
  simp [results, Yba.results8, asAddr]
  exact hl

attribute [local go_sem ↓] to_bs25
attribute [local go_sem] run_bs25'

theorem range_below {w w' : World} {B : Nat} (hb : Below B w w') {b o : Nat} {cs : List Value} (h : w.rangeAt b o cs) (hB : w.heap.size ≤ B) : w'.rangeAt b o cs := fun j v hv => by
  have := h j v hv
  rw [hb.cell (Nat.lt_of_lt_of_le (World.block_lt_of_cell? w _ this) hB)]
  exact this

theorem up_one (L R : Nat → ByteArray) (n : Nat) : ∀ u ∈ flat (upF L R) n, u.oneCell' = true := by
  intro u hu
  obtain ⟨i, _, hi⟩ := List.mem_flatMap.1 hu
  exact prL_one _ _ _ _ u hi

/-- No leaf: no level. -/
theorem levels_none (T c : Nat) (a : Option Addr) (w : World) (hT0 : w.cell? ⟨T, 18, none⟩ = some (.slice a 0 c)) :
    Calls Yba.prog 6 #[.pointer (some ⟨T, 0, none⟩)] w fun e w' => e = .returned (.slice none 0 0) ∧ w' = w := by
  go_enter Yba.func6, Yba.ntmps6
  go_wp2
  go_ret
  exact ⟨rfl, rfl⟩

set_option maxHeartbeats 1000000 in
theorem levels_any (T g m c n1 base : Nat) (v1 : Value) (S L R : Nat → ByteArray) (w : World) (hm : m + 1 ≤ 1024) (hn : n1 ≤ 1024) (hT0 : w.cell? ⟨T, 18, none⟩ = some (.slice (some ⟨g, 0, none⟩) (m + 1) c)) (hT1 : w.cell? ⟨T, 19, none⟩ = some v1)
    (hr : ∀ i, i < m + 1 → w.rangeAt g (i * 18) (pcL (S i) i)) (h1 : w.ownsRow base 37 36 v1 n1 (flat (upF L R) n1)) :
    Calls Yba.prog 6 #[.pointer (some ⟨T, 0, none⟩)] w fun e w' => ∃ v, e = .returned v ∧ w'.ownsRow w.heap.size 37 36 v (1 + n1) (prL (S m) m (S 0) 0 ++ flat (upF L R) n1) ∧ Below w.heap.size w w' := by
  have hTs : T < w.heap.size := World.block_lt_of_cell? w _ hT0
  obtain ⟨t1, ki, kz0, kz1, kz2⟩ := info_parts info37
  have H1 : Hid (w.ownsRow base 37 36 v1 n1 (flat (upF L R) n1)) := h1
  have hr' : Hid (∀ i, i < m + 1 → w.rangeAt g (i * 18) (pcL (S i) i)) := hr
  clear hr
  rcases h1.2 with ⟨rfl, rfl⟩ | ⟨g1, c1, cur, rfl, -⟩
  · clear h1
    go_enter Yba.func6, Yba.ntmps6
    go_wp2_with (at_make; refine wpList_make_own _ rfl _ _ 25 rfl w.heap.size 37 t1 _ 36 Yba.underlying25 ki kz0 kz1 .i64 .i64 _ 1 rfl rfl (by omega) (by rw [kz2]; omega) (by unfold maxLen; omega) (Nat.le_refl _) ?_; intro w1 hown1 hgr1; have hb1 := (Below.refl w.heap.size w).grown hgr1 (Nat.le_refl _) (by simp); have e0 := (hb1.cell (p := ⟨T, 18, none⟩) hTs).trans hT0; have e1 := (hb1.cell (p := ⟨T, 19, none⟩) hTs).trans hT1)
    refine (root_any T g m c S _ hm e0 (fun i hi => range_below hb1 (hr'.out i hi) (Nat.le_refl _))).mono ?_
    rintro e w2 ⟨rfl, o, q, rfl⟩
    have hs1 := hb1.size
    go_wp2_with (first
      | (at_builtin; refine wpList_append_own _ rfl (.tmp 17) (.tmp 20) 25 rfl w.heap.size 37 t1 z37 36 96 Yba.underlying25 ki kz0 kz1 kz2 rfl (by decide) (.slice (some ⟨w.heap.size, 0, none⟩) 0 1) 0 [] rfl (by exact (hown1.alloc _).alloc _) ⟨w1.heap.size + 1, 0, none⟩ 1 1 (prL (S m) m (S 0) 0) rfl rfl (by exact news_of _ (prA _ _ _ _) _ (by simp)) (prL_one _ _ _ _) (by unfold maxLen; omega) (by omega) (by simp; omega) ?_; intro v2 w3 hown3 hgr3 _; have hb3 := ((below_drewN (hb1.alloc (by omega) _) q).alloc (by simp; omega) _).grown hgr3 (by simp; omega) (fun b hb => (hown1.lt b hb).1); have e3 := (hb3.cell (p := ⟨T, 19, none⟩) hTs).trans hT1)
      | (at_builtin; refine wpList_append_own_none rfl (.tmp 22) (.tmp 26) 25 rfl w.heap.size 37 t1 36 Yba.underlying25 ki v2 1 (prL (S m) m (S 0) 0) rfl (by exact hown3) rfl ?_))
    go_ret
    exact ⟨_, rfl, by simpa [flat_zero] using hown3, hb3⟩
  · clear h1
    go_enter Yba.func6, Yba.ntmps6
    go_wp2_with (at_make; refine wpList_make_own _ rfl _ _ 25 rfl w.heap.size 37 t1 _ 36 Yba.underlying25 ki kz0 kz1 .i64 .i64 _ (1 + n1) rfl rfl (by omega) (by rw [kz2]; omega) (by unfold maxLen; omega) (Nat.le_refl _) ?_; intro w1 hown1 hgr1; have hb1 := (Below.refl w.heap.size w).grown hgr1 (Nat.le_refl _) (by simp); have e0 := (hb1.cell (p := ⟨T, 18, none⟩) hTs).trans hT0; have e1 := (hb1.cell (p := ⟨T, 19, none⟩) hTs).trans hT1)
    refine (root_any T g m c S _ hm e0 (fun i hi => range_below hb1 (hr'.out i hi) (Nat.le_refl _))).mono ?_
    rintro e w2 ⟨rfl, o, q, rfl⟩
    have hs1 := hb1.size
    go_wp2_with (first
      | (at_builtin; refine wpList_append_own _ rfl (.tmp 17) (.tmp 20) 25 rfl w.heap.size 37 t1 z37 36 96 Yba.underlying25 ki kz0 kz1 kz2 rfl (by decide) (.slice (some ⟨w.heap.size, 0, none⟩) 0 (1 + n1)) 0 [] rfl (by exact (hown1.alloc _).alloc _) ⟨w1.heap.size + 1, 0, none⟩ 1 1 (prL (S m) m (S 0) 0) rfl rfl (by exact news_of _ (prA _ _ _ _) _ (by simp)) (prL_one _ _ _ _) (by unfold maxLen; omega) (by omega) (by simp; omega) ?_; intro v2 w3 hown3 hgr3 _; have hb3 := ((below_drewN (hb1.alloc (by omega) _) q).alloc (by simp; omega) _).grown hgr3 (by simp; omega) (fun b hb => (hown1.lt b hb).1); have e3 := (hb3.cell (p := ⟨T, 19, none⟩) hTs).trans hT1)
      | (at_builtin; refine wpList_append_own _ rfl (.tmp 22) (.tmp 26) 25 rfl w.heap.size 37 t1 z37 36 96 Yba.underlying25 ki kz0 kz1 kz2 rfl (by decide) v2 1 (prL (S m) m (S 0) 0) rfl (by exact hown3) ⟨g1, 0, none⟩ n1 c1 (flat (upF L R) n1) rfl H1.out.1 (by exact (owned_below H1.out hb3 (Nat.le_refl _)).cells rfl) (up_one _ _ _) (by unfold maxLen; omega) (by omega) (by have := hb3.size; omega) ?_; intro v4 w4 hown4 hgr4 _))
    go_ret
    exact ⟨_, rfl, hown4, hb3.grown hgr4 (by have := hb3.size; omega) (fun b hb => (hown3.lt b hb).1)⟩
end Go.Proofs.Ybulkxry
