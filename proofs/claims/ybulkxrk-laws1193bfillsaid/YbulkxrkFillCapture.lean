/-
  Seat b1193a: the walk of fillCapture (function 5).
-/
import Derived.Test.YbulkxrkFillParts
import Derived.Deep.AppendLies
import Derived.Deep.RegionLaw
namespace Go.Proofs.Ybulkxrk
open Go.RowKit
theorem info9 : (Yba.prog.info? 9).map (fun i => (i.zero, i.size, i.bytes)) = some (some (.string ⟨#[]⟩), 1, 16) := by kernel_rfl
theorem cell_one_new' (x : World) (v : Value) (t : TypeId) {k : Nat} (hk : x.heap.size = k) : ∀ j u, [v][j]? = some u → (x.alloc (.cells #[v] t)).cell? ((⟨k, 0, none⟩ : Addr).add j) = some u := by
  subst hk
  exact cell_one_new x v t
theorem st_cell {wr w2 : World} {B g k c : Nat} {xs : List Value} {cs : Array Value} {o : Obj} (hown : wr.ownsRow B 9 1 (.slice (some ⟨g, 0, none⟩) k c) k xs)
    (hg : ((wr.alloc (.cells cs 39)).drew.alloc o).grownBy w2 (Value.ownBlock (.slice (some ⟨g, 0, none⟩) k c))) (i : Nat) {u : Value} (hu : cs[i]? = some u) : w2.cell? ⟨wr.heap.size, i, none⟩ = some u := by
  have hlt := (hown.lt g rfl).2
  rw [hg.cell_far _ (by simp; omega) (by simp [Value.ownBlock]; omega), World.cell?_alloc_lt _ _ _ (by simp), World.cell?_drew, World.cell?_alloc_at _ _ _ _ rfl]
  exact hu
set_option maxHeartbeats 1000000 in
theorem fill_any (L C n : Nat) (q : Option Addr) (nm tree : ByteArray) (S : Nat → ByteArray) (A R : Nat → Int) (w : World) (hn : n ≤ 1024) (hLC : L ≠ C) (hCs : C < w.heap.size) (hfill : Filled C n n S A R w)
    (hL : L < w.heap.size)
    (h0 : w.cell? ⟨L, 0, none⟩ = some (.string nm)) (c4 c5 c6 c7 c8 c9 c10 : Value)
    (h4 : w.cell? ⟨L, 4, none⟩ = some c4) (h5 : w.cell? ⟨L, 5, none⟩ = some c5) (h6 : w.cell? ⟨L, 6, none⟩ = some c6) (h7 : w.cell? ⟨L, 7, none⟩ = some c7) (h8 : w.cell? ⟨L, 8, none⟩ = some c8) (h9 : w.cell? ⟨L, 9, none⟩ = some c9) (h10 : w.cell? ⟨L, 10, none⟩ = some c10)
    (hf : ∀ i, w.frozen? ⟨L, i, none⟩ = false) :
    Calls Yba.prog 5 #[.pointer (some ⟨L, 0, none⟩), .agg #[.pointer q, .string tree, .slice (some ⟨C, 0, none⟩) n n]] w fun e w' =>
      e = .returned (.tuple #[]) ∧ ∃ v, FInv w L q nm tree v (sumTo A n) (sumTo R n) w' ∧ w'.ownsRow (w.heap.size + 1) 9 1 v n (paths S n) ∧ v ≠ .slice none 0 0 ∧ w'.cell? ⟨L, 10, none⟩ = some (.int .i64 (wrap64 (sumTo A n + sumTo R n))) := by
  have HF : Hid (Filled C n n S A R w) := hfill
  clear hfill
  obtain ⟨i0, hi, hz0, hz1, hz2⟩ := info_parts info9
  go_enter Yba.func5, Yba.ntmps5
  go_wp2
  go_loopw [31] (fun i wr => ∃ k : Nat, k ≤ n ∧ i = .int .i64 k ∧ ∃ g c, FInv w L q nm tree (.slice (some ⟨g, 0, none⟩) k c) (sumTo A k) (sumTo R k) wr ∧ wr.ownsRow (w.heap.size + 1) 9 1 (.slice (some ⟨g, 0, none⟩) k c) k (paths S k))
    (fun i _ => n - (intOf i).toNat)
  case atStart => exact ⟨0, Nat.zero_le _, rfl, _, _, FInv.start hL h0 h4 h5 h6 h7 h8 h9 h10 hf, by
      refine ⟨rfl, .inr ⟨_, _, #[], rfl, Nat.le_refl _, ?_, Nat.le_refl _, by unfold maxLen; omega, rfl, rfl⟩⟩
      have e : ∀ (x : World) (o : Obj) (k : Nat), x.heap.size = k → (x.alloc o).heap[k]? = some o := fun x o k hk => by rw [← hk]; exact heap_alloc_new x o
      exact e _ _ _ (by simp)⟩
  case round =>
    obtain ⟨k, hk, rfl, g, c, hinv, hown⟩ := hrel
    clear h0 h4 h5 h6 h7 h8 h9 h10 hf
    by_cases hlt : k < n
    · have hlti : (k : Int) < (n : Int) := by omega
      obtain ⟨x0, x1, x2⟩ := HF.out.cells k hlt
      have hblk := hinv.grown.block C hCs (by simp [Ne.symm hLC])
      have g0 : wr.cell? ⟨C, k * 3, none⟩ = some (.string (S k)) := (World.cell?_of_block hblk).trans x0
      have g1 : wr.cell? ⟨C, k * 3 + 1, none⟩ = some (.int .i64 (A k)) := (World.cell?_of_block hblk).trans x1
      have g2 : wr.cell? ⟨C, k * 3 + 2, none⟩ = some (.int .i64 (R k)) := (World.cell?_of_block hblk).trans x2
      have e7 := hinv.c7
      have e8 := hinv.c8
      have e9 := hinv.c9
      have hfz := hinv.fz
      have hLs : L < wr.heap.size := by have := hinv.size; omega
      clear x0 x1 x2 hblk
      go_wp2
      go_region_law ((refine step_append_lies _ (by rfl) _ _ 27 (by rfl) (w.heap.size + 1) 9 i0 (.string ⟨#[]⟩) 1 16 Yba.underlying27 hi hz0 hz1 hz2 rfl (by decide) (.slice (some ⟨g, 0, none⟩) k c) k (paths S k) (by simp [Act.eval]) (by exact (((hown.alloc _).drew).alloc _)) ⟨wr.heap.size + 1, 0, none⟩ 1 1 [.string (S k)] (by simp [Act.eval]) rfl (cell_one_new' _ _ _ (by simp)) (by simp [Value.oneCell']) (by decide) (by unfold maxLen; omega) (by omega) (by simp; have := hinv.size; omega) (wr.heap.size + 2) (by simp) ?_; intro g' c' w2 hown2 hgrow hat hlt2; have hinv2 := (((hinv.alloc _).drew).alloc _).more hgrow (fun b hb => (hown.lt b hb).1); have e7' := hinv2.c7; have e8' := hinv2.c8; have e9' := hinv2.c9; have hfz' := hinv2.fz; have s1 := st_cell hown hgrow 1 rfl; have s2 := st_cell hown hgrow 2 rfl))
      all_goals
        have hne : L ≠ wr.heap.size := by omega
        clear e7 e8 e9 hfz g0 g1 g2
        go_wp2
        go_region
        go_wp2
        go_region
        go_wp2
        go_roundw
        case rel =>
          refine ⟨k + 1, by omega, by go_num, g', c', (((hinv2.set7 _).set8 _).set9 _).drew.drew, ?_⟩
          rw [paths_succ]
          exact ((ownsRow_setCell_below (ownsRow_setCell_below (ownsRow_setCell_below hown2 (by simp; omega) _) (by simp; omega) _) (by simp; omega) _).drew).drew
        case measure => simp [intOf]; omega
    · have hkn : k = n := by omega
      subst hkn
      have e8 := hinv.c8
      have e9 := hinv.c9
      have hfz := hinv.fz
      obtain ⟨u10, e10⟩ := hinv.c10
      go_wp2
      go_region
      go_end0
      obtain ⟨i1, i2⟩ := hinv.set10 (.int .i64 (wrap64 (sumTo A k + sumTo R k)))
      exact ⟨rfl, _, i1.drew, (ownsRow_setCell_below hown (by simp; omega) _).drew, by simp, i2⟩
end Go.Proofs.Ybulkxrk
