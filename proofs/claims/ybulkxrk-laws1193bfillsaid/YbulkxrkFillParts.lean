/-
  Seat b1193a: what 'fillCapture' keeps of the lane's own block while it goes, told outside the walk.
-/
import Derived.Test.YbulkxrkFillStats
import Derived.Deep.AppendLies
namespace Go.Proofs.Ybulkxrk
open Go.RowKit

/-- The wrapping sum of the first k numbers. -/
def sumTo (A : Nat → Int) : Nat → Int
  | 0 => 0
  | k + 1 => wrap64 (sumTo A k + A k)

/-- The first k paths, as cells. -/
def paths (S : Nat → ByteArray) (k : Nat) : List Value := (List.range k).map fun j => .string (S j)
theorem paths_succ (S : Nat → ByteArray) (k : Nat) : paths S (k + 1) = paths S k ++ [.string (S k)] := by simp [paths, List.range_succ]

/-- The lane's cells in the world wr; w: the world in which the call began (its box lies at block 'w.heap.size'). -/
structure FInv (w : World) (L : Nat) (q : Option Addr) (nm tree : ByteArray) (v : Value) (a r : Int) (wr : World) : Prop where
  low : L < w.heap.size
  grown : w.grownBy wr (some L)
  size : w.heap.size + 1 ≤ wr.heap.size
  c0 : wr.cell? ⟨L, 0, none⟩ = some (.string nm)
  c4 : wr.cell? ⟨L, 4, none⟩ = some (.pointer q)
  c5 : wr.cell? ⟨L, 5, none⟩ = some (.pointer (some ⟨w.heap.size, 1, none⟩))
  c6 : wr.cell? ⟨L, 6, none⟩ = some (.pointer none)
  c7 : wr.cell? ⟨L, 7, none⟩ = some v
  c8 : wr.cell? ⟨L, 8, none⟩ = some (.int .i64 a)
  c9 : wr.cell? ⟨L, 9, none⟩ = some (.int .i64 r)
  c10 : ∃ u, wr.cell? ⟨L, 10, none⟩ = some u
  tr : wr.cell? ⟨w.heap.size, 1, none⟩ = some (.string tree)
  fz : ∀ i, wr.frozen? ⟨L, i, none⟩ = false

section
variable {w : World} {L : Nat} {q : Option Addr} {nm tree : ByteArray} {v : Value} {a r : Int} {wr : World}

theorem FInv.drew (h : FInv w L q nm tree v a r wr) : FInv w L q nm tree v a r wr.drew :=
  ⟨h.low, ⟨h.grown.os, h.grown.tape, h.grown.output, h.grown.size, h.grown.block⟩, h.size, h.c0, h.c4, h.c5, h.c6, h.c7, h.c8, h.c9, h.c10, h.tr, h.fz⟩

/-- New blocks and writes to one row from block 'w.heap.size + 1' on turn nothing of it. -/
theorem FInv.more (h : FInv w L q nm tree v a r wr) {w' : World} {row : Option Nat} (hg : wr.grownBy w' row) (hr : ∀ k, row = some k → w.heap.size + 1 ≤ k) : FInv w L q nm tree v a r w' := by
  have hl := h.low
  have hs := h.size
  have hLr : some L ≠ row := fun e => by have := hr L e.symm; omega
  have hBr : some w.heap.size ≠ row := fun e => by have := hr _ e.symm; omega
  have cl : ∀ i, w'.cell? ⟨L, i, none⟩ = wr.cell? ⟨L, i, none⟩ := fun i => hg.cell_far _ (show L < _ by omega) hLr
  refine ⟨hl, ⟨hg.os.trans h.grown.os, hg.tape.trans h.grown.tape, hg.output.trans h.grown.output, Nat.le_trans h.grown.size hg.size, fun k hk hne => ?_⟩, Nat.le_trans h.size hg.size,
    (cl _).trans h.c0, (cl _).trans h.c4, (cl _).trans h.c5, (cl _).trans h.c6, (cl _).trans h.c7, (cl _).trans h.c8, (cl _).trans h.c9, ?_, ?_, fun i => ?_⟩
  · rw [hg.block k (by omega) (fun e => by have := hr k e.symm; omega)]
    exact h.grown.block k hk hne
  · obtain ⟨u, hu⟩ := h.c10
    exact ⟨u, (cl _).trans hu⟩
  · exact (hg.cell_far _ (show w.heap.size < _ by omega) hBr).trans h.tr
  · exact (hg.frozen_far _ (show L < _ by omega) hLr).trans (h.fz i)

theorem FInv.alloc (h : FInv w L q nm tree v a r wr) (o : Obj) : FInv w L q nm tree v a r (wr.alloc o) := h.more (World.grownBy_alloc wr o none) (by simp)

theorem grown_set {wr : World} (h : w.grownBy wr (some L)) (i : Nat) (u : Value) : w.grownBy (wr.setCell ⟨L, i, none⟩ u) (some L) :=
  ⟨h.os, h.tape, h.output, by simpa [World.setCell] using h.size, fun k hk hne => by
    rw [Below.heap_setCell _ _ _ _ (fun e => hne (by simp [e]))]; exact h.block k hk hne⟩

theorem cell_set_ne {wr : World} {i j : Nat} (h : i ≠ j) (u : Value) : (wr.setCell ⟨L, i, none⟩ u).cell? ⟨L, j, none⟩ = wr.cell? ⟨L, j, none⟩ :=
  World.cell?_setCell_other _ _ _ _ (fun e => h (congrArg Addr.off e))

theorem cell_set_far {wr : World} {i : Nat} {p : Addr} (h : L ≠ p.block) (u : Value) : (wr.setCell ⟨L, i, none⟩ u).cell? p = wr.cell? p :=
  World.cell?_setCell_other _ _ _ _ (fun e => h (by rw [← e]))

theorem cell_set_same {wr : World} {p : Addr} {x : Value} (h : wr.cell? p = some x) (u : Value) : (wr.setCell p u).cell? p = some u :=
  World.cell?_setCell_same' _ _ _ (by simp [h])

theorem cell_set_any {wr : World} {i j : Nat} (h : i ≠ j) (u : Value) (hx : ∃ x, wr.cell? ⟨L, j, none⟩ = some x) : ∃ x, (wr.setCell ⟨L, i, none⟩ u).cell? ⟨L, j, none⟩ = some x := by
  obtain ⟨x, hx⟩ := hx
  exact ⟨x, (cell_set_ne h u).trans hx⟩

theorem FInv.set7 (h : FInv w L q nm tree v a r wr) (u : Value) : FInv w L q nm tree u a r (wr.setCell ⟨L, 7, none⟩ u) :=
  ⟨h.low, grown_set h.grown _ _, by simpa [World.setCell] using h.size, (cell_set_ne (by decide) _).trans h.c0, (cell_set_ne (by decide) _).trans h.c4, (cell_set_ne (by decide) _).trans h.c5, (cell_set_ne (by decide) _).trans h.c6,
    cell_set_same h.c7 _, (cell_set_ne (by decide) _).trans h.c8, (cell_set_ne (by decide) _).trans h.c9, cell_set_any (by decide) _ h.c10,
    (cell_set_far (Nat.ne_of_lt h.low) _).trans h.tr, fun i => by rw [World.frozen?_setCell]; exact h.fz i⟩

theorem FInv.set8 (h : FInv w L q nm tree v a r wr) (n : Int) : FInv w L q nm tree v n r (wr.setCell ⟨L, 8, none⟩ (.int .i64 n)) :=
  ⟨h.low, grown_set h.grown _ _, by simpa [World.setCell] using h.size, (cell_set_ne (by decide) _).trans h.c0, (cell_set_ne (by decide) _).trans h.c4, (cell_set_ne (by decide) _).trans h.c5, (cell_set_ne (by decide) _).trans h.c6,
    (cell_set_ne (by decide) _).trans h.c7, cell_set_same h.c8 _, (cell_set_ne (by decide) _).trans h.c9, cell_set_any (by decide) _ h.c10,
    (cell_set_far (Nat.ne_of_lt h.low) _).trans h.tr, fun i => by rw [World.frozen?_setCell]; exact h.fz i⟩

theorem FInv.set9 (h : FInv w L q nm tree v a r wr) (n : Int) : FInv w L q nm tree v a n (wr.setCell ⟨L, 9, none⟩ (.int .i64 n)) :=
  ⟨h.low, grown_set h.grown _ _, by simpa [World.setCell] using h.size, (cell_set_ne (by decide) _).trans h.c0, (cell_set_ne (by decide) _).trans h.c4, (cell_set_ne (by decide) _).trans h.c5, (cell_set_ne (by decide) _).trans h.c6,
    (cell_set_ne (by decide) _).trans h.c7, (cell_set_ne (by decide) _).trans h.c8, cell_set_same h.c9 _, cell_set_any (by decide) _ h.c10,
    (cell_set_far (Nat.ne_of_lt h.low) _).trans h.tr, fun i => by rw [World.frozen?_setCell]; exact h.fz i⟩

theorem FInv.set10 (h : FInv w L q nm tree v a r wr) (u : Value) : FInv w L q nm tree v a r (wr.setCell ⟨L, 10, none⟩ u) ∧ (wr.setCell ⟨L, 10, none⟩ u).cell? ⟨L, 10, none⟩ = some u := by
  obtain ⟨x, hx⟩ := h.c10
  exact ⟨⟨h.low, grown_set h.grown _ _, by simpa [World.setCell] using h.size, (cell_set_ne (by decide) _).trans h.c0, (cell_set_ne (by decide) _).trans h.c4, (cell_set_ne (by decide) _).trans h.c5, (cell_set_ne (by decide) _).trans h.c6,
    (cell_set_ne (by decide) _).trans h.c7, (cell_set_ne (by decide) _).trans h.c8, (cell_set_ne (by decide) _).trans h.c9, ⟨u, cell_set_same hx _⟩,
    (cell_set_far (Nat.ne_of_lt h.low) _).trans h.tr, fun i => by rw [World.frozen?_setCell]; exact h.fz i⟩, cell_set_same hx _⟩

/-- Ahead of the loop. -/
theorem FInv.start {st : Value} {c4 c5 c6 c7 c8 c9 c10 : Value} (hL : L < w.heap.size) (h0 : w.cell? ⟨L, 0, none⟩ = some (.string nm))
    (h4 : w.cell? ⟨L, 4, none⟩ = some c4) (h5 : w.cell? ⟨L, 5, none⟩ = some c5) (h6 : w.cell? ⟨L, 6, none⟩ = some c6) (h7 : w.cell? ⟨L, 7, none⟩ = some c7) (h8 : w.cell? ⟨L, 8, none⟩ = some c8) (h9 : w.cell? ⟨L, 9, none⟩ = some c9) (h10 : w.cell? ⟨L, 10, none⟩ = some c10)
    (hf : ∀ i, w.frozen? ⟨L, i, none⟩ = false) :
    FInv w L q nm tree (.slice (some ⟨w.heap.size + 1, 0, none⟩) 0 0) 0 0
      ((((((((w.setCell ⟨L, 4, none⟩ (.pointer q)).setCell ⟨L, 5, none⟩ (.pointer (some ⟨w.heap.size, 1, none⟩))).setCell ⟨L, 6, none⟩ (.pointer none)).setCell ⟨L, 7, none⟩ (.slice (some ⟨w.heap.size + 1, 0, none⟩) 0 0)).setCell ⟨L, 8, none⟩ (.int .i64 0)).setCell
        ⟨L, 9, none⟩ (.int .i64 0)).alloc (.cells #[.pointer q, .string tree, st] 35)).alloc (.cells #[] 9)) := by
  have hs : ∀ (x : World) i u, (x.setCell ⟨L, i, none⟩ u).heap.size = x.heap.size := fun x i u => by simp [World.setCell]
  have g : w.grownBy ((((((w.setCell ⟨L, 4, none⟩ (.pointer q)).setCell ⟨L, 5, none⟩ (.pointer (some ⟨w.heap.size, 1, none⟩))).setCell ⟨L, 6, none⟩ (.pointer none)).setCell ⟨L, 7, none⟩ (.slice (some ⟨w.heap.size + 1, 0, none⟩) 0 0)).setCell ⟨L, 8, none⟩ (.int .i64 0)).setCell
        ⟨L, 9, none⟩ (.int .i64 0)) (some L) := grown_set (grown_set (grown_set (grown_set (grown_set (grown_set (World.grownBy.refl _ _) _ _) _ _) _ _) _ _) _ _) _ _
  have z : ∀ i u v0 v1 v2 v3 v4 v5, w.cell? ⟨L, i, none⟩ = some u → ((((((w.setCell ⟨L, 4, none⟩ v0).setCell ⟨L, 5, none⟩ v1).setCell ⟨L, 6, none⟩ v2).setCell ⟨L, 7, none⟩ v3).setCell ⟨L, 8, none⟩ v4).setCell ⟨L, 9, none⟩ v5).cell? ⟨L, i, none⟩ =
      some (if i = 9 then v5 else if i = 8 then v4 else if i = 7 then v3 else if i = 6 then v2 else if i = 5 then v1 else if i = 4 then v0 else u) := by
    have one : ∀ (x : World) (i j : Nat) (u v : Value), x.cell? ⟨L, i, none⟩ = some u → (x.setCell ⟨L, j, none⟩ v).cell? ⟨L, i, none⟩ = some (if i = j then v else u) := by
      intro x i j u v hx
      by_cases e : i = j
      · subst e
        rw [if_pos rfl]
        exact cell_set_same hx v
      · rw [if_neg e, cell_set_ne (Ne.symm e)]
        exact hx
    intro i u v0 v1 v2 v3 v4 v5 hx
    exact one _ _ _ _ _ (one _ _ _ _ _ (one _ _ _ _ _ (one _ _ _ _ _ (one _ _ _ _ _ (one _ _ _ _ _ hx)))))
  have old : ∀ (x : World) (o : Obj) (i : Nat), x.heap.size = w.heap.size → (x.alloc o).cell? ⟨L, i, none⟩ = x.cell? ⟨L, i, none⟩ := fun x o i hx => World.cell?_alloc_lt _ _ _ (by rw [hx]; exact hL)
  refine FInv.alloc ⟨hL, g.trans (World.grownBy_alloc _ _ _), by simp [hs], ?_, ?_, ?_, ?_, ?_, ?_, ?_, ⟨c10, ?_⟩, ?_, fun i => ?_⟩ _
  · rw [old _ _ _ (by simp [hs])]; exact z 0 _ _ _ _ _ _ _ h0
  · rw [old _ _ _ (by simp [hs])]; exact z 4 _ _ _ _ _ _ _ h4
  · rw [old _ _ _ (by simp [hs])]; exact z 5 _ _ _ _ _ _ _ h5
  · rw [old _ _ _ (by simp [hs])]; exact z 6 _ _ _ _ _ _ _ h6
  · rw [old _ _ _ (by simp [hs])]; exact z 7 _ _ _ _ _ _ _ h7
  · rw [old _ _ _ (by simp [hs])]; exact z 8 _ _ _ _ _ _ _ h8
  · rw [old _ _ _ (by simp [hs])]; exact z 9 _ _ _ _ _ _ _ h9
  · rw [old _ _ _ (by simp [hs])]; exact z 10 _ _ _ _ _ _ _ h10
  · rw [World.cell?_alloc_at _ _ _ _ (by simp [hs])]; rfl
  · rw [World.frozen?_alloc_old _ _ _ (by simp [hs]; omega)]; simp [hf]
end
end Go.Proofs.Ybulkxrk
