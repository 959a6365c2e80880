/-
  Seat b1195a: what holds at every round of Drain's last loop, and what a round does to it; told outside the walk.
-/
import Derived.Test.YbulkxsmDrainParts
namespace Go.Proofs.Ybulkxsm
open Go.RowKit

/-- What has been got, what is at hand, what is still to come: together they are what is wanted; or all is done. -/
def St (J : Nat) (f : Nat → List Value) (WL : List Value) (k m : Nat) (Pc Qc : Nat → Int) (gc : List Value) : Prop :=
  (0 < m ∧ k ≤ J ∧ gc ++ (bc Pc Qc m ++ tl f k J) = WL) ∨ (m = 0 ∧ k = J + 1 ∧ gc = WL)

theorem St.long {J : Nat} {f : Nat → List Value} {WL : List Value} {k m : Nat} {Pc Qc : Nat → Int} {gc : List Value} (h : St J f WL k m Pc Qc gc) (hm : 2 ≤ m) :
    St J f WL k (m - 1) (fun i => Pc (i + 1)) (fun i => Qc (i + 1)) (gc ++ pairL Pc Qc 0) := by
  rcases h with ⟨_, hk, e⟩ | ⟨h0, _⟩
  · refine .inl ⟨by omega, hk, ?_⟩
    rw [← e, show bc Pc Qc m = bc Pc Qc (m - 1 + 1) from by rw [show m - 1 + 1 = m from by omega], bc_cons]
    simp
  · omega

theorem St.last {J : Nat} {L : Nat → Nat} {P' Q' : Nat → Nat → Int} {WL : List Value} {k : Nat} {Pc Qc : Nat → Int} {gc : List Value} (h : St J (fun i => bc (P' i) (Q' i) (L i)) WL k 1 Pc Qc gc) (hpos : ∀ q, q < J → 0 < L q) (h0 : L J = 0) :
    St J (fun i => bc (P' i) (Q' i) (L i)) WL (k + 1) (L k) (P' k) (Q' k) (gc ++ pairL Pc Qc 0) := by
  rcases h with ⟨_, hk, e⟩ | ⟨h1, _⟩
  · have e1 : bc Pc Qc 1 = pairL Pc Qc 0 := rfl
    by_cases hkJ : k < J
    · refine .inl ⟨hpos k hkJ, hkJ, ?_⟩
      rw [← e, e1, tl_step _ hkJ]
      simp
    · have : k = J := by omega
      subst this
      refine .inr ⟨h0, rfl, ?_⟩
      rw [← e, e1, tl_self]
      simp
  · omega

theorem St.le {J : Nat} {f : Nat → List Value} {WL : List Value} {k m : Nat} {Pc Qc : Nat → Int} {gc : List Value} (h : St J f WL k m Pc Qc gc) {t T : Nat} (hg : gc.length = t * 2) (hw : WL.length = T * 2) : t + m ≤ T := by
  rcases h with ⟨_, _, e⟩ | ⟨h0, _, e⟩
  · have := congrArg List.length e
    rw [List.length_append, List.length_append, bc_length, hg, hw] at this
    omega
  · rw [e] at hg
    omega

/-- The cursor's and the count's cells, in a world behind w2 (there the count lies at block 'w2.heap.size', the cursor at the next). -/
structure Cells (w2 : World) (rb k m c : Nat) (a : Option Addr) (wq : World) : Prop where
  below : Below w2.heap.size w2 wq
  size : w2.heap.size + 2 ≤ wq.heap.size
  next : wq.cell? ⟨w2.heap.size + 1, 0, none⟩ = some (.func (Fn.func 8) #[] #[.pointer (some ⟨w2.heap.size, 0, none⟩), .pointer (some ⟨rb, 0, none⟩)])
  batch : wq.cell? ⟨w2.heap.size + 1, 2, none⟩ = some (.slice a m c)
  calls : wq.cell? ⟨w2.heap.size, 0, none⟩ = some (.int .i64 k)
  fz0 : wq.frozen? ⟨w2.heap.size, 0, none⟩ = false
  fz2 : wq.frozen? ⟨w2.heap.size + 1, 2, none⟩ = false

section
variable {w2 : World} {rb k m c : Nat} {a : Option Addr} {wq : World}

theorem Cells.more (h : Cells w2 rb k m c a wq) {w' : World} {row : Option Nat} (hg : wq.grownBy w' row) (hr : ∀ x, row = some x → w2.heap.size + 2 ≤ x) : Cells w2 rb k m c a w' := by
  have hs := h.size
  have n0 : some w2.heap.size ≠ row := fun e => by have := hr _ e.symm; omega
  have n1 : some (w2.heap.size + 1) ≠ row := fun e => by have := hr _ e.symm; omega
  exact ⟨h.below.grown hg (by omega) (fun x e => by have := hr x e; omega), Nat.le_trans h.size hg.size,
    (hg.cell_far _ (show w2.heap.size + 1 < _ by omega) n1).trans h.next, (hg.cell_far _ (show w2.heap.size + 1 < _ by omega) n1).trans h.batch, (hg.cell_far _ (show w2.heap.size < _ by omega) n0).trans h.calls,
    (hg.frozen_far _ (show w2.heap.size < _ by omega) n0).trans h.fz0, (hg.frozen_far _ (show w2.heap.size + 1 < _ by omega) n1).trans h.fz2⟩

theorem Cells.alloc (h : Cells w2 rb k m c a wq) (o : Obj) : Cells w2 rb k m c a (wq.alloc o) := h.more (World.grownBy_alloc wq o none) (by simp)
theorem Cells.drewN (h : Cells w2 rb k m c a wq) (n : Nat) : Cells w2 rb k m c a (wq.drewN n) := ⟨below_drewN h.below n, h.size, h.next, h.batch, h.calls, h.fz0, h.fz2⟩

theorem Cells.cut (h : Cells w2 rb k m c a wq) (a' : Option Addr) (m' c' : Nat) : Cells w2 rb k m' c' a' (wq.setCell ⟨w2.heap.size + 1, 2, none⟩ (.slice a' m' c')) :=
  ⟨h.below.setCell (by simp) _, by simpa [World.setCell] using h.size, (World.cell?_setCell_other _ _ _ _ (by simp)).trans h.next, World.cell?_setCell_same' _ _ _ (by simp [h.batch]),
    (cell_far (by simp) _).trans h.calls, by simpa using h.fz0, by simpa using h.fz2⟩

theorem Cells.moved (h : Cells w2 rb k m c a wq) {a' : Option Addr} {m' c' : Nat} {w' : World} (hm : Moved (w2.heap.size + 1) w2.heap.size (.slice a' m' c') (k + 1) wq w') : Cells w2 rb (k + 1) m' c' a' w' :=
  ⟨h.below.trans (hm.below (by omega) (Nat.le_refl _)), by rw [hm.size]; exact h.size, hm.next.trans h.next, hm.batch, by simpa using hm.calls, (hm.frozen _).trans h.fz0, (hm.frozen _).trans h.fz2⟩
end

theorem owned_cut {w : World} {base b i : Nat} {u : Value} {e : TypeId} {size : Nat} {v : Value} {n : Nat} {xs : List Value} (h : w.ownsRow base e size v n xs) (hb : b < base) : (w.setCell ⟨b, i, none⟩ u).ownsRow base e size v n xs :=
  ownsRow_setCell_below h hb u

/-- Ahead of the loop. -/
theorem Cells.start {w2 w4 : World} {rb n c : Nat} {a : Option Addr} {x1 x3 : Value} (hg : ((w2.alloc (.cells #[.int .i64 0] 3)).alloc (.cells #[.func (Fn.func 8) #[] #[.pointer (some ⟨w2.heap.size, 0, none⟩), .pointer (some ⟨rb, 0, none⟩)], x1, .slice a n c, x3] 29)).grownBy w4 none) :
    Cells w2 rb 0 n c a w4 := by
  refine Cells.more (row := none) ⟨((Below.refl _ _).alloc (Nat.le_refl _) _).alloc (by simp) _, by simp, ?_, ?_, ?_, ?_, ?_⟩ hg (by simp)
  · exact World.cell?_alloc_at _ _ _ _ (by simp)
  · exact World.cell?_alloc_at _ _ _ _ (by simp)
  · rw [World.cell?_alloc_lt _ _ _ (by simp)]
    exact World.cell?_alloc_at _ _ _ _ rfl
  · rw [World.frozen?_alloc_past _ _ _ (by simp)]
    exact World.frozen?_alloc_at _ _ _ _ rfl
  · exact World.frozen?_alloc_at _ _ _ _ (by simp)
end Go.Proofs.Ybulkxsm
