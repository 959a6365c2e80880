/-
  Seat b1195a: the walks of the two closures (functions 5 and 8), of (*cursor).advance (function 6) and of (*cursor).head (function 9).
-/
import Derived.Test.YbulkxsmEq
import Derived.Laws.EntriesVeiled
namespace Go.Proofs.Ybulkxsm
open Go.RowKit

/-- The further batches as they came in: batch i's slice value; past the last: nil. -/
def Rest (w : World) (ra : Option Addr) (rn : Nat) (A : Nat → Option Addr) (L C : Nat → Nat) : Prop :=
  (0 < rn → ∃ g o, ra = some ⟨g, o, none⟩ ∧ ∀ i, i < rn → w.cell? ⟨g, o + i, none⟩ = some (.slice (A i) (L i) (C i))) ∧ ∀ i, rn ≤ i → A i = none ∧ L i = 0 ∧ C i = 0

/-- What one advance may turn: the cursor's batch (cell 2 of block cb) and the count of calls (block kc). -/
structure Moved (cb kc : Nat) (v : Value) (k : Int) (w w' : World) : Prop where
  os : w'.os = w.os
  tape : w'.tape = w.tape
  output : w'.output = w.output
  size : w'.heap.size = w.heap.size
  block : ∀ b, b ≠ cb → b ≠ kc → w'.heap[b]? = w.heap[b]?
  batch : w'.cell? ⟨cb, 2, none⟩ = some v
  calls : w'.cell? ⟨kc, 0, none⟩ = some (.int .i64 k)
  next : w'.cell? ⟨cb, 0, none⟩ = w.cell? ⟨cb, 0, none⟩
  frozen : ∀ p, w'.frozen? p = w.frozen? p

set_option maxHeartbeats 400000 in
theorem next5 (kc rb k rn rc : Nat) (ra : Option Addr) (A : Nat → Option Addr) (L C : Nat → Nat) (w : World) (hk : k ≤ 100000) (h0 : w.cell? ⟨kc, 0, none⟩ = some (.int .i64 k)) (f0 : w.frozen? ⟨kc, 0, none⟩ = false) (h1 : w.cell? ⟨rb, 0, none⟩ = some (.slice ra rn rc)) (hne : kc ≠ rb)
    (hr : Rest w ra rn A L C) (hap : 0 < rn → ∀ g o, ra = some ⟨g, o, none⟩ → g ≠ kc) :
    Calls Yba.prog 5 #[.pointer (some ⟨kc, 0, none⟩), .pointer (some ⟨rb, 0, none⟩)] w fun e w' => e = .returned (.tuple #[.slice (A k) (L k) (C k), .bool (decide (k < rn))]) ∧ w' = w.setCell ⟨kc, 0, none⟩ (.int .i64 (k + 1)) := by
  by_cases hlt : k < rn
  · obtain ⟨g, o, rfl, hc⟩ := hr.1 (by omega)
    have hg := hap (by omega) g o rfl
    have c0 := hc k hlt
    have hlti : (k : Int) < (rn : Int) := by omega
    rw [decide_eq_true hlt]
    clear hc hr hap
    go_enter Yba.func5, Yba.ntmps5
    go_wp2
    go_ret2
    exact ⟨rfl, rfl⟩
  · obtain ⟨e1, e2, e3⟩ := hr.2 k (by omega)
    have hlti : ¬ (k : Int) < (rn : Int) := by omega
    rw [decide_eq_false hlt, e1, e2, e3]
    clear e1 e2 e3 hr hap
    go_enter Yba.func5, Yba.ntmps5
    go_wp2
    go_ret2
    exact ⟨rfl, rfl⟩

set_option maxHeartbeats 400000 in
theorem next8 (kc rb k rn rc : Nat) (ra : Option Addr) (A : Nat → Option Addr) (L C : Nat → Nat) (w : World) (hk : k ≤ 100000) (h0 : w.cell? ⟨kc, 0, none⟩ = some (.int .i64 k)) (f0 : w.frozen? ⟨kc, 0, none⟩ = false) (h1 : w.cell? ⟨rb, 0, none⟩ = some (.slice ra rn rc)) (hne : kc ≠ rb)
    (hr : Rest w ra rn A L C) (hap : 0 < rn → ∀ g o, ra = some ⟨g, o, none⟩ → g ≠ kc) :
    Calls Yba.prog 8 #[.pointer (some ⟨kc, 0, none⟩), .pointer (some ⟨rb, 0, none⟩)] w fun e w' => e = .returned (.tuple #[.slice (A k) (L k) (C k), .bool (decide (k < rn))]) ∧ w' = w.setCell ⟨kc, 0, none⟩ (.int .i64 (k + 1)) := by
  by_cases hlt : k < rn
  · obtain ⟨g, o, rfl, hc⟩ := hr.1 (by omega)
    have hg := hap (by omega) g o rfl
    have c0 := hc k hlt
    have hlti : (k : Int) < (rn : Int) := by omega
    rw [decide_eq_true hlt]
    clear hc hr hap
    go_enter Yba.func8, Yba.ntmps8
    go_wp2
    go_ret2
    exact ⟨rfl, rfl⟩
  · obtain ⟨e1, e2, e3⟩ := hr.2 k (by omega)
    have hlti : ¬ (k : Int) < (rn : Int) := by omega
    rw [decide_eq_false hlt, e1, e2, e3]
    clear e1 e2 e3 hr hap
    go_enter Yba.func8, Yba.ntmps8
    go_wp2
    go_ret2
    exact ⟨rfl, rfl⟩

/-- More than one range is left: the first is dropped. -/
theorem adv_long (cb b off n c : Nat) (w : World) (h2 : 2 ≤ n) (hn : n ≤ 1024) (hc : n ≤ c) (h0 : w.cell? ⟨cb, 2, none⟩ = some (.slice (some ⟨b, off, none⟩) n c)) (f0 : w.frozen? ⟨cb, 2, none⟩ = false) :
    Calls Yba.prog 6 #[.pointer (some ⟨cb, 0, none⟩)] w fun e w' => e = .returned (.tuple #[]) ∧ w' = w.setCell ⟨cb, 2, none⟩ (.slice (some ⟨b, off + 2, none⟩) (n - 1) (c - 1)) := by
  have e3 : (1 : Int) < (n : Int) := by omega
  have e4 : ¬ c = 1 := by omega
  go_enter Yba.func6, Yba.ntmps6
  go_wp2
  go_end0
  exact ⟨rfl, rfl⟩

theorem cell_far {w : World} {b i : Nat} {p : Addr} (h : b ≠ p.block) (u : Value) : (w.setCell ⟨b, i, none⟩ u).cell? p = w.cell? p :=
  World.cell?_setCell_other _ _ _ _ (fun e => h (by rw [← e]))

theorem Rest.below {w w' : World} {B rn : Nat} {ra : Option Addr} {A : Nat → Option Addr} {L C : Nat → Nat} (h : Rest w ra rn A L C) (hb : Below B w w') (hB : w.heap.size ≤ B) : Rest w' ra rn A L C := by
  refine ⟨fun h0 => ?_, h.2⟩
  obtain ⟨g, o, e, hc⟩ := h.1 h0
  exact ⟨g, o, e, fun i hi => (hb.cell (Nat.lt_of_lt_of_le (World.block_lt_of_cell? w _ (hc i hi)) hB)).trans (hc i hi)⟩

theorem Rest.low {w : World} {rn : Nat} {ra : Option Addr} {A : Nat → Option Addr} {L C : Nat → Nat} (h : Rest w ra rn A L C) (h0 : 0 < rn) (g o : Nat) (e : ra = some ⟨g, o, none⟩) : g < w.heap.size := by
  obtain ⟨g', o', e', hc⟩ := h.1 h0
  rw [e] at e'
  simp only [Option.some.injEq, Addr.mk.injEq, and_true] at e'
  rw [e'.1]
  exact World.block_lt_of_cell? w _ (hc 0 h0)

theorem Moved.below {cb kc B : Nat} {v : Value} {k : Int} {w w' : World} (h : Moved cb kc v k w w') (h1 : B ≤ cb) (h2 : B ≤ kc) : Below B w w' :=
  ⟨h.os, h.tape, h.output, by rw [h.size]; exact Nat.le_refl _, fun b hb => h.block b (by omega) (by omega)⟩

theorem Rest.set {w : World} {ra : Option Addr} {rn : Nat} {A : Nat → Option Addr} {L C : Nat → Nat} (h : Rest w ra rn A L C) {b : Nat} (hap : 0 < rn → ∀ g o, ra = some ⟨g, o, none⟩ → g ≠ b) (i : Nat) (v : Value) : Rest (w.setCell ⟨b, i, none⟩ v) ra rn A L C := by
  refine ⟨fun h0 => ?_, h.2⟩
  obtain ⟨g, o, e, hc⟩ := h.1 h0
  exact ⟨g, o, e, fun i hi => (cell_far (Ne.symm (hap h0 g o e)) v).trans (hc i hi)⟩

theorem moved_three {w : World} {cb kc : Nat} {v2 v0 : Value} (h2 : w.cell? ⟨cb, 2, none⟩ = some v2) (h0 : w.cell? ⟨kc, 0, none⟩ = some v0) (hck : cb ≠ kc) (x v : Value) (k : Int) :
    Moved cb kc v k w (((w.setCell ⟨cb, 2, none⟩ x).setCell ⟨kc, 0, none⟩ (.int .i64 k)).setCell ⟨cb, 2, none⟩ v) := by
  have s : ∀ (y : World) (a : Addr) u, (y.setCell a u).heap.size = y.heap.size := fun y a u => by simp [World.setCell]
  refine ⟨rfl, rfl, rfl, by simp [s], fun b h1 h2 => ?_, ?_, ?_, ?_, fun p => by simp⟩
  · rw [Below.heap_setCell _ _ _ _ (by exact h1), Below.heap_setCell _ _ _ _ (by exact h2), Below.heap_setCell _ _ _ _ (by exact h1)]
  · refine World.cell?_setCell_same' _ _ _ ?_
    rw [cell_far (Ne.symm hck), World.cell?_setCell_same' _ _ _ (by simp [h2])]
    rfl
  · rw [cell_far hck]
    exact World.cell?_setCell_same' _ _ _ (by rw [cell_far hck, h0]; rfl)
  · rw [World.cell?_setCell_other _ _ _ _ (by simp), cell_far (Ne.symm hck), World.cell?_setCell_other _ _ _ _ (by simp)]

set_option maxHeartbeats 400000 in
/-- One range is left: the next batch is asked for, once. -/
theorem adv_last5 (cb kc rb k rn rc b off c : Nat) (ra : Option Addr) (A : Nat → Option Addr) (L C : Nat → Nat) (w : World) (hk : k ≤ 100000) (hc : 1 ≤ c) (h2 : w.cell? ⟨cb, 2, none⟩ = some (.slice (some ⟨b, off, none⟩) 1 c))
    (hf : w.cell? ⟨cb, 0, none⟩ = some (.func (Fn.func 5) #[] #[.pointer (some ⟨kc, 0, none⟩), .pointer (some ⟨rb, 0, none⟩)])) (h0 : w.cell? ⟨kc, 0, none⟩ = some (.int .i64 k)) (h1 : w.cell? ⟨rb, 0, none⟩ = some (.slice ra rn rc))
    (f2 : w.frozen? ⟨cb, 2, none⟩ = false) (f0 : w.frozen? ⟨kc, 0, none⟩ = false) (hkr : kc ≠ rb) (hck : cb ≠ kc) (hcr : cb ≠ rb)
    (hr : Rest w ra rn A L C) (hap : 0 < rn → ∀ g o, ra = some ⟨g, o, none⟩ → g ≠ kc ∧ g ≠ cb) :
    Calls Yba.prog 6 #[.pointer (some ⟨cb, 0, none⟩)] w fun e w' => e = .returned (.tuple #[]) ∧ Moved cb kc (.slice (A k) (L k) (C k)) (k + 1) w w' := by
  have HR : Hid (Rest w ra rn A L C) := hr
  have HA : Hid (0 < rn → ∀ g o, ra = some ⟨g, o, none⟩ → g ≠ kc ∧ g ≠ cb) := hap
  clear hr hap
  have hkc : kc ≠ cb := Ne.symm hck
  have hrc : rb ≠ cb := Ne.symm hcr
  have n1 : ∀ v : Value, (w.setCell ⟨cb, 2, none⟩ v).cell? ⟨kc, 0, none⟩ = some (.int .i64 k) := fun v => (cell_far hck v).trans h0
  have n2 : ∀ v : Value, (w.setCell ⟨cb, 2, none⟩ v).cell? ⟨rb, 0, none⟩ = some (.slice ra rn rc) := fun v => (cell_far hcr v).trans h1
  have fin : ∀ x v : Value, Moved cb kc v (k + 1) w (((w.setCell ⟨cb, 2, none⟩ x).setCell ⟨kc, 0, none⟩ (.int .i64 (k + 1))).setCell ⟨cb, 2, none⟩ v) := fun x v => moved_three h2 h0 hck x v _
  by_cases hc1 : c = 1
  · subst hc1
    go_enter Yba.func6, Yba.ntmps6
    go_wp2_with (go_at_call 5; refine (next5 kc rb k rn rc ra A L C _ hk (n1 _) (by simpa using f0) (n2 _) hkr (HR.out.set (fun h g o e => (HA.out h g o e).2) _ _) (fun h g o e => (HA.out h g o e).1)).mono ?_; rintro e w' ⟨rfl, rfl⟩)
    go_end0
    exact ⟨rfl, fin _ _⟩
  · go_enter Yba.func6, Yba.ntmps6
    go_wp2_with (go_at_call 5; refine (next5 kc rb k rn rc ra A L C _ hk (n1 _) (by simpa using f0) (n2 _) hkr (HR.out.set (fun h g o e => (HA.out h g o e).2) _ _) (fun h g o e => (HA.out h g o e).1)).mono ?_; rintro e w' ⟨rfl, rfl⟩)
    go_end0
    exact ⟨rfl, fin _ _⟩

set_option maxHeartbeats 400000 in
/-- One range is left: the next batch is asked for, once. -/
theorem adv_last8 (cb kc rb k rn rc b off c : Nat) (ra : Option Addr) (A : Nat → Option Addr) (L C : Nat → Nat) (w : World) (hk : k ≤ 100000) (hc : 1 ≤ c) (h2 : w.cell? ⟨cb, 2, none⟩ = some (.slice (some ⟨b, off, none⟩) 1 c))
    (hf : w.cell? ⟨cb, 0, none⟩ = some (.func (Fn.func 8) #[] #[.pointer (some ⟨kc, 0, none⟩), .pointer (some ⟨rb, 0, none⟩)])) (h0 : w.cell? ⟨kc, 0, none⟩ = some (.int .i64 k)) (h1 : w.cell? ⟨rb, 0, none⟩ = some (.slice ra rn rc))
    (f2 : w.frozen? ⟨cb, 2, none⟩ = false) (f0 : w.frozen? ⟨kc, 0, none⟩ = false) (hkr : kc ≠ rb) (hck : cb ≠ kc) (hcr : cb ≠ rb)
    (hr : Rest w ra rn A L C) (hap : 0 < rn → ∀ g o, ra = some ⟨g, o, none⟩ → g ≠ kc ∧ g ≠ cb) :
    Calls Yba.prog 6 #[.pointer (some ⟨cb, 0, none⟩)] w fun e w' => e = .returned (.tuple #[]) ∧ Moved cb kc (.slice (A k) (L k) (C k)) (k + 1) w w' := by
  have HR : Hid (Rest w ra rn A L C) := hr
  have HA : Hid (0 < rn → ∀ g o, ra = some ⟨g, o, none⟩ → g ≠ kc ∧ g ≠ cb) := hap
  clear hr hap
  have hkc : kc ≠ cb := Ne.symm hck
  have hrc : rb ≠ cb := Ne.symm hcr
  have n1 : ∀ v : Value, (w.setCell ⟨cb, 2, none⟩ v).cell? ⟨kc, 0, none⟩ = some (.int .i64 k) := fun v => (cell_far hck v).trans h0
  have n2 : ∀ v : Value, (w.setCell ⟨cb, 2, none⟩ v).cell? ⟨rb, 0, none⟩ = some (.slice ra rn rc) := fun v => (cell_far hcr v).trans h1
  have fin : ∀ x v : Value, Moved cb kc v (k + 1) w (((w.setCell ⟨cb, 2, none⟩ x).setCell ⟨kc, 0, none⟩ (.int .i64 (k + 1))).setCell ⟨cb, 2, none⟩ v) := fun x v => moved_three h2 h0 hck x v _
  by_cases hc1 : c = 1
  · subst hc1
    go_enter Yba.func6, Yba.ntmps6
    go_wp2_with (go_at_call 8; refine (next8 kc rb k rn rc ra A L C _ hk (n1 _) (by simpa using f0) (n2 _) hkr (HR.out.set (fun h g o e => (HA.out h g o e).2) _ _) (fun h g o e => (HA.out h g o e).1)).mono ?_; rintro e w' ⟨rfl, rfl⟩)
    go_end0
    exact ⟨rfl, fin _ _⟩
  · go_enter Yba.func6, Yba.ntmps6
    go_wp2_with (go_at_call 8; refine (next8 kc rb k rn rc ra A L C _ hk (n1 _) (by simpa using f0) (n2 _) hkr (HR.out.set (fun h g o e => (HA.out h g o e).2) _ _) (fun h g o e => (HA.out h g o e).1)).mono ?_; rintro e w' ⟨rfl, rfl⟩)
    go_end0
    exact ⟨rfl, fin _ _⟩
end Go.Proofs.Ybulkxsm
