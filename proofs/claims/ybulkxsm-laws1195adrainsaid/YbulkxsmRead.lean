/-
  Seat b1195a: what the readings of the two arguments tell of their cells.
-/
import Derived.Test.YbulkxsmAdvance
import Derived.ProofKit
import Derived.OpenShut
import Derived.Deep.Slices
namespace Go.Proofs.Ybulkxsm
open Go.ChangeShapes Go.WideShapes Go.ChangeAt Go.RowKit Go.Deep

theorem cells22 : Yba.prog.cellsOf 22 = 1 := by kernel_rfl
theorem cells35 : Yba.prog.cellsOf 35 = 2 := by kernel_rfl
theorem cells32 : Yba.prog.cellsOf 32 = 1 := by kernel_rfl

section
variable {H : Type} {enc : TypeId × Value → H} {W : World} {spare : Nat → Bool} {held : Bool} {fuel : Nat}

/-- A slice of ranges: its form, its bounds, its ranges. -/
theorem batch_of {cs : List Value} {x : DataW H × List MemPlace} (h : DataW.trod enc Yba.prog W 0 spare held fuel 22 cs = some x) :
    ∃ a n c P Q, cs = [.slice a n c] ∧ n ≤ c ∧ c ≤ maxLen ∧ Batch W a n P Q := by
  rcases open_slice Yba.underlying22 h with ⟨rfl, _⟩ | ⟨a, n, c, m, q, D, Pl, rfl, _, hl, hm, hmm, _, hx⟩
  · exact ⟨none, 0, 0, fun _ => 0, fun _ => 0, rfl, Nat.le_refl _, Nat.zero_le _, fun h => absurd h (Nat.lt_irrefl 0)⟩
  · have hlm : n ≤ m := by rw [hmm]; split <;> omega
    rw [cells35] at hx
    have each : ∀ i, i < n → ∃ q : Int × Int, W.cell? (a.add (i * 2)) = some (.int .u64 q.1) ∧ W.cell? (a.add (i * 2 + 1)) = some (.int .u64 q.2) := by
      intro i hi
      obtain ⟨cs', h1, h2⟩ := hx i (by omega)
      obtain ⟨_, hlen, hcell⟩ := World.cells?_some h1
      obtain ⟨xs, k, _, _, _, hxl, hg⟩ := DataW.trod_array Yba.underlying35 h2
      match xs, hxl, cs', hlen with
      | [y0, y1], _, [v0, v1], _ =>
        have g0 := hg 0 (by omega)
        have g1 := hg 1 (by omega)
        simp [cells32] at g0 g1
        obtain ⟨p, e0, _, _⟩ := DataW.trod_int Yba.underlying32 g0
        obtain ⟨r, e1, _, _⟩ := DataW.trod_int Yba.underlying32 g1
        simp at e0 e1
        subst e0; subst e1
        have c0 := hcell 0 (by omega)
        have c1 := hcell 1 (by omega)
        rw [add_add] at c0 c1
        exact ⟨(p, r), by simpa using c0, by simpa using c1⟩
    obtain ⟨q, hq⟩ := choose_lt (α := Int × Int) each
    refine ⟨some a, n, c, fun i => (q i).1, fun i => (q i).2, rfl, hl, hm, fun h0 => ?_⟩
    obtain ⟨b, off, spot⟩ := a
    have hspot : spot = none := by
      have := World.cell?_spot (hq 0 h0).1
      simpa [Addr.add] using this
    subst hspot
    have pl : ∀ j, (⟨b, off, none⟩ : Addr).add j = ⟨b, off + j, none⟩ := fun j => add_plain _ _ _
    refine ⟨b, off, rfl, fun i hi => ?_, fun i hi => ?_⟩
    · have := (hq i hi).1; rw [pl] at this; exact this
    · have := (hq i hi).2; rw [pl] at this; simpa [Nat.add_assoc] using this

/-- A slice of batches. -/
theorem rest_of {ra : Option Addr} {rn rc : Nat} {x : DataW H × List MemPlace} (h : DataW.trod enc Yba.prog W 0 spare held fuel 23 [.slice ra rn rc] = some x) :
    ∃ A L C, ∃ P Q : Nat → Nat → Int, Rest W ra rn A L C ∧ ∀ i, L i ≤ C i ∧ C i ≤ maxLen ∧ Batch W (A i) (L i) (P i) (Q i) := by
  rcases open_slice1 Yba.underlying23 cells22 h with ⟨hcs, _⟩ | ⟨a, n, c, m, q, V, D, Pl, hcs, _, hl, hm, hmm, _, hx⟩
  · simp at hcs
    obtain ⟨rfl, rfl, rfl⟩ := hcs
    exact ⟨fun _ => none, fun _ => 0, fun _ => 0, fun _ _ => 0, fun _ _ => 0, ⟨fun h => absurd h (Nat.lt_irrefl 0), fun _ _ => ⟨rfl, rfl, rfl⟩⟩, fun _ => ⟨Nat.le_refl _, Nat.zero_le _, fun h => absurd h (Nat.lt_irrefl 0)⟩⟩
  · simp at hcs
    obtain ⟨rfl, rfl, rfl⟩ := hcs
    have hlm : rn ≤ m := by rw [hmm]; split <;> omega
    have each : ∀ i, i < rn → ∃ q : (Option Addr × Nat × Nat) × (Nat → Int) × (Nat → Int), W.cell? (a.add i) = some (.slice q.1.1 q.1.2.1 q.1.2.2) ∧ q.1.2.1 ≤ q.1.2.2 ∧ q.1.2.2 ≤ maxLen ∧ Batch W q.1.1 q.1.2.1 q.2.1 q.2.2 := by
      intro i hi
      obtain ⟨h1, h2⟩ := hx i (by omega)
      obtain ⟨a', n', c', P, Q, e, b1, b2, hB⟩ := batch_of h2
      simp only [List.cons.injEq, and_true] at e
      rw [e] at h1
      exact ⟨((a', n', c'), P, Q), h1, b1, b2, hB⟩
    obtain ⟨q, hq⟩ := choose_lt (α := (Option Addr × Nat × Nat) × (Nat → Int) × (Nat → Int)) each
    refine ⟨fun i => if i < rn then (q i).1.1 else none, fun i => if i < rn then (q i).1.2.1 else 0, fun i => if i < rn then (q i).1.2.2 else 0, fun i => (q i).2.1, fun i => (q i).2.2, ⟨fun h0 => ?_, fun i hi => ?_⟩, fun i => ?_⟩
    · obtain ⟨b, off, spot⟩ := a
      have hspot : spot = none := by
        have := World.cell?_spot (hq 0 h0).1
        simpa [Addr.add] using this
      subst hspot
      refine ⟨b, off, rfl, fun i hi => ?_⟩
      have := (hq i hi).1
      rw [show (⟨b, off, none⟩ : Addr).add i = ⟨b, off + i, none⟩ from add_plain _ _ _] at this
      simpa [hi] using this
    · simp [Nat.not_lt.2 hi]
    · by_cases hi : i < rn
      · simpa [hi] using (hq i hi).2
      · simp only [if_neg hi]
        exact ⟨Nat.le_refl _, Nat.zero_le _, fun h => absurd h (Nat.lt_irrefl 0)⟩
end
end Go.Proofs.Ybulkxsm
