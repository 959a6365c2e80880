/-
  Seat b1195a: a batch of ranges as the walks read it; the walk of 'zzs1195aeq' (function 7).
-/
import Derived.Test.YbulkxsmRows
import Derived.WalkKit
import Derived.WalkSpells
import Derived.WalkLawsBesides
import Derived.BigRegion
import Derived.BigQuiet
import Derived.RegionTactic
import Derived.Deep.QuietTactic
namespace Go.Proofs.Ybulkxsm
open Go.RowKit

/-- The n ranges of a batch: range i is (P i, Q i). -/
def Batch (w : World) (a : Option Addr) (n : Nat) (P Q : Nat → Int) : Prop :=
  0 < n → ∃ b off, a = some ⟨b, off, none⟩ ∧ (∀ i, i < n → w.cell? ⟨b, off + i * 2, none⟩ = some (.int .u64 (P i))) ∧ (∀ i, i < n → w.cell? ⟨b, off + i * 2 + 1, none⟩ = some (.int .u64 (Q i)))

theorem Batch.below {w w' : World} {B n : Nat} {a : Option Addr} {P Q : Nat → Int} (h : Batch w a n P Q) (hb : Below B w w') (hB : w.heap.size ≤ B) : Batch w' a n P Q := by
  intro h0
  obtain ⟨b, off, e, h1, h2⟩ := h h0
  exact ⟨b, off, e, fun i hi => (hb.cell (Nat.lt_of_lt_of_le (World.block_lt_of_cell? w _ (h1 i hi)) hB)).trans (h1 i hi), fun i hi => (hb.cell (Nat.lt_of_lt_of_le (World.block_lt_of_cell? w _ (h2 i hi)) hB)).trans (h2 i hi)⟩

/-- The batch behind its first range. -/
theorem Batch.tail {w : World} {b off n : Nat} {P Q : Nat → Int} (h : Batch w (some ⟨b, off, none⟩) n P Q) : Batch w (some ⟨b, off + 2, none⟩) (n - 1) (fun i => P (i + 1)) (fun i => Q (i + 1)) := by
  intro h0
  obtain ⟨b', off', e, h1, h2⟩ := h (by omega)
  simp only [Option.some.injEq, Addr.mk.injEq, and_true] at e
  obtain ⟨rfl, rfl⟩ := e
  refine ⟨b, off + 2, rfl, fun i hi => ?_, fun i hi => ?_⟩
  · have := h1 (i + 1) (by omega)
    rwa [show off + (i + 1) * 2 = off + 2 + i * 2 from by omega] at this
  · have := h2 (i + 1) (by omega)
    rwa [show off + (i + 1) * 2 + 1 = off + 2 + i * 2 + 1 from by omega] at this

/-- Two batches of the same ranges: the answer is true. -/
theorem eq_any (a a' : Option Addr) (n c c' : Nat) (P Q : Nat → Int) (w : World) (hn : n ≤ maxLen) (h : Batch w a n P Q) (h' : Batch w a' n P Q) :
    Calls Yba.prog 7 #[.slice a n c, .slice a' n c'] w fun e w' => e = .returned (.bool true) ∧ ∃ m, w' = w.drewN m := by
  unfold maxLen at hn
  have H : Hid (Batch w a n P Q) := h
  have H' : Hid (Batch w a' n P Q) := h'
  clear h h'
  go_enter Yba.func7, Yba.ntmps7
  go_wp2
  go_loopw [13] (fun i wr => ∃ k nq : Nat, k ≤ n ∧ i = .int .i64 k ∧ wr = w.drewN nq) (fun i _ => n - (intOf i).toNat)
  case atStart => exact ⟨0, 0, Nat.zero_le _, rfl, rfl⟩
  case round =>
    obtain ⟨k, nq, hk, rfl, rfl⟩ := hrel
    by_cases hlt : k < n
    · have hlti : (k : Int) < (n : Int) := by omega
      obtain ⟨b, off, rfl, h1, h2⟩ := H.out (by omega)
      obtain ⟨b', off', rfl, h1', h2'⟩ := H'.out (by omega)
      have g1 := h1 k hlt
      have g2 := h2 k hlt
      have g1' := h1' k hlt
      have g2' := h2' k hlt
      clear h1 h2 h1' h2'
      go_wp2
      go_quiet (fail)
      go_wp2
      go_roundw
      case rel => exact ⟨k + 1, _, by omega, by go_num, rfl⟩
      case measure => simp [intOf]; omega
    · have hkn : k = n := by omega
      subst hkn
      go_wp2
      go_ret
      exact ⟨rfl, nq, rfl⟩
end Go.Proofs.Ybulkxsm
