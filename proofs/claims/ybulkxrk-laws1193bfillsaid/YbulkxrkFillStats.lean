/-
  Seat b1193a: the walk of 'zzs1193bstats' (function 4): it copies the stats, in order, into a row of its own.
-/
import Derived.Test.YbulkxrkRows
import Derived.WalkKit
import Derived.WalkSpells
import Derived.WalkLawsBesides
import Derived.BigRegion
import Derived.RegionTactic
namespace Go.Proofs.Ybulkxrk
open Go.RowKit

/-- What is known of the stats that came in: where there is one, the slice leads to a row of three cells an element. -/
def InRow (w : World) (a : Option Addr) (len : Nat) (S : Nat → ByteArray) (A R : Nat → Int) : Prop :=
  0 < len → ∃ b off, a = some ⟨b, off, none⟩ ∧ (∀ i, i < len → w.cell? ⟨b, off + i * 3, none⟩ = some (.string (S i))) ∧
    (∀ i, i < len → w.cell? ⟨b, off + i * 3 + 1, none⟩ = some (.int .i64 (A i))) ∧ (∀ i, i < len → w.cell? ⟨b, off + i * 3 + 2, none⟩ = some (.int .i64 (R i)))

/-- Row N holds 'len' elements of three cells; the first k are the stats. -/
def Filled (N len k : Nat) (S : Nat → ByteArray) (A R : Nat → Int) (wr : World) : Prop :=
  ∃ xs, wr.ownsRow N 39 3 (.slice (some ⟨N, 0, none⟩) len len) len xs ∧
    ∀ j, j < k → xs[j * 3]? = some (.string (S j)) ∧ xs[j * 3 + 1]? = some (.int .i64 (A j)) ∧ xs[j * 3 + 2]? = some (.int .i64 (R j))

theorem Filled.step {N len k : Nat} {S : Nat → ByteArray} {A R : Nat → Int} {wr : World} (h : Filled N len k S A R wr) (hk : k < len) :
    Filled N len (k + 1) S A R (((wr.setCell ⟨N, k * 3, none⟩ (.string (S k))).setCell ⟨N, k * 3 + 1, none⟩ (.int .i64 (A k))).setCell ⟨N, k * 3 + 2, none⟩ (.int .i64 (R k))).drew := by
  obtain ⟨xs, ho, hx⟩ := h
  have hl := ho.1
  refine ⟨_, (((ho.stored (k * 3) (.string (S k))).1.stored (k * 3 + 1) (.int .i64 (A k))).1.stored (k * 3 + 2) (.int .i64 (R k))).1.drew, fun j hj => ?_⟩
  by_cases hjk : j = k
  · subst hjk
    refine ⟨?_, ?_, ?_⟩
    · rw [List.getElem?_set_ne (by omega), List.getElem?_set_ne (by omega), List.getElem?_set_self (by omega)]
    · rw [List.getElem?_set_ne (by omega), List.getElem?_set_self (by simp; omega)]
    · rw [List.getElem?_set_self (by simp; omega)]
  · obtain ⟨x0, x1, x2⟩ := hx j (by omega)
    refine ⟨?_, ?_, ?_⟩
    · rw [List.getElem?_set_ne (by omega), List.getElem?_set_ne (by omega), List.getElem?_set_ne (by omega)]; exact x0
    · rw [List.getElem?_set_ne (by omega), List.getElem?_set_ne (by omega), List.getElem?_set_ne (by omega)]; exact x1
    · rw [List.getElem?_set_ne (by omega), List.getElem?_set_ne (by omega), List.getElem?_set_ne (by omega)]; exact x2

/-- The cells of a filled row, as a walk reads them. -/
theorem Filled.cells {N len : Nat} {S : Nat → ByteArray} {A R : Nat → Int} {wr : World} (h : Filled N len len S A R wr) (i : Nat) (hi : i < len) :
    wr.cell? ⟨N, i * 3, none⟩ = some (.string (S i)) ∧ wr.cell? ⟨N, i * 3 + 1, none⟩ = some (.int .i64 (A i)) ∧ wr.cell? ⟨N, i * 3 + 2, none⟩ = some (.int .i64 (R i)) := by
  obtain ⟨xs, ho, hx⟩ := h
  obtain ⟨x0, x1, x2⟩ := hx i hi
  exact ⟨(ho.cellAt _ (by omega)).trans x0, (ho.cellAt _ (by omega)).trans x1, (ho.cellAt _ (by omega)).trans x2⟩

theorem info39 : (Yba.prog.info? 39).map (fun i => (i.zero, i.size, i.bytes)) = some (some (.agg #[.string ⟨#[]⟩, .int .i64 0, .int .i64 0]), 3, 32) := by kernel_rfl

set_option maxHeartbeats 400000 in
theorem stats_any (a : Option Addr) (len cap : Nat) (S : Nat → ByteArray) (A R : Nat → Int) (w : World) (hmax : len ≤ 1024) (hin : InRow w a len S A R) :
    Calls Yba.prog 4 #[.slice a len cap] w fun e w' => e = .returned (.slice (some ⟨w.heap.size, 0, none⟩) len len) ∧ Filled w.heap.size len len S A R w' ∧ Below w.heap.size w w' := by
  obtain ⟨i0, hi, hz0, hz1, hz2⟩ := info_parts info39
  have HIN : Hid (InRow w a len S A R) := hin
  clear hin
  go_enter Yba.func4, Yba.ntmps4
  go_wp2_with (at_make; refine wpList_make_full _ rfl _ _ 23 rfl w.heap.size 39 i0 _ 3 Yba.underlying23 hi hz0 hz1 .i64 .i64 _ _ len rfl rfl rfl rfl (by rw [hz2]; omega) (by unfold maxLen; omega) (Nat.le_refl _) ?_; intro w1 hown hgr)
  go_loopw [4] (fun i wr => ∃ k : Nat, k ≤ len ∧ i = .int .i64 k ∧ Filled w.heap.size len k S A R wr ∧ Below w.heap.size w wr)
    (fun i _ => len - (intOf i).toNat)
  case atStart => exact ⟨0, Nat.zero_le _, rfl, ⟨_, hown, fun j hj => absurd hj (Nat.not_lt_zero _)⟩, (Below.refl _ _).grown hgr (Nat.le_refl _) (by simp)⟩
  case round =>
    obtain ⟨k, hk, rfl, hfill, hbel⟩ := hrel
    clear hown hgr
    by_cases hlt : k < len
    · obtain ⟨b, off, rfl, h0, h1, h2⟩ := HIN.out (by omega)
      have hb : b < w.heap.size := World.block_lt_of_cell? w _ (h0 k hlt)
      have g0 : wr.cell? ⟨b, off + k * 3, none⟩ = some (.string (S k)) := (hbel.cell (by exact hb)).trans (h0 k hlt)
      have g1 : wr.cell? ⟨b, off + k * 3 + 1, none⟩ = some (.int .i64 (A k)) := (hbel.cell (by exact hb)).trans (h1 k hlt)
      have g2 : wr.cell? ⟨b, off + k * 3 + 2, none⟩ = some (.int .i64 (R k)) := (hbel.cell (by exact hb)).trans (h2 k hlt)
      have hlti : (k : Int) < (len : Int) := by omega
      have HF : Hid (Filled w.heap.size len k S A R wr) := hfill
      obtain ⟨xs, hown', -⟩ := hfill
      obtain ⟨o0, e0⟩ : ∃ v, wr.cell? ⟨w.heap.size, k * 3, none⟩ = some v := ⟨_, (hown'.cellAt (k * 3) (by omega)).trans (List.getElem?_eq_getElem (by rw [hown'.1]; omega))⟩
      obtain ⟨o1, e1⟩ : ∃ v, wr.cell? ⟨w.heap.size, k * 3 + 1, none⟩ = some v := ⟨_, (hown'.cellAt (k * 3 + 1) (by omega)).trans (List.getElem?_eq_getElem (by rw [hown'.1]; omega))⟩
      obtain ⟨o2, e2⟩ : ∃ v, wr.cell? ⟨w.heap.size, k * 3 + 2, none⟩ = some v := ⟨_, (hown'.cellAt (k * 3 + 2) (by omega)).trans (List.getElem?_eq_getElem (by rw [hown'.1]; omega))⟩
      have f0 : wr.frozen? ⟨w.heap.size, k * 3, none⟩ = false := hown'.frozenAt _
      have f1 : wr.frozen? ⟨w.heap.size, k * 3 + 1, none⟩ = false := hown'.frozenAt _
      have f2 : wr.frozen? ⟨w.heap.size, k * 3 + 2, none⟩ = false := hown'.frozenAt _
      clear h0 h1 h2 hown'
      go_wp2
      go_region
      go_wp2
      go_roundw
      case rel => exact ⟨k + 1, by omega, by go_num, Filled.step HF.out hlt, (((hbel.setCell (Nat.le_refl _) _).setCell (Nat.le_refl _) _).setCell (Nat.le_refl _) _).drew⟩
      case measure => simp [intOf]; omega
    · have hkl : len ≤ k := by omega
      go_wp2
      go_ret
      have : k = len := by omega
      subst this
      exact ⟨rfl, hfill, hbel⟩
end Go.Proofs.Ybulkxrk
