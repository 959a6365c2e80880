/-
  Seat b1193a: the walk of the law (function 3).
-/
import Derived.Test.YbulkxrkFillCapture
import Derived.BigQuiet
import Derived.Deep.QuietTactic
import Derived.Lib.Builder
namespace Go.Proofs.Ybulkxrk
open Go.RowKit

/-- What the law reads of the lane behind the call. -/
structure Lane (X : World) (L n : Nat) (q : Option Addr) (nm tree : ByteArray) (S : Nat → ByteArray) (A R : Nat → Int) (g c : Nat) (w' : World) : Prop where
  below : Below L X w'
  c0 : w'.cell? ⟨L, 0, none⟩ = some (.string nm)
  c4 : w'.cell? ⟨L, 4, none⟩ = some (.pointer q)
  c5 : w'.cell? ⟨L, 5, none⟩ = some (.pointer (some ⟨L + 1, 1, none⟩))
  c6 : w'.cell? ⟨L, 6, none⟩ = some (.pointer none)
  c7 : w'.cell? ⟨L, 7, none⟩ = some (.slice (some ⟨g, 0, none⟩) n c)
  c8 : w'.cell? ⟨L, 8, none⟩ = some (.int .i64 (sumTo A n))
  c9 : w'.cell? ⟨L, 9, none⟩ = some (.int .i64 (sumTo R n))
  c10 : w'.cell? ⟨L, 10, none⟩ = some (.int .i64 (wrap64 (sumTo A n + sumTo R n)))
  tr : w'.cell? ⟨L + 1, 1, none⟩ = some (.string tree)
  row : ∀ i, i < n → w'.cell? ⟨g, i, none⟩ = some (.string (S i))

theorem Filled.alloc {N len k : Nat} {S : Nat → ByteArray} {A R : Nat → Int} {w : World} (h : Filled N len k S A R w) (o : Obj) : Filled N len k S A R (w.alloc o) := by
  obtain ⟨xs, ho, hx⟩ := h
  exact ⟨xs, ho.alloc o, hx⟩

theorem fill_law (X : World) (L C n : Nat) (q : Option Addr) (nm tree : ByteArray) (pe sl : Value) (pa pr : Int) (S : Nat → ByteArray) (A R : Nat → Int) (hn : n ≤ 1024) (hXL : X.heap.size = L) (hC : C < L) (hfill : Filled C n n S A R X) :
    Calls Yba.prog 5 #[.pointer (some ⟨L, 0, none⟩), .agg #[.pointer q, .string tree, .slice (some ⟨C, 0, none⟩) n n]]
      (X.alloc (.cells #[.string nm, .string ⟨#[]⟩, .pointer none, .pointer none, .pointer none, .pointer none, pe, sl, .int .i64 pa, .int .i64 pr, .int .i64 7, .pointer none, .string ⟨#[]⟩, .int .i64 0, .pointer none] 31))
      fun e w' => e = .returned (.tuple #[]) ∧ ∃ g c, Lane X L n q nm tree S A R g c w' := by
  subst hXL
  have hc : ∀ (cs : Array Value) (i : Nat), (X.alloc (.cells cs 31)).cell? ⟨X.heap.size, i, none⟩ = cs[i]? := fun cs i => World.cell?_alloc_at _ _ _ _ rfl
  refine (fill_any X.heap.size C n q nm tree S A R _ hn (by omega) (by simp; omega) (hfill.alloc _) (by simp) (hc _ 0) _ _ _ _ _ _ _ (hc _ 4) (hc _ 5) (hc _ 6) (hc _ 7) (hc _ 8) (hc _ 9) (hc _ 10) (fun i => World.frozen?_alloc_at _ _ _ _ rfl)).mono ?_
  rintro e w' ⟨rfl, v, hi, ho, hv, h10⟩
  refine ⟨rfl, ?_⟩
  rcases ho.2 with ⟨h, _⟩ | ⟨g, c, cur, rfl, hg, hh, _⟩
  · exact absurd h hv
  have hs : ∀ o, (X.alloc o).heap.size = X.heap.size + 1 := fun o => by simp
  refine ⟨g, c, ⟨?_, hi.c0, hi.c4, ?_, hi.c6, hi.c7, hi.c8, hi.c9, h10, ?_, fun i hin => ?_⟩⟩
  · have hgr := hi.grown
    exact ⟨hgr.os, hgr.tape, hgr.output, by have := hgr.size; rw [hs] at this; omega, fun k hk => (hgr.block k (by rw [hs]; omega) (by simp; omega)).trans (Below.heap_alloc _ _ _ hk)⟩
  · have := hi.c5; rw [hs] at this; exact this
  · have := hi.tr; rw [hs] at this; exact this
  · rw [ho.cellAt i (by omega)]
    simp [paths, hin]

set_option maxHeartbeats 1000000 in
theorem law_walk (a : Option Addr) (len cap : Nat) (S : Nat → ByteArray) (A R : Nat → Int) (tree commit nm : ByteArray) (hc : Bool) (pa pr : Int) (w : World) (hmax : len ≤ 1024) (hin : InRow w a len S A R) :
    Calls Yba.prog 3 #[.slice a len cap, .string tree, .string commit, .bool hc, .string nm, .int .i64 pa, .int .i64 pr] w fun e w' => e = .returned (.bool true) ∧ Below w.heap.size w w' := by
  have HIN : Hid (InRow w a len S A R) := hin
  clear hin
  have hm1 : ¬ (1024 : Int) < (len : Int) := by omega
  have q27 : ∀ (w : World) (a : Option Addr) (n c n' c' : Nat), (binOp .eql 27 (.slice a n c) (.slice none n' c')).run Yba.prog w = .ok (.bool a.isNone) w := fun w a n c n' c' => Lib.run_eql_slice_nil w _ _ a n c n' c' Yba.underlying27
  have q25 : ∀ (w : World) (a : Addr), (binOp .neq 25 (.pointer (some a)) (.pointer (some a))).run Yba.prog w = .ok (.bool false) w := fun w a => by
    obtain ⟨i, hi, _⟩ := info_parts info9
    exact Lib.run_neq_ptr_same w a Yba.underlying25 hi
  cases hc
  all_goals
    go_enter Yba.func3, Yba.ntmps3
    go_wp2_with fail
    refine (stats_any a len cap S A R _ hmax HIN.out).mono ?_
    rintro e w1 ⟨rfl, hfill, hbel⟩
    have HF : Hid (Filled w.heap.size len len S A R w1) := hfill
    clear hfill
    have hz1 : w.heap.size < w1.heap.size := by obtain ⟨xs, ho, -⟩ := HF.out; exact (ho.lt _ rfl).2
    go_wp2_with fail
    refine (fill_law _ _ w.heap.size len _ nm tree _ _ pa pr S A R hmax (by simp) (by omega) (by first | exact ((HF.out.alloc _).alloc _).alloc _ | exact (HF.out.alloc _).alloc _)).mono ?_
    rintro e w2 ⟨rfl, g, c, hl⟩
    have hbel2 : Below w.heap.size w w2 := by
      have h1 := (hl.below).mono (B' := w.heap.size) (by omega)
      first
        | exact (((hbel.alloc (by omega) _).alloc (by simp; omega) _).alloc (by simp; omega) _).trans h1
        | exact ((hbel.alloc (by omega) _).alloc (by simp; omega) _).trans h1
    obtain ⟨-, l0, l4, l5, l6, l7, l8, l9, l10, ltr, lrow⟩ := hl
    clear HF hbel
    go_wp2
    clear l0 l4 l5 l6 ltr
    go_loopw [20, 21, 22] (fun x y i wr => ∃ k nq : Nat, k ≤ len ∧ i = .int .i64 k ∧ x = .int .i64 (sumTo A k) ∧ y = .int .i64 (sumTo R k) ∧ wr = w2.drewN nq)
      (fun _ _ i _ => len - (intOf i).toNat)
    case atStart => exact ⟨0, 0, Nat.zero_le _, rfl, rfl, rfl, rfl⟩
    case round =>
      obtain ⟨k, nq, hk, rfl, rfl, rfl, rfl⟩ := hrel
      by_cases hlt : k < len
      · have hlti : (k : Int) < (len : Int) := by omega
        obtain ⟨b, off, rfl, h0, h1, h2⟩ := HIN.out (by omega)
        have hb : b < w.heap.size := World.block_lt_of_cell? w _ (h0 k hlt)
        have g0 : w2.cell? ⟨b, off + k * 3, none⟩ = some (.string (S k)) := (hbel2.cell (by exact hb)).trans (h0 k hlt)
        have g1 : w2.cell? ⟨b, off + k * 3 + 1, none⟩ = some (.int .i64 (A k)) := (hbel2.cell (by exact hb)).trans (h1 k hlt)
        have g2 : w2.cell? ⟨b, off + k * 3 + 2, none⟩ = some (.int .i64 (R k)) := (hbel2.cell (by exact hb)).trans (h2 k hlt)
        have g3 := lrow k hlt
        clear h0 h1 h2 lrow
        go_wp2
        go_quiet (fail)
        go_wp2
        go_roundw
        case rel => exact ⟨k + 1, _, by omega, by go_num, rfl, rfl, rfl⟩
        case measure => simp [intOf]; omega
      · have hkn : k = len := by omega
        subst hkn
        go_wp2
        go_ret
        exact ⟨rfl, below_drewN hbel2 nq⟩
end Go.Proofs.Ybulkxrk
