/-
  Seat b1195a: the walk of LawS1195AStep (function 3).
-/
import Derived.Test.YbulkxsmAdvance
namespace Go.Proofs.Ybulkxsm
open Go.RowKit

theorem below3 (w : World) (o1 o2 o3 : Obj) : Below w.heap.size w (((w.alloc o1).alloc o2).alloc o3) :=
  (((Below.refl _ _).alloc (Nat.le_refl _) _).alloc (by simp) _).alloc (by simp; omega) _

set_option maxHeartbeats 1000000 in
theorem step_long (b off n c : Nat) (ra : Option Addr) (rn rc : Nat) (P Q : Nat → Int) (w : World) (h2 : 2 ≤ n) (hn : n ≤ 1024) (hr : rn ≤ 256) (hc : n ≤ c) (h : Batch w (some ⟨b, off, none⟩) n P Q) :
    Calls Yba.prog 3 #[.slice (some ⟨b, off, none⟩) n c, .slice ra rn rc] w fun e w' => e = .returned (.bool true) ∧ Below w.heap.size w w' := by
  have H : Hid (Batch w (some ⟨b, off, none⟩) n P Q) := h
  clear h
  have e0 : ((n : Int) == 0) = false := by simp; omega
  have e1 : ¬ (1024 : Int) < (n : Int) := by omega
  have e2 : ¬ (256 : Int) < (rn : Int) := by omega
  have e3 : (1 : Int) < (n : Int) := by omega
  have e4 : ¬ c = 1 := by omega
  have e5 : (n : Int) ≤ (c : Int) := by omega
  go_enter Yba.func3, Yba.ntmps3
  go_wp2_with fail
  refine (adv_long (w.heap.size + 1 + 1) b off n c _ h2 hn hc (by simp [go_sem]) (by simp [go_sem])).mono ?_
  rintro e w1 ⟨rfl, rfl⟩
  go_wp2_with fail
  go_quiet ((go_at_call 7; refine Calls.quiet_of (eq_any _ _ _ _ _ (fun i => P (i + 1)) (fun i => Q (i + 1)) _ ?_ ?_ ?_); (unfold maxLen; omega); (exact H.out.tail.below (below_drewN (below3 _ _ _ _) _) (Nat.le_refl _)); (exact H.out.tail.below (below_drewN (below3 _ _ _ _) _) (Nat.le_refl _))))
  go_wp2
  go_ret
  exact ⟨rfl, below_drewN (below3 _ _ _ _) _⟩

set_option maxHeartbeats 1000000 in
theorem step_one (b off c : Nat) (ra : Option Addr) (rn rc : Nat) (A : Nat → Option Addr) (L C : Nat → Nat) (P' Q' : Nat → Int) (w : World) (hr : rn ≤ 256) (hc : 1 ≤ c)
    (hR : Rest w ra rn A L C) (hL : L 0 ≤ maxLen) (hB : Batch w (A 0) (L 0) P' Q') :
    Calls Yba.prog 3 #[.slice (some ⟨b, off, none⟩) 1 c, .slice ra rn rc] w fun e w' => e = .returned (.bool true) ∧ Below w.heap.size w w' := by
  have HR : Hid (Rest w ra rn A L C) := hR
  have HB : Hid (Batch w (A 0) (L 0) P' Q') := hB
  clear hR hB
  have e2 : ¬ (256 : Int) < (rn : Int) := by omega
  go_enter Yba.func3, Yba.ntmps3
  go_wp2_with fail
  refine (adv_last5 (w.heap.size + 1 + 1) (w.heap.size + 1) w.heap.size 0 rn rc b off c ra A L C _ (by omega) hc (by simp [go_sem]) (by simp [go_sem]) (by simp [go_sem]) (by simp [go_sem]) (by simp [go_sem]) (by simp [go_sem]) (by omega) (by omega) (by omega) (HR.out.below (below3 _ _ _ _) (Nat.le_refl _)) (fun h g o e => by have := HR.out.low h g o e; omega)).mono ?_
  rintro e w1 ⟨rfl, hm⟩
  have hbw : Below w.heap.size w w1 := (below3 _ _ _ _).trans (hm.below (by omega) (by omega))
  have g1 := hm.batch
  have g2 : w1.cell? ⟨w.heap.size + 1, 0, none⟩ = some (.int .i64 1) := by simpa using hm.calls
  have g3 : w1.cell? ⟨w.heap.size, 0, none⟩ = some (.slice ra rn rc) := by
    rw [World.cell?_of_block (hm.block w.heap.size (by omega) (by omega))]
    simp [go_sem]
  clear hm
  rcases Nat.eq_zero_or_pos rn with h0 | h0
  · obtain ⟨f1, f2, f3⟩ := HR.out.2 0 (by omega)
    rw [f1, f2, f3] at g1
    subst h0
    clear f1 f2 f3
    go_wp2
    go_ret
    exact ⟨rfl, hbw⟩
  · obtain ⟨g, o, rfl, hcl⟩ := HR.out.1 h0
    have g4 : w1.cell? ⟨g, o, none⟩ = some (.slice (A 0) (L 0) (C 0)) := (hbw.cell (by exact World.block_lt_of_cell? w _ (hcl 0 h0))).trans (by simpa using hcl 0 h0)
    have e6 : ((rn : Int) == 0) = false := by simp; omega
    have e7 : (0 : Int) < (rn : Int) := by omega
    clear hcl
    go_wp2
    go_quiet ((go_at_call 7; refine Calls.quiet_of (eq_any _ _ _ _ _ P' Q' _ ?_ ?_ ?_); (exact hL); (exact HB.out.below (below_drewN hbw _) (Nat.le_refl _)); (exact HB.out.below (below_drewN hbw _) (Nat.le_refl _))))
    go_wp2
    go_ret
    exact ⟨rfl, below_drewN hbw _⟩
end Go.Proofs.Ybulkxsm
