/-
  Seat b1194a: the walk of the law (function 3).
-/
import Derived.Test.YbulkxryShapeLevels
import Derived.BigQuiet
import Derived.Deep.Cut
import Derived.Deep.CutRange
import Derived.Deep.QuietTactic
namespace Go.Proofs.Ybulkxry
open Go.RowKit

/-! ### The table's cells -/
def selfA (s : ByteArray) : Array Value := #[.string s, .string ⟨#[]⟩, .int .u8 0, .int .u8 0, .int .u8 0, .int .u8 0, .int .u8 0, .int .u8 0, .int .u8 0, .int .u8 0, .int .u8 0, .int .u8 0, .int .u8 0, .int .u8 0, .int .u8 0, .int .u8 0, .int .u8 0, .int .u8 0]
def tabA (s : ByteArray) (v0 v1 : Value) : Array Value := #[.string s, .string ⟨#[]⟩, .int .u8 0, .int .u8 0, .int .u8 0, .int .u8 0, .int .u8 0, .int .u8 0, .int .u8 0, .int .u8 0, .int .u8 0, .int .u8 0, .int .u8 0, .int .u8 0, .int .u8 0, .int .u8 0, .int .u8 0, .int .u8 0, v0, v1, .slice none 0 0]
def bd31 (parts : Array (Nat × Value)) : Sem Value := Instr.build 31 parts
def bd34 (parts : Array (Nat × Value)) : Sem Value := Instr.build 34 parts
def st34 (p v : Value) : Sem Unit := Instr.storeAt 34 p v
theorem to_bd31 (parts : Array (Nat × Value)) : Instr.build 31 parts = bd31 parts := rfl
theorem to_bd34 (parts : Array (Nat × Value)) : Instr.build 34 parts = bd34 parts := rfl
theorem to_st34 (p v : Value) : Instr.storeAt 34 p v = st34 p v := rfl
theorem run_bd31 (s : ByteArray) (w : World) : (bd31 #[(0, .string s)]).run Yba.prog w = .ok (.agg (selfA s)) w := run_build w 31 _ _ (by kernel_rfl)
theorem run_bd34 (s : ByteArray) (a a' : Option Addr) (n n' c c' : Nat) (w : World) : (bd34 #[(0, .agg (selfA s)), (1, .slice a n c), (2, .slice a' n' c')]).run Yba.prog w = .ok (.agg (tabA s (.slice a n c) (.slice a' n' c'))) w := run_build w 34 _ _ (by kernel_rfl)
theorem run_st34 (w : World) (Z : Array Value) (n : Nat) (hn : n = w.heap.size) (hZ : Z.size = 21) (s : ByteArray) (a a' : Option Addr) (m m' c c' : Nat) :
    Sem.run Yba.prog (st34 (.pointer (some ⟨n, 0, none⟩)) (.agg (tabA s (.slice a m c) (.slice a' m' c')))) (w.alloc (.cells Z 34)) = .ok () (w.alloc (.cells (tabA s (.slice a m c) (.slice a' m' c')) 34)) := by
  subst hn
  have h := run_storeVar_row (P := Yba.prog) (w.alloc (.cells Z 34)) w.heap.size 34 34 Z (tabA s (.slice a m c) (.slice a' m' c')) (heap_alloc_new w _) (by kernel_rfl) hZ (by simp [tabA, Value.oneCell'])
  rw [World.setRow_alloc_new] at h
  simpa only [st34, Instr.storeAt, Instr.sureAddr, Sem.run_bind, Sem.run_pure, Result.andThen_ok] using h

attribute [local go_sem ↓] to_ld31 to_ld37 to_nq31 to_nq37 to_bd31 to_bd34 to_st34
attribute [local go_sem] run_nq31 run_nq37 run_bd31 run_bd34 run_st34

theorem own_shape {w : World} {base : Nat} {e : TypeId} {size : Nat} {v : Value} {n : Nat} {xs : List Value} (h : w.ownsRow base e size v n xs) :
    ∃ a c, v = .slice a n c ∧ (0 < n → ∃ g, a = some ⟨g, 0, none⟩) := by
  rcases h.2 with ⟨rfl, rfl⟩ | ⟨g, cap, cur, rfl, -⟩
  · exact ⟨none, 0, rfl, fun h => absurd h (Nat.lt_irrefl 0)⟩
  · exact ⟨_, _, rfl, fun _ => ⟨g, rfl⟩⟩

set_option maxHeartbeats 1000000 in
theorem law_walk (a0 a1 : Option Addr) (n0 c0 n1 c1 : Nat) (S L R : Nat → ByteArray) (w : World) (h0 : n0 ≤ 1024) (h1 : n1 ≤ 1024) (i0 : InStrs w a0 n0 S) (i1 : InPairs w a1 n1 L R) :
    Calls Yba.prog 3 #[.slice a0 n0 c0, .slice a1 n1 c1] w fun e w' => e = .returned (.bool true) ∧ Below w.heap.size w w' := by
  have H0 : Hid (InStrs w a0 n0 S) := i0
  have H1 : Hid (InPairs w a1 n1 L R) := i1
  clear i0 i1
  have hm0 : ¬ (1024 : Int) < (n0 : Int) := by omega
  have hm1 : ¬ (1024 : Int) < (n1 : Int) := by omega
  go_enter Yba.func3, Yba.ntmps3
  go_wp2_with fail
  refine (build_any a0 a1 n0 c0 n1 c1 S L R _ h0 h1 H0.out H1.out).mono ?_
  rintro e w1 ⟨v0, v1, rfl, hown0, hown1, hbel⟩
  have s1 := hown1.2
  have H2 : Hid (w1.ownsRow w.heap.size 37 36 v1 n1 (flat (upF L R) n1)) := hown1
  clear hown1 H0 H1
  rcases own_shape hown0 with ⟨x0, d0, rfl, y0⟩
  rcases own_shape H2.out with ⟨x1, d1, rfl, y1⟩
  clear s1
  have H3 : Hid (w1.ownsRow w.heap.size 31 18 (.slice x0 n0 d0) n0 (flat (leafF S) n0)) := hown0
  clear hown0
  go_wp2_with fail
  have hcell : ∀ (cs : Array Value) (i : Nat), (w1.alloc (.cells cs 34)).cell? ⟨w1.heap.size, i, none⟩ = cs[i]? := fun cs i => World.cell?_alloc_at _ _ _ _ rfl
  have q25 : ∀ (w : World) (a : Option Addr) (n c n' c' : Nat), (binOp .eql 25 (.slice a n c) (.slice none n' c')).run Yba.prog w = .ok (.bool a.isNone) w := fun w a n c n' c' => Lib.run_eql_slice_nil w _ _ a n c n' c' Yba.underlying25
  rcases n0 with _ | m
  · refine (levels_none w1.heap.size d0 x0 _ (hcell _ 18)).mono ?_
    rintro e w2 ⟨rfl, hw2⟩
    clear hcell
    go_wp2
    go_ret
    subst hw2
    exact ⟨rfl, hbel.alloc (hbel.size) _⟩
  · obtain ⟨g, rfl⟩ := y0 (by omega)
    refine (levels_any w1.heap.size g m d0 n1 w.heap.size (.slice x1 n1 d1) S L R _ h0 h1 (hcell _ 18) (hcell _ 19) (fun i hi => World.rangeAt_alloc (range_flat (f := leafF S) (fun _ => rfl) H3.out hi) _) (H2.out.alloc _)).mono ?_
    rintro e w2 ⟨v2, rfl, hown2, hb2⟩
    rcases own_shape hown2 with ⟨x2, d2, rfl, y2⟩
    obtain ⟨g2, rfl⟩ := y2 (by omega)
    have hb2' : Below w1.heap.size w1 w2 := ((Below.refl _ w1).alloc (Nat.le_refl _) _).trans (hb2.mono (B' := w1.heap.size) (by simp))
    have H4 : Hid (w2.ownsRow (w1.alloc (.cells (tabA ⟨#[115, 101, 108, 102]⟩ (.slice (some ⟨g, 0, none⟩) (m + 1) d0) (.slice x1 n1 d1)) 34)).heap.size 37 36 (.slice (some ⟨g2, 0, none⟩) (1 + n1) d2) (1 + n1) (prL (S m) m (S 0) 0 ++ flat (upF L R) n1)) := hown2
    have Y1 : Hid (0 < n1 → ∃ g, x1 = some ⟨g, 0, none⟩) := y1
    clear hcell y0 y2 y1 hown2 hb2
    have hz : ((m : Int) + 1 == 0) = false := by simp; omega
    have rg : ∀ i, i < m + 1 → w2.rangeAt g (i * 18) (leafF S i) := fun i hi => range_below hb2' (range_flat (f := leafF S) (fun _ => rfl) H3.out hi) (Nat.le_refl _)
    have rl : w2.rangeAt g2 0 (pcL (S m) m) := range_of_owned H4.out (by rw [pcL_length]; omega) (fun j hj => by
      rw [Nat.zero_add, List.getElem?_append_left (by rw [prL_length]; rw [pcL_length] at hj; omega), prL, List.getElem?_append_left hj])
    have rr : w2.rangeAt g2 18 (pcL (S 0) 0) := range_of_owned H4.out (by rw [pcL_length]; omega) (fun j hj => by
      rw [pcL_length] at hj
      rw [List.getElem?_append_left (by rw [prL_length]; omega), prL, List.getElem?_append_right (by rw [pcL_length]; omega), pcL_length]
      congr 1
      omega)
    have r0 : w2.rangeAt g 0 (pcL (S 0) 0) := by simpa [leafF] using rg 0 (by omega)
    have l0 : ∀ n, Sem.run Yba.prog (ld31 (.pointer (some ⟨g2, 0, none⟩))) (w2.drewN n) = .ok (.agg (pcA (S m) m)) (w2.drewN n) := fun n => run_ld31 rl
    have l1 : ∀ n, Sem.run Yba.prog (ld31 (.pointer (some ⟨g, m * 18, none⟩))) (w2.drewN n) = .ok (.agg (pcA (S m) m)) (w2.drewN n) := fun n => run_ld31 (rg m (by omega))
    have l2 : ∀ n, Sem.run Yba.prog (ld31 (.pointer (some ⟨g2, 18, none⟩))) (w2.drewN n) = .ok (.agg (pcA (S 0) 0)) (w2.drewN n) := fun n => run_ld31 rr
    have l3 : ∀ n, Sem.run Yba.prog (ld31 (.pointer (some ⟨g, 0, none⟩))) (w2.drewN n) = .ok (.agg (pcA (S 0) 0)) (w2.drewN n) := fun n => run_ld31 r0
    have hmi : (m : Int) < (m : Int) + 1 := by omega
    clear rg rl rr r0
    go_upto_region 10 with fail
    go_quiet (fail)
    go_wp2
    clear l0 l1 l2 l3
    go_loopw [63] (fun i wr => ∃ j nq : Nat, j ≤ n1 ∧ i = .int .i64 j ∧ wr = w2.drewN nq) (fun i _ => n1 - (intOf i).toNat)
    case atStart => exact ⟨0, _, Nat.zero_le _, rfl, rfl⟩
    case round =>
      obtain ⟨j, nq, hj, rfl, rfl⟩ := hrel
      by_cases hlt : j < n1
      · have hlti : (j : Int) < (n1 : Int) := by omega
        have hltj : (j : Int) + 1 < 1 + (n1 : Int) := by omega
        obtain ⟨g1, rfl⟩ := Y1.out (by omega)
        have r1 : w2.rangeAt g1 (j * 36) (upF L R j) := range_below hb2' (range_flat (f := upF L R) (fun _ => rfl) H2.out hlt) (Nat.le_refl _)
        have r2 : w2.rangeAt g2 ((j + 1) * 36) (upF L R j) := range_of_owned H4.out (by show _ + 36 ≤ _; omega) (fun q hq => by
          have hq' : q < 36 := hq
          rw [List.getElem?_append_right (by rw [prL_length]; omega), prL_length, ← flat_get (f := upF L R) (m := 36) (fun _ => rfl) hlt hq']
          congr 1
          omega)
        have l0 : ∀ n, Sem.run Yba.prog (ld37 (.pointer (some ⟨g1, j * 36, none⟩))) (w2.drewN n) = .ok (.agg (prA (L j) (2 * j) (R j) (2 * j + 1))) (w2.drewN n) := fun n => run_ld37 r1
        have l1 : ∀ n, Sem.run Yba.prog (ld37 (.pointer (some ⟨g2, (j + 1) * 36, none⟩))) (w2.drewN n) = .ok (.agg (prA (L j) (2 * j) (R j) (2 * j + 1))) (w2.drewN n) := fun n => run_ld37 r2
        clear r1 r2
        go_wp2
        go_quiet (fail)
        go_wp2
        go_roundw
        case rel => exact ⟨j + 1, _, by omega, by go_num, rfl⟩
        case measure => simp [intOf]; omega
      · have hjn : j = n1 := by omega
        subst hjn
        go_wp2
        go_ret
        exact ⟨rfl, below_drewN (hbel.trans (hb2'.mono hbel.size)) nq⟩
end Go.Proofs.Ybulkxry
