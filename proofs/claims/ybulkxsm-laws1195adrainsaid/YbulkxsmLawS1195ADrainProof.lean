/-
  Seat b1195a: 'Rows.LawS1195ADrainSaid', proved: the row's step over the walk.
-/
import Derived.Test.YbulkxsmDrainLaw
import Derived.Test.YbulkxsmRead
import Derived.ShutString
import Derived.ChangeOld
import Derived.Below
import Derived.Carry
namespace Go.Proofs.Ybulkxsm.lawS1195ADrain
open Go.ChangeShapes Go.WideShapes Go.ChangeAt Go.RowKit Go.Deep
set_option linter.unusedVariables false

theorem own : ownKnob Yba.prog.godebug = none := by kernel_rfl
theorem laidOut : laidOutB Yba.prog = true := by kernel_rfl

/-- An empty or too long first batch, or too many further ones: the law answers at once. -/
theorem short_walk (a ra : Option Addr) (n c rn rc : Nat) (w : World) (h : n = 0 ∨ 1024 < n ∨ 256 < rn) :
    Calls Yba.prog 4 #[.slice a n c, .slice ra rn rc] w fun e w' => e = .returned (.bool true) ∧ Below w.heap.size w w' := by
  by_cases h0 : n = 0
  · subst h0
    clear h
    go_enter Yba.func4, Yba.ntmps4
    go_wp2
    go_ret
    exact ⟨rfl, (Below.refl _ _).alloc (Nat.le_refl _) _⟩
  · have e0 : ((n : Int) == 0) = false := by simp; omega
    by_cases h1 : 1024 < n
    · have e1 : (1024 : Int) < (n : Int) := by omega
      clear h
      go_enter Yba.func4, Yba.ntmps4
      go_wp2
      go_ret
      exact ⟨rfl, (Below.refl _ _).alloc (Nat.le_refl _) _⟩
    · have e1 : ¬ (1024 : Int) < (n : Int) := by omega
      have e2 : (256 : Int) < (rn : Int) := by omega
      clear h
      go_enter Yba.func4, Yba.ntmps4
      go_wp2
      go_ret
      exact ⟨rfl, (Below.refl _ _).alloc (Nat.le_refl _) _⟩

theorem walk (a ra : Option Addr) (n c rn rc : Nat) (P Q : Nat → Int) (A : Nat → Option Addr) (L C : Nat → Nat) (P' Q' : Nat → Nat → Int) (w : World) (hc : n ≤ c) (hB : Batch w a n P Q) (hR : Rest w ra rn A L C)
    (hr : ∀ i, L i ≤ C i ∧ C i ≤ maxLen ∧ Batch w (A i) (L i) (P' i) (Q' i)) :
    Calls Yba.prog 4 #[.slice a n c, .slice ra rn rc] w fun e w' => e = .returned (.bool true) ∧ Below w.heap.size w w' := by
  by_cases h : n = 0 ∨ 1024 < n ∨ 256 < rn
  · exact short_walk a ra n c rn rc w h
  · obtain ⟨b, off, rfl, _⟩ := hB (by omega)
    exact drain_walk b off n c ra rn rc P Q A L C P' Q' w (by omega) (by omega) (by omega) hc hB hR hr

set_option maxRecDepth 100000 in
theorem lifted (os : Os) (started : os.Started) (H : Type) (enc : TypeId × Value → H) :
    ReturnsInHanded {} Yba.checked os 4 .any (Rows.lawS1195ADrainSpec.pre6 enc Yba.prog Yba.f4 Rows.lawS1195ADrainRow.domain false) (Rows.lawS1195ADrainSpec.post enc Yba.prog Yba.f4 false true false false) := by
  refine returnsInHanded_of_change (C := Yba.checked) own started (by kernel_rfl) Yba.func4
    (ChangeSpec.witness6 (enc := enc) (C := Yba.checked) false ⟨#[], #[.slice none 0 0, .slice none 0 0], []⟩ 8 (by kernel_rfl) (by kernel_rfl) (by kernel_rfl) (by kernel_rfl)) ?_
  intro W base args ds gs before hval0 hW hcnd _
  have hval : ∀ (j : Nat) t v, Yba.f4.params[j]? = some t → args[j]? = some v → Value.okWide Yba.prog W .any base t v := hval0
  have hW' := hW
  obtain ⟨p, q, hA0, hV, rfl, hfz, hnd⟩ := hW
  have hA : DataW.TrodAll enc Yba.prog W 0 (fun _ => true) true Yba.f4.params.toList args.toList ds p := hA0
  rw [Yba.params4] at hA hval
  obtain ⟨v0, vs0, d0, ds0, p0, q0, hargs, rfl, rfl, h0, r0⟩ := trodAll_cons hA
  obtain ⟨v1, vs1, d1, ds1, p1, q1, rfl, rfl, rfl, h1, r1⟩ := trodAll_cons r0
  obtain ⟨rfl, rfl, rfl⟩ := trodAll_nil r1
  obtain rfl : args = #[v0, v1] := by cases args; simp_all
  obtain ⟨rfl, rfl⟩ := trodVars_none hV
  obtain ⟨a0, len0, cap0, rfl⟩ := okWide_slice Yba.underlying22 (hval 0 22 v0 rfl rfl)
  obtain ⟨a1, len1, cap1, rfl⟩ := okWide_slice Yba.underlying23 (hval 1 23 v1 rfl rfl)
  have k0 := h0
  have k1 := h1
  have lt0 : ∀ x ∈ p0, x.block < W.heap.size := by obtain ⟨m, hm⟩ := k0; exact DataW.trod_lt m _ _ _ hm
  have lt1 : ∀ x ∈ p1, x.block < W.heap.size := by obtain ⟨m, hm⟩ := k1; exact DataW.trod_lt m _ _ _ hm
  obtain ⟨P, Q, b0, w0⟩ : ∃ P Q, len0 ≤ cap0 ∧ Batch W a0 len0 P Q := by
    obtain ⟨fuel, hf⟩ := h0
    obtain ⟨a, n, c, P, Q, e, u1, _, u3⟩ := batch_of (cs := [.slice a0 len0 cap0]) (by simpa [Value.cells] using hf)
    simp only [List.cons.injEq, Value.slice.injEq, and_true] at e
    obtain ⟨rfl, rfl, rfl⟩ := e
    exact ⟨P, Q, u1, u3⟩
  obtain ⟨A, L, C, P', Q', w1, w2⟩ : ∃ A L C, ∃ P' Q' : Nat → Nat → Int, Rest W a1 len1 A L C ∧ ∀ i, L i ≤ C i ∧ C i ≤ maxLen ∧ Batch W (A i) (L i) (P' i) (Q' i) := by
    obtain ⟨fuel, hf⟩ := h1
    exact rest_of (by simpa [Value.cells] using hf)
  clear hA0 hval0
  refine (walk a0 a1 len0 cap0 len1 cap1 P Q A L C P' Q' W b0 w0 w1 w2).mono fun e W' ⟨he, bel⟩ => ?_
  subst he
  exact ⟨_, rfl, _, _, _, [], _, [], hW', trodAll_mk1 (shut_bool Yba.underlying4 _), (trodAll_cons_mk (Below.trod laidOut (by kernel_rfl) (of_decide_eq_true (by kernel_rfl)) k0 bel lt0) (trodAll_cons_mk (Below.trod laidOut (by kernel_rfl) (of_decide_eq_true (by kernel_rfl)) k1 bel lt1) trodAll_mk0)), rfl, bel.frame _, fun h => by cases h⟩

theorem over : Rows.lawS1195ADrainRow.holds Yba.pinned (OpenSpec.ofChange Rows.lawS1195ADrainSpec) :=
  OpenClaim.holds_of_wide 4 Yba.f4 rfl rfl rfl rfl rfl rfl rfl ⟨rfl, rfl, rfl, rfl, rfl⟩ rfl rfl rfl rfl rfl (by kernel_rfl) Yba.func4 (by kernel_rfl)
    (of_decide_eq_true (by kernel_rfl)) (by unfold Func.isWrapper; first | (rw [if_pos (by decide +kernel)]; kernel_rfl) | (rw [if_neg (by decide +kernel)]; exact ⟨rfl, rfl⟩))
    (fun os started H enc _ => lifted os started H enc)

/-- THE STATEMENT. -/
theorem proved : Rows.LawS1195ADrainSaid := over
end Go.Proofs.Ybulkxsm.lawS1195ADrain
