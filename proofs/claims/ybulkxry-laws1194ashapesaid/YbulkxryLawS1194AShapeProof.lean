/-
  Seat b1194a: 'Rows.LawS1194AShapeSaid', proved: the row's step over the walk.
-/
import Derived.Test.YbulkxryShapeLaw
import Derived.ProofKit
import Derived.OpenShut
import Derived.ShutString
import Derived.ChangeOld
import Derived.Below
import Derived.Carry
import Derived.SizedLaws
import Derived.Deep.Slices
import Derived.Deep.SlicePairs
namespace Go.Proofs.Ybulkxry.lawS1194AShape
open Go.ChangeShapes Go.WideShapes Go.ChangeAt Go.RowKit Go.Deep
set_option linter.unusedVariables false

theorem own : ownKnob Yba.prog.godebug = none := by kernel_rfl
theorem laidOut : laidOutB Yba.prog = true := by kernel_rfl
theorem cells9 : Yba.prog.cellsOf 9 = 1 := by kernel_rfl
theorem cells41 : Yba.prog.cellsOf 41 = 2 := by kernel_rfl

theorem weightsAll_mem {H : Type} {P : Program} {e : TypeId} : ∀ {l : List (DataW H)} {d : DataW H}, d ∈ l → ∀ n ∈ d.weights P e, n ∈ DataW.weightsAll P e l
  | x :: l, d, h, n, hn => by
    simp only [DataW.weightsAll, List.mem_append]
    rcases List.mem_cons.1 h with rfl | h
    · exact Or.inl hn
    · exact Or.inr (weightsAll_mem h n hn)

theorem addr_plain {W : World} {a : Addr} {v : Value} (h : W.cell? (a.add 0) = some v) : ∃ b off, a = ⟨b, off, none⟩ := by
  obtain ⟨b, off, spot⟩ := a
  have hs := World.cell?_spot h
  have : spot = none := by simpa [Addr.add] using hs
  subst this
  exact ⟨b, off, rfl⟩

/-- What the reading of the first argument tells of its cells. -/
theorem strs_of {H : Type} {enc : TypeId × Value → H} {W : World} {spare : Nat → Bool} {held : Bool} {fuel : Nat} {a : Option Addr} {len cap : Nat} {d : DataW H} {p : List MemPlace}
    (h : DataW.trod enc Yba.prog W 0 spare held fuel 22 [.slice a len cap] = some (d, p)) (hw : ∀ n ∈ d.weights Yba.prog 22, n ≤ reachBytes) : ∃ S, InStrs W a len S := by
  rcases open_slice1 Yba.underlying22 cells9 h with ⟨hcs, _⟩ | ⟨a', len', cap', m, n, V, D, Pl, hcs, _, hl, hm, hmm, hx, hc⟩
  · simp at hcs
    obtain ⟨rfl, rfl, rfl⟩ := hcs
    exact ⟨fun _ => ByteArray.empty, fun _ => rfl, fun h => absurd h (Nat.lt_irrefl 0), fun i hi => absurd hi (Nat.not_lt_zero i)⟩
  · simp at hcs
    obtain ⟨rfl, rfl, rfl⟩ := hcs
    simp only [Prod.mk.injEq] at hx
    obtain ⟨rfl, _⟩ := hx
    have hlm : len ≤ m := by rw [hmm]; split <;> omega
    have each : ∀ i, i < len → ∃ s : ByteArray, W.cell? (a'.add i) = some (.string s) ∧ s.size ≤ 140737488351232 := by
      intro i hi
      obtain ⟨h1, h2⟩ := hc i (by omega)
      obtain ⟨s, e0, e1, _⟩ := DataW.trod_string Yba.underlying9 h2
      simp only [List.cons.injEq, and_true] at e0
      rw [e0] at h1
      refine ⟨s, h1, ?_⟩
      have hD : D i = .lit (.string s.data.toList) := (Prod.mk.inj e1).1
      have := hw s.data.toList.length (by
        simp only [DataW.weights, Yba.underlying22, List.mem_cons, List.mem_append]
        exact Or.inr (Or.inl (weightsAll_mem (List.mem_map.2 ⟨i, List.mem_range.2 hi, rfl⟩) _ (by rw [hD]; simp [DataW.weights]))))
      rw [Array.length_toList] at this
      exact this
    obtain ⟨S, hS⟩ := choose_lt (α := ByteArray) each
    refine ⟨S, fun h => (by cases h), fun h0 => ?_, fun i hi => (hS i hi).2⟩
    obtain ⟨b, off, rfl⟩ := addr_plain (hS 0 h0).1
    exact ⟨b, off, rfl, fun i hi => by have := (hS i hi).1; rw [show (⟨b, off, none⟩ : Addr).add i = ⟨b, off + i, none⟩ from add_plain _ _ _] at this; exact this⟩

/-- What the reading of the second argument tells of its cells. -/
theorem pairs_of {H : Type} {enc : TypeId × Value → H} {W : World} {spare : Nat → Bool} {held : Bool} {fuel : Nat} {a : Option Addr} {len cap : Nat} {d : DataW H} {p : List MemPlace}
    (h : DataW.trod enc Yba.prog W 0 spare held fuel 23 [.slice a len cap] = some (d, p)) (hw : ∀ n ∈ d.weights Yba.prog 23, n ≤ reachBytes) : ∃ L R, InPairs W a len L R := by
  rcases open_slice_pairs Yba.underlying23 Yba.underlying41 cells41 rfl rfl cells9 cells9 h with ⟨hcs, _⟩ | ⟨a', len', cap', m, n, V0, V1, D0, D1, P0, P1, hcs, _, hl, hm, hmm, hx, hc⟩
  · simp at hcs
    obtain ⟨rfl, rfl, rfl⟩ := hcs
    exact ⟨fun _ => ByteArray.empty, fun _ => ByteArray.empty, fun _ => rfl, fun h => absurd h (Nat.lt_irrefl 0), fun i hi => absurd hi (Nat.not_lt_zero i), fun i hi => absurd hi (Nat.not_lt_zero i)⟩
  · simp at hcs
    obtain ⟨rfl, rfl, rfl⟩ := hcs
    simp only [Prod.mk.injEq] at hx
    obtain ⟨rfl, _⟩ := hx
    have hlm : len ≤ m := by rw [hmm]; split <;> omega
    have each : ∀ i, i < len → ∃ q : ByteArray × ByteArray, W.cell? (a'.add (i * 2)) = some (.string q.1) ∧ W.cell? (a'.add (i * 2 + 1)) = some (.string q.2) ∧ q.1.size ≤ 140737488351232 ∧ q.2.size ≤ 140737488351232 := by
      intro i hi
      obtain ⟨c0, c1, t0, t1⟩ := hc i (by omega)
      obtain ⟨s, e0, e1, _⟩ := DataW.trod_string Yba.underlying9 t0
      obtain ⟨r, f0, f1, _⟩ := DataW.trod_string Yba.underlying9 t1
      simp only [List.cons.injEq, and_true] at e0 f0
      rw [e0] at c0
      rw [f0] at c1
      have hD0 : D0 i = .lit (.string s.data.toList) := (Prod.mk.inj e1).1
      have hD1 : D1 i = .lit (.string r.data.toList) := (Prod.mk.inj f1).1
      have mem : ∀ n ∈ DataW.weights Yba.prog 41 (.agg [D0 i, D1 i]), n ≤ reachBytes := fun n hn => hw n (by
        simp only [DataW.weights, Yba.underlying23, List.mem_cons, List.mem_append]
        exact Or.inr (Or.inl (weightsAll_mem (List.mem_map.2 ⟨i, List.mem_range.2 hi, rfl⟩) _ hn)))
      have w0 := mem s.data.toList.length (by rw [hD0, hD1]; simp [DataW.weights, DataW.weightsEach, Yba.underlying41])
      have w1 := mem r.data.toList.length (by rw [hD0, hD1]; simp [DataW.weights, DataW.weightsEach, Yba.underlying41])
      exact ⟨(s, r), c0, c1, by rw [Array.length_toList] at w0; exact w0, by rw [Array.length_toList] at w1; exact w1⟩
    obtain ⟨q, hq⟩ := choose_lt (α := ByteArray × ByteArray) each
    refine ⟨fun i => (q i).1, fun i => (q i).2, fun h => (by cases h), fun h0 => ?_, fun i hi => (hq i hi).2.2.1, fun i hi => (hq i hi).2.2.2⟩
    obtain ⟨b, off, rfl⟩ := addr_plain (by simpa using (hq 0 h0).1)
    have pl : ∀ j, (⟨b, off, none⟩ : Addr).add j = ⟨b, off + j, none⟩ := fun j => add_plain _ _ _
    refine ⟨b, off, rfl, fun i hi => ?_, fun i hi => ?_⟩
    · have := (hq i hi).1; rw [pl] at this; exact this
    · have := (hq i hi).2.1; rw [pl] at this; simpa [Nat.add_assoc] using this

/-- Too long a slice: the law answers at once. -/
theorem long_walk (a0 a1 : Option Addr) (n0 c0 n1 c1 : Nat) (w : World) (h : ¬ (n0 ≤ 1024 ∧ n1 ≤ 1024)) :
    Calls Yba.prog 3 #[.slice a0 n0 c0, .slice a1 n1 c1] w fun e w' => e = .returned (.bool true) ∧ Below w.heap.size w w' := by
  by_cases h0 : n0 ≤ 1024
  · have hm0 : ¬ (1024 : Int) < (n0 : Int) := by omega
    have hm1 : (1024 : Int) < (n1 : Int) := by omega
    clear h
    go_enter Yba.func3, Yba.ntmps3
    go_wp2
    go_ret
    exact ⟨rfl, Below.refl _ _⟩
  · have hm0 : (1024 : Int) < (n0 : Int) := by omega
    clear h
    go_enter Yba.func3, Yba.ntmps3
    go_wp2
    go_ret
    exact ⟨rfl, Below.refl _ _⟩

theorem walk (a0 a1 : Option Addr) (n0 c0 n1 c1 : Nat) (S L R : Nat → ByteArray) (w : World) (i0 : InStrs w a0 n0 S) (i1 : InPairs w a1 n1 L R) :
    Calls Yba.prog 3 #[.slice a0 n0 c0, .slice a1 n1 c1] w fun e w' => e = .returned (.bool true) ∧ Below w.heap.size w w' := by
  by_cases h : n0 ≤ 1024 ∧ n1 ≤ 1024
  · exact law_walk a0 a1 n0 c0 n1 c1 S L R w h.1 h.2 i0 i1
  · exact long_walk a0 a1 n0 c0 n1 c1 w h

set_option maxRecDepth 100000 in
theorem lifted (os : Os) (started : os.Started) (H : Type) (enc : TypeId × Value → H) :
    ReturnsInHanded {} Yba.checked os 3 .any (Rows.lawS1194AShapeSpec.pre6 enc Yba.prog Yba.f3 Rows.lawS1194AShapeRow.domain false) (Rows.lawS1194AShapeSpec.post enc Yba.prog Yba.f3 false true false false) := by
  refine returnsInHanded_of_change_sized (C := Yba.checked) own started (by kernel_rfl) Yba.func3
    (ChangeSpec.witness6 (enc := enc) (C := Yba.checked) false ⟨#[], #[.slice none 0 0, .slice none 0 0], []⟩ 8 (by kernel_rfl) (by kernel_rfl) (by kernel_rfl) (by kernel_rfl)) ?_
  intro W base args ds gs before hval0 hW hcnd hsz0 _
  have hsz : (DataW.weightsEach Yba.prog (Yba.f3.params.toList ++ Rows.lawS1194AShapeSpec.plain.varTypes Yba.prog) (ds ++ gs)).all (· ≤ reachBytes) = true := hsz0
  have hval : ∀ (j : Nat) t v, Yba.f3.params[j]? = some t → args[j]? = some v → Value.okWide Yba.prog W .any base t v := hval0
  have hW' := hW
  obtain ⟨p, q, hA0, hV, rfl, hfz, hnd⟩ := hW
  have hA : DataW.TrodAll enc Yba.prog W 0 (fun _ => true) true Yba.f3.params.toList args.toList ds p := hA0
  rw [Yba.params3] at hA hval hsz
  obtain ⟨v0, vs0, d0, ds0, p0, q0, hargs, rfl, rfl, h0, r0⟩ := trodAll_cons hA
  obtain ⟨v1, vs1, d1, ds1, p1, q1, rfl, rfl, rfl, h1, r1⟩ := trodAll_cons r0
  obtain ⟨rfl, rfl, rfl⟩ := trodAll_nil r1
  obtain rfl : args = #[v0, v1] := by cases args; simp_all
  obtain ⟨rfl, rfl⟩ := trodVars_none hV
  obtain ⟨a0, len0, cap0, rfl⟩ := okWide_slice Yba.underlying22 (hval 0 22 v0 rfl rfl)
  obtain ⟨a1, len1, cap1, rfl⟩ := okWide_slice Yba.underlying23 (hval 1 23 v1 rfl rfl)
  have k0 := h0
  have k1 := h1
  have lt0 : ∀ x ∈ p0, x.block < W.heap.size := by obtain ⟨m, hm⟩ := k0; exact DataW.trod_lt m _ _ _ hm
  have lt1 : ∀ x ∈ p1, x.block < W.heap.size := by obtain ⟨m, hm⟩ := k1; exact DataW.trod_lt m _ _ _ hm
  obtain ⟨S, w0⟩ : ∃ S, InStrs W a0 len0 S := by
    obtain ⟨fuel, hf⟩ := h0
    exact strs_of (by simpa [Value.cells] using hf) (fun n hn => by simpa using List.all_eq_true.1 hsz _ (DataW.weights_mem_each (j := 0) (t := 22) rfl rfl n hn))
  obtain ⟨L, R, w1⟩ : ∃ L R, InPairs W a1 len1 L R := by
    obtain ⟨fuel, hf⟩ := h1
    exact pairs_of (by simpa [Value.cells] using hf) (fun n hn => by simpa using List.all_eq_true.1 hsz _ (DataW.weights_mem_each (j := 1) (t := 23) rfl rfl n hn))
  clear hA0 hval0
  refine (walk a0 a1 len0 cap0 len1 cap1 S L R W w0 w1).mono fun e W' ⟨he, bel⟩ => ?_
  subst he
  exact ⟨_, rfl, _, _, _, [], _, [], hW', trodAll_mk1 (shut_bool Yba.underlying4 _), (trodAll_cons_mk (Below.trod laidOut (by kernel_rfl) (of_decide_eq_true (by kernel_rfl)) k0 bel lt0) (trodAll_cons_mk (Below.trod laidOut (by kernel_rfl) (of_decide_eq_true (by kernel_rfl)) k1 bel lt1) trodAll_mk0)), rfl, bel.frame _, fun h => by cases h⟩

theorem over : Rows.lawS1194AShapeRow.holds Yba.pinned (OpenSpec.ofChange Rows.lawS1194AShapeSpec) :=
  OpenClaim.holds_of_wide 3 Yba.f3 rfl rfl rfl rfl rfl rfl rfl ⟨rfl, rfl, rfl, rfl, rfl⟩ rfl rfl rfl rfl rfl (by kernel_rfl) Yba.func3 (by kernel_rfl)
    (of_decide_eq_true (by kernel_rfl)) (by unfold Func.isWrapper; first | (rw [if_pos (by decide +kernel)]; kernel_rfl) | (rw [if_neg (by decide +kernel)]; exact ⟨rfl, rfl⟩))
    (fun os started H enc _ => lifted os started H enc)

/-- THE STATEMENT. -/
theorem proved : Rows.LawS1194AShapeSaid := over
end Go.Proofs.Ybulkxry.lawS1194AShape
