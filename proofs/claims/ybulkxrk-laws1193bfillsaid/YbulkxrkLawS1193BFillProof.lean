/-
  Seat b1193a: 'Rows.LawS1193BFillSaid', proved: the row's step over the walk.
-/
import Derived.Test.YbulkxrkFillLaw
import Derived.ProofKit
import Derived.OpenShut
import Derived.ShutString
import Derived.ChangeOld
import Derived.Below
import Derived.Carry
import Derived.Deep.Strs
namespace Go.Proofs.Ybulkxrk.lawS1193BFill
open Go.ChangeShapes Go.WideShapes Go.ChangeAt Go.RowKit Go.Deep
open Go.ChangeMaps (open_string shut_string)
set_option linter.unusedVariables false

theorem own : ownKnob Yba.prog.godebug = none := by kernel_rfl
theorem laidOut : laidOutB Yba.prog = true := by kernel_rfl
theorem cells37 : Yba.prog.cellsOf 37 = 3 := by kernel_rfl
theorem cells9 : Yba.prog.cellsOf 9 = 1 := by kernel_rfl
theorem cells3 : Yba.prog.cellsOf 3 = 1 := by kernel_rfl

/-- What the reading of the first argument tells of its cells. -/
theorem row_of {H : Type} {enc : TypeId × Value → H} {W : World} {spare : Nat → Bool} {held : Bool} {fuel : Nat} {a : Option Addr} {len cap : Nat} {x : DataW H × List MemPlace}
    (h : DataW.trod enc Yba.prog W 0 spare held fuel 22 [.slice a len cap] = some x) : ∃ S A R, InRow W a len S A R := by
  rcases open_slice Yba.underlying22 h with ⟨hcs, _⟩ | ⟨a', len', cap', m, n, D, Pl, hcs, _, hl, hm, hmm, _, hx⟩
  · simp at hcs
    obtain ⟨rfl, rfl, rfl⟩ := hcs
    exact ⟨fun _ => ByteArray.empty, fun _ => 0, fun _ => 0, fun h => absurd h (Nat.lt_irrefl 0)⟩
  · simp at hcs
    obtain ⟨rfl, rfl, rfl⟩ := hcs
    have hlm : len ≤ m := by rw [hmm]; split <;> omega
    rw [cells37] at hx
    have each : ∀ i, i < len → ∃ q : ByteArray × Int × Int, W.cell? (a'.add (i * 3)) = some (.string q.1) ∧ W.cell? (a'.add (i * 3 + 1)) = some (.int .i64 q.2.1) ∧ W.cell? (a'.add (i * 3 + 2)) = some (.int .i64 q.2.2) := by
      intro i hi
      obtain ⟨cs', h1, h2⟩ := hx i (by omega)
      obtain ⟨_, hlen, hcell⟩ := World.cells?_some h1
      obtain ⟨y0, y1, y2, k, _, _, g0, g1, g2⟩ := trod_struct3 Yba.underlying37 h2
      match cs', hlen with
      | [v0, v1, v2], _ =>
        simp only [cells9, cells3] at g0 g1 g2
        obtain ⟨s, e0, _, _⟩ := DataW.trod_string Yba.underlying9 g0
        obtain ⟨p, e1, _, _⟩ := DataW.trod_int Yba.underlying3 g1
        obtain ⟨r, e2, _, _⟩ := DataW.trod_int Yba.underlying3 g2
        simp at e0 e1 e2
        subst e0; subst e1; subst e2
        have c0 := hcell 0 (by omega)
        have c1 := hcell 1 (by omega)
        have c2 := hcell 2 (by omega)
        rw [add_add] at c0 c1 c2
        exact ⟨(s, p, r), by simpa using c0, by simpa using c1, by simpa using c2⟩
    obtain ⟨q, hq⟩ := choose_lt (α := ByteArray × Int × Int) each
    refine ⟨fun i => (q i).1, fun i => (q i).2.1, fun i => (q i).2.2, fun h0 => ?_⟩
    obtain ⟨b, off, spot⟩ := a'
    have hspot : spot = none := by
      have := World.cell?_spot (hq 0 h0).1
      simpa [Addr.add] using this
    subst hspot
    have pl : ∀ j, (⟨b, off, none⟩ : Addr).add j = ⟨b, off + j, none⟩ := fun j => add_plain _ _ _
    refine ⟨b, off, rfl, fun i hi => ?_, fun i hi => ?_, fun i hi => ?_⟩
    · have := (hq i hi).1; rw [pl] at this; exact this
    · have := (hq i hi).2.1; rw [pl] at this; simpa [Nat.add_assoc] using this
    · have := (hq i hi).2.2; rw [pl] at this; simpa [Nat.add_assoc] using this

/-- Too many stats: the law answers at once. -/
theorem long_walk (a : Option Addr) (len cap : Nat) (tree commit nm : ByteArray) (hc : Bool) (pa pr : Int) (w : World) (hmax : ¬ len ≤ 1024) :
    Calls Yba.prog 3 #[.slice a len cap, .string tree, .string commit, .bool hc, .string nm, .int .i64 pa, .int .i64 pr] w fun e w' => e = .returned (.bool true) ∧ Below w.heap.size w w' := by
  have hm1 : (1024 : Int) < (len : Int) := by omega
  go_enter Yba.func3, Yba.ntmps3
  go_wp2
  go_ret
  exact ⟨rfl, Below.refl _ _⟩

theorem walk (a : Option Addr) (len cap : Nat) (S : Nat → ByteArray) (A R : Nat → Int) (tree commit nm : ByteArray) (hc : Bool) (pa pr : Int) (w : World) (hin : InRow w a len S A R) :
    Calls Yba.prog 3 #[.slice a len cap, .string tree, .string commit, .bool hc, .string nm, .int .i64 pa, .int .i64 pr] w fun e w' => e = .returned (.bool true) ∧ Below w.heap.size w w' := by
  by_cases h : len ≤ 1024
  · exact law_walk a len cap S A R tree commit nm hc pa pr w h hin
  · exact long_walk a len cap tree commit nm hc pa pr w h

set_option maxRecDepth 100000 in
theorem lifted (os : Os) (started : os.Started) (H : Type) (enc : TypeId × Value → H) :
    ReturnsInHanded {} Yba.checked os 3 .any (Rows.lawS1193BFillSpec.pre6 enc Yba.prog Yba.f3 Rows.lawS1193BFillRow.domain false) (Rows.lawS1193BFillSpec.post enc Yba.prog Yba.f3 false true false false) := by
  refine returnsInHanded_of_change (C := Yba.checked) own started (by kernel_rfl) Yba.func3
    (ChangeSpec.witness6 (enc := enc) (C := Yba.checked) false ⟨#[], #[.slice none 0 0, .string ByteArray.empty, .string ByteArray.empty, .bool false, .string ByteArray.empty, .int .i64 0, .int .i64 0], []⟩ 8 (by kernel_rfl) (by kernel_rfl) (by kernel_rfl) (by kernel_rfl)) ?_
  intro W base args ds gs before hval0 hW hcnd _
  have hval : ∀ (j : Nat) t v, Yba.f3.params[j]? = some t → args[j]? = some v → Value.okWide Yba.prog W .any base t v := hval0
  have hW' := hW
  obtain ⟨p, q, hA0, hV, rfl, hfz, hnd⟩ := hW
  have hA : DataW.TrodAll enc Yba.prog W 0 (fun _ => true) true Yba.f3.params.toList args.toList ds p := hA0
  rw [Yba.params3] at hA hval
  obtain ⟨v0, vs0, d0, ds0, p0, q0, hargs, rfl, rfl, h0, r0⟩ := trodAll_cons hA
  obtain ⟨v1, vs1, d1, ds1, p1, q1, rfl, rfl, rfl, h1, r1⟩ := trodAll_cons r0
  obtain ⟨v2, vs2, d2, ds2, p2, q2, rfl, rfl, rfl, h2, r2⟩ := trodAll_cons r1
  obtain ⟨v3, vs3, d3, ds3, p3, q3, rfl, rfl, rfl, h3, r3⟩ := trodAll_cons r2
  obtain ⟨v4, vs4, d4, ds4, p4, q4, rfl, rfl, rfl, h4, r4⟩ := trodAll_cons r3
  obtain ⟨v5, vs5, d5, ds5, p5, q5, rfl, rfl, rfl, h5, r5⟩ := trodAll_cons r4
  obtain ⟨v6, vs6, d6, ds6, p6, q6, rfl, rfl, rfl, h6, r6⟩ := trodAll_cons r5
  obtain ⟨rfl, rfl, rfl⟩ := trodAll_nil r6
  obtain rfl : args = #[v0, v1, v2, v3, v4, v5, v6] := by cases args; simp_all
  obtain ⟨rfl, rfl⟩ := trodVars_none hV
  obtain ⟨a0, len0, cap0, rfl⟩ := okWide_slice Yba.underlying22 (hval 0 22 v0 rfl rfl)
  have k0 := h0
  have lt0 : ∀ x ∈ p0, x.block < W.heap.size := by obtain ⟨m, hm⟩ := k0; exact DataW.trod_lt m _ _ _ hm
  obtain ⟨S, A, R, w0⟩ : ∃ S A R, InRow W a0 len0 S A R := by
    obtain ⟨fuel, hf⟩ := h0
    exact row_of (by simpa [Value.cells] using hf)
  obtain ⟨a1, rfl, rfl, rfl, w1⟩ := open_string Yba.underlying9 (hval 1 9 v1 rfl rfl) h1
  obtain ⟨a2, rfl, rfl, rfl, w2⟩ := open_string Yba.underlying9 (hval 2 9 v2 rfl rfl) h2
  obtain ⟨a3, rfl, rfl, rfl⟩ := open_bool Yba.underlying4 (hval 3 4 v3 rfl rfl) h3
  obtain ⟨a4, rfl, rfl, rfl, w4⟩ := open_string Yba.underlying9 (hval 4 9 v4 rfl rfl) h4
  obtain ⟨a5, rfl, rfl, rfl, w5⟩ := open_int Yba.underlying3 (hval 5 3 v5 rfl rfl) h5
  obtain ⟨a6, rfl, rfl, rfl, w6⟩ := open_int Yba.underlying3 (hval 6 3 v6 rfl rfl) h6
  clear hA0 hval0
  refine (walk a0 len0 cap0 S A R a1 a2 a4 a3 a5 a6 W w0).mono fun e W' ⟨he, bel⟩ => ?_
  subst he
  exact ⟨_, rfl, _, _, _, [], _, [], hW', trodAll_mk1 (shut_bool Yba.underlying4 _), (trodAll_cons_mk (Below.trod laidOut (by kernel_rfl) (of_decide_eq_true (by kernel_rfl)) k0 bel lt0) (trodAll_cons_mk (shut_string Yba.underlying9 w1) (trodAll_cons_mk (shut_string Yba.underlying9 w2) (trodAll_cons_mk (shut_bool Yba.underlying4 _) (trodAll_cons_mk (shut_string Yba.underlying9 w4) (trodAll_cons_mk (shut_int Yba.underlying3 w5) (trodAll_cons_mk (shut_int Yba.underlying3 w6) trodAll_mk0))))))), rfl, bel.frame _, fun h => by cases h⟩

theorem over : Rows.lawS1193BFillRow.holds Yba.pinned (OpenSpec.ofChange Rows.lawS1193BFillSpec) :=
  OpenClaim.holds_of_wide 3 Yba.f3 rfl rfl rfl rfl rfl rfl rfl ⟨rfl, rfl, rfl, rfl, rfl⟩ rfl rfl rfl rfl rfl (by kernel_rfl) Yba.func3 (by kernel_rfl)
    (of_decide_eq_true (by kernel_rfl)) (by unfold Func.isWrapper; first | (rw [if_pos (by decide +kernel)]; kernel_rfl) | (rw [if_neg (by decide +kernel)]; exact ⟨rfl, rfl⟩))
    (fun os started H enc _ => lifted os started H enc)

/-- THE STATEMENT. -/
theorem proved : Rows.LawS1193BFillSaid := over
end Go.Proofs.Ybulkxrk.lawS1193BFill
