/-
  Seat b1200a: 'Rows.LawS1200CExtraSaid', proved. The frame is the guide's shell for this function, its end told by 'Below'; the walk is filled in.
-/
import Derived.Test.YbulkxveRows
import Derived.WalkKit
import Derived.ProofKit
import Derived.OpenShut
import Derived.ShutString
import Derived.ChangeOld
import Derived.Below
import Derived.Carry
import Derived.Lib.Builder
import Derived.WalkSpells
import Derived.WalkLawsBesides
import Derived.BigRegion
import Derived.BigQuiet
import Derived.RegionTactic
import Derived.Deep.QuietTactic
namespace Go.Proofs.Ybulkxve.lawS1200CExtra
open Go.ChangeShapes Go.WideShapes Go.ChangeAt Go.RowKit
open Go.ChangeMaps (open_string shut_string)
set_option linter.unusedVariables false      -- a walk need not use every 'w<i>' (that an integer argument fits its kind)

theorem info58 : ∃ i, Yba.prog.info? 58 = some i := by
  have h : (Yba.prog.info? 58).isSome = true := by kernel_rfl
  exact Option.isSome_iff_exists.1 h
theorem info56 : ∃ i, Yba.prog.info? 56 = some i := by
  have h : (Yba.prog.info? 56).isSome = true := by kernel_rfl
  exact Option.isSome_iff_exists.1 h

/-! ### The callees that only read -/
theorem ask_nil (T : Nat) (w : World) (h : w.cell? ⟨T, 11, none⟩ = some (.pointer none)) :
    Calls Yba.prog 5 #[.pointer (some ⟨T, 0, none⟩)] w fun e w' => e = .returned (.pointer none) ∧ w' = w := by
  go_enter Yba.func5, Yba.ntmps5
  go_wp2
  go_ret
  exact ⟨rfl, rfl⟩
theorem ask_some (T X : Nat) (p : Option Addr) (w : World) (h : w.cell? ⟨T, 11, none⟩ = some (.pointer (some ⟨X, 0, none⟩))) (h' : w.cell? ⟨X, 5, none⟩ = some (.pointer p)) :
    Calls Yba.prog 5 #[.pointer (some ⟨T, 0, none⟩)] w fun e w' => e = .returned (.pointer p) ∧ w' = w := by
  go_enter Yba.func5, Yba.ntmps5
  go_wp2
  go_ret
  exact ⟨rfl, rfl⟩
theorem mark_any (T X A : Nat) (w : World) (h : w.cell? ⟨T, 11, none⟩ = some (.pointer (some ⟨X, 0, none⟩))) (h' : w.cell? ⟨X, 5, none⟩ = some (.pointer (some ⟨A, 0, none⟩))) :
    Calls Yba.prog 7 #[.pointer (some ⟨T, 0, none⟩)] w fun e w' => e = .returned (.pointer (some ⟨A, 12, none⟩)) ∧ w' = w := by
  go_enter Yba.func7, Yba.ntmps7
  go_wp2_with (go_at_call 5; refine (ask_some T X _ _ h h').mono ?_; rintro e w' ⟨he, hw⟩; rw [he, hw]; clear he hw)
  go_ret
  exact ⟨rfl, rfl⟩

/-- What 'extra' leaves, of a transaction at block T that had no txnMore: the new one lies at block X. -/
structure Ex (T X : Nat) (w w' : World) : Prop where
  below : ∀ B, B ≤ T → B ≤ w.heap.size → Below B w w'
  size : X < w'.heap.size
  more : w'.cell? ⟨T, 11, none⟩ = some (.pointer (some ⟨X, 0, none⟩))
  ask : w'.cell? ⟨X, 5, none⟩ = some (.pointer none)
  fz : w'.frozen? ⟨X, 5, none⟩ = false

theorem far {w : World} {b i : Nat} {p : Addr} (h : b ≠ p.block) (u : Value) : (w.setCell ⟨b, i, none⟩ u).cell? p = w.cell? p :=
  World.cell?_setCell_other _ _ _ _ (fun e => h (by rw [← e]))

theorem size_set (w : World) (a : Addr) (u : Value) : (w.setCell a u).heap.size = w.heap.size := by simp [World.setCell]

theorem ex_new {T : Nat} {w y : World} {cs : Array Value} (hT : T < w.heap.size) (hs : y.heap.size = w.heap.size) (hb : ∀ B, B ≤ T → Below B w y) (h11 : y.cell? ⟨T, 11, none⟩ = some (.pointer (some ⟨w.heap.size, 0, none⟩))) (h5 : cs[5]? = some (.pointer none)) :
    Ex T w.heap.size w (y.alloc (.cells cs 48)) := by
  refine ⟨fun B h1 h2 => (hb B h1).alloc (by omega) _, by simp [hs], ?_, ?_, ?_⟩
  · rw [World.cell?_alloc_lt _ _ _ (by rw [hs]; exact hT)]; exact h11
  · rw [World.cell?_alloc_at _ _ _ _ hs.symm]; exact h5
  · exact World.frozen?_alloc_at _ _ _ _ hs.symm

theorem Ex.alloc {T X : Nat} {w y : World} (h : Ex T X w y) (hw : w.heap.size ≤ y.heap.size) (hT : T < y.heap.size) (o : Obj) : Ex T X w (y.alloc o) := by
  have hs := h.size
  refine ⟨fun B h1 h2 => (h.below B h1 h2).alloc (by omega) _, by simp; omega, ?_, ?_, ?_⟩
  · rw [World.cell?_alloc_lt _ _ _ (by exact hT)]; exact h.more
  · rw [World.cell?_alloc_lt _ _ _ (by exact hs)]; exact h.ask
  · rw [World.frozen?_alloc_past _ _ _ hs]; exact h.fz
theorem Ex.drew {T X : Nat} {w y : World} (h : Ex T X w y) : Ex T X w y.drew := ⟨fun B h1 h2 => (h.below B h1 h2).drew, h.size, h.more, h.ask, h.fz⟩

theorem extra_bare (T : Nat) (w : World) (hT : T < w.heap.size) (h : w.cell? ⟨T, 11, none⟩ = some (.pointer none)) (f : w.frozen? ⟨T, 11, none⟩ = false) (h9 : w.cell? ⟨T, 9, none⟩ = some (.pointer none)) :
    Calls Yba.prog 6 #[.pointer (some ⟨T, 0, none⟩)] w fun e w' => e = .returned (.pointer (some ⟨w.heap.size, 0, none⟩)) ∧ Ex T w.heap.size w w' := by
  go_enter Yba.func6, Yba.ntmps6
  go_wp2
  go_ret
  exact ⟨rfl, ex_new hT (size_set _ _ _) (fun B hB => (Below.refl _ _).setCell (by exact hB) _) (World.cell?_setCell_same' _ _ _ (by simp [h])) rfl⟩

theorem extra_one (T R : Nat) (w : World) (hT : T < w.heap.size) (h : w.cell? ⟨T, 11, none⟩ = some (.pointer none)) (f : w.frozen? ⟨T, 11, none⟩ = false) (h9 : w.cell? ⟨T, 9, none⟩ = some (.pointer (some ⟨R, 0, none⟩))) (f9 : w.frozen? ⟨T, 9, none⟩ = false) :
    Calls Yba.prog 6 #[.pointer (some ⟨T, 0, none⟩)] w fun e w' => e = .returned (.pointer (some ⟨w.heap.size, 0, none⟩)) ∧ Ex T w.heap.size w w' := by
  go_enter Yba.func6, Yba.ntmps6
  go_wp2
  go_region
  go_wp2
  go_ret
  refine ⟨rfl, ((ex_new hT (by simp) (fun B hB => ((Below.refl _ _).setCell (by exact hB) _).setCell (by exact hB) _) (World.cell?_setCell_same' _ _ _ ?_) rfl).alloc (by simp) (by simp; omega) _).drew⟩
  rw [World.cell?_setCell_other _ _ _ _ (by simp), h]
  rfl

theorem own : ownKnob Yba.prog.godebug = none := by kernel_rfl

/-! ### THE WALK -/
theorem walk (a0 : Bool) (a1 : ByteArray) (a2 : Int) (w1 : a1.size ≤ maxLen) (w2 : (Lit.int .i64 a2).wf = true) (w : World) :
    Calls Yba.prog 4 #[.bool a0, .string a1, .int .i64 a2] w fun e w' => e = .returned (.bool true) ∧ Below w.heap.size w w' := by
  have hp : ∀ (w : World) (a : Addr), (binOp .neq 43 (.pointer (some a)) (.pointer (some a))).run Yba.prog w = .ok (.bool false) w := fun w a => by
    obtain ⟨i, hi⟩ := info58
    exact Lib.run_neq_ptr_same w a Yba.underlying43 hi
  have hq : ∀ (w : World) (a : Addr), (binOp .neq 65 (.pointer (some a)) (.pointer (some a))).run Yba.prog w = .ok (.bool false) w := fun w a => by
    obtain ⟨i, hi⟩ := info56
    exact Lib.run_neq_ptr_same w a Yba.underlying65 hi
  cases a0
  · go_enter Yba.func4, Yba.ntmps4
    go_wp2_with fail
    refine (ask_nil _ _ (by simp [go_sem])).mono ?_
    rintro e w' ⟨he, hw⟩
    rw [he, hw]
    clear he hw
    go_wp2_with fail
    refine (extra_bare w.heap.size _ (by simp) (by simp [go_sem]) (by simp [go_sem]) (by simp [go_sem])).mono ?_
    rintro e w1 ⟨he, hx⟩
    rw [he]
    clear he
    have m4 : Below w.heap.size w w1 := ((Below.refl _ _).alloc (Nat.le_refl _) _).trans (hx.below _ (Nat.le_refl _) (by simp))
    have m0 : w1.cell? ⟨w.heap.size, 11, none⟩ = some (.pointer (some ⟨w.heap.size + 1, 0, none⟩)) := by simpa using hx.more
    have m1 : w1.cell? ⟨w.heap.size + 1, 5, none⟩ = some (.pointer none) := by simpa using hx.ask
    have m2 : w1.frozen? ⟨w.heap.size + 1, 5, none⟩ = false := by simpa using hx.fz
    have m3 : w.heap.size + 1 < w1.heap.size := by simpa using hx.size
    have n0 : ∀ v o, ((w1.setCell ⟨w.heap.size + 1, 5, none⟩ v).alloc o).cell? ⟨w.heap.size, 11, none⟩ = some (.pointer (some ⟨w.heap.size + 1, 0, none⟩)) := fun v o => by
      rw [World.cell?_alloc_lt _ _ _ (by rw [size_set]; show w.heap.size < _; omega), far (by show _ ≠ w.heap.size; omega)]; exact m0
    have n1 : ∀ v o, ((w1.setCell ⟨w.heap.size + 1, 5, none⟩ v).alloc o).cell? ⟨w.heap.size + 1, 5, none⟩ = some v := fun v o => by
      rw [World.cell?_alloc_lt _ _ _ (by rw [size_set]; exact m3)]; exact World.cell?_setCell_same' _ _ _ (by simp [m1])
    have n2 : ∀ v o, ((w1.setCell ⟨w.heap.size + 1, 5, none⟩ v).alloc o).frozen? ⟨w.heap.size + 1, 5, none⟩ = false := fun v o => by
      rw [World.frozen?_alloc_past _ _ _ (by rw [size_set]; exact m3)]; simpa using m2
    clear hx
    go_wp2_with fail
    refine (ask_some _ _ _ _ m0 m1).mono ?_
    rintro e w' ⟨he, hw⟩
    rw [he, hw]
    clear he hw
    go_wp2_with fail
    refine (ask_some _ _ _ _ (n0 _ _) (n1 _ _)).mono ?_
    rintro e w' ⟨he, hw⟩
    rw [he, hw]
    clear he hw
    go_wp2_with fail
    go_quiet ((go_at_call 7; exact Calls.quiet_of_same (mark_any _ _ _ _ (by simpa using n0 _ _) (by simpa using n1 _ _))))
    go_wp2_with fail
    refine (ask_some _ _ none _ ((far (by show _ ≠ w.heap.size; omega) _).trans (by simpa using n0 _ _)) (World.cell?_setCell_same' _ _ _ (by simp [n1]))).mono ?_
    rintro e w' ⟨he, hw⟩
    rw [he, hw]
    clear he hw
    go_wp2
    go_ret
    exact ⟨rfl, (below_drewN ((m4.setCell (by simp <;> omega) _).alloc (by rw [size_set]; omega) _) nq).setCell (by simp <;> omega) _⟩
  · go_enter Yba.func4, Yba.ntmps4
    go_wp2_with fail
    refine (ask_nil _ _ (by simp [go_sem])).mono ?_
    rintro e w' ⟨he, hw⟩
    rw [he, hw]
    clear he hw
    go_wp2_with fail
    refine (extra_one w.heap.size (w.heap.size + 1) _ (by simp; omega) (by simp [go_sem]) (by simp [go_sem]) (by simp [go_sem]) (by simp [go_sem])).mono ?_
    rintro e w1 ⟨he, hx⟩
    rw [he]
    clear he
    have m4 : Below w.heap.size w w1 := (((Below.refl _ _).alloc (Nat.le_refl _) _).alloc (by simp) _).trans (hx.below _ (Nat.le_refl _) (by simp; omega))
    have m0 : w1.cell? ⟨w.heap.size, 11, none⟩ = some (.pointer (some ⟨w.heap.size + 1 + 1, 0, none⟩)) := by simpa using hx.more
    have m1 : w1.cell? ⟨w.heap.size + 1 + 1, 5, none⟩ = some (.pointer none) := by simpa using hx.ask
    have m2 : w1.frozen? ⟨w.heap.size + 1 + 1, 5, none⟩ = false := by simpa using hx.fz
    have m3 : w.heap.size + 1 + 1 < w1.heap.size := by simpa using hx.size
    have n0 : ∀ v o, ((w1.setCell ⟨w.heap.size + 1 + 1, 5, none⟩ v).alloc o).cell? ⟨w.heap.size, 11, none⟩ = some (.pointer (some ⟨w.heap.size + 1 + 1, 0, none⟩)) := fun v o => by
      rw [World.cell?_alloc_lt _ _ _ (by rw [size_set]; show w.heap.size < _; omega), far (by show _ ≠ w.heap.size; omega)]; exact m0
    have n1 : ∀ v o, ((w1.setCell ⟨w.heap.size + 1 + 1, 5, none⟩ v).alloc o).cell? ⟨w.heap.size + 1 + 1, 5, none⟩ = some v := fun v o => by
      rw [World.cell?_alloc_lt _ _ _ (by rw [size_set]; exact m3)]; exact World.cell?_setCell_same' _ _ _ (by simp [m1])
    have n2 : ∀ v o, ((w1.setCell ⟨w.heap.size + 1 + 1, 5, none⟩ v).alloc o).frozen? ⟨w.heap.size + 1 + 1, 5, none⟩ = false := fun v o => by
      rw [World.frozen?_alloc_past _ _ _ (by rw [size_set]; exact m3)]; simpa using m2
    clear hx
    go_wp2_with fail
    refine (ask_some _ _ _ _ m0 m1).mono ?_
    rintro e w' ⟨he, hw⟩
    rw [he, hw]
    clear he hw
    go_wp2_with fail
    refine (ask_some _ _ _ _ (n0 _ _) (n1 _ _)).mono ?_
    rintro e w' ⟨he, hw⟩
    rw [he, hw]
    clear he hw
    go_wp2_with fail
    go_quiet ((go_at_call 7; exact Calls.quiet_of_same (mark_any _ _ _ _ (by simpa using n0 _ _) (by simpa using n1 _ _))))
    go_wp2_with fail
    refine (ask_some _ _ none _ ((far (by show _ ≠ w.heap.size; omega) _).trans (by simpa using n0 _ _)) (World.cell?_setCell_same' _ _ _ (by simp [n1]))).mono ?_
    rintro e w' ⟨he, hw⟩
    rw [he, hw]
    clear he hw
    go_wp2
    go_ret
    exact ⟨rfl, (below_drewN ((m4.setCell (by simp <;> omega) _).alloc (by rw [size_set]; omega) _) nq).setCell (by simp <;> omega) _⟩

/-! ### THE ROW's STEP -/
set_option maxRecDepth 100000 in
theorem lifted (os : Os) (started : os.Started) (H : Type) (enc : TypeId × Value → H) :
    ReturnsInHanded {} Yba.checked os 4 .any (Rows.lawS1200CExtraSpec.pre6 enc Yba.prog Yba.f4 Rows.lawS1200CExtraRow.domain false) (Rows.lawS1200CExtraSpec.post enc Yba.prog Yba.f4 false true false false) := by
  refine returnsInHanded_of_change (C := Yba.checked) own started (by kernel_rfl) Yba.func4
    (ChangeSpec.witness6 (enc := enc) (C := Yba.checked) false ⟨#[], #[.bool false, .string ByteArray.empty, .int .i64 0], []⟩ 8 (by kernel_rfl) (by kernel_rfl) (by kernel_rfl) (by kernel_rfl)) ?_
  intro W base args ds gs before hval0 hW hcnd _
  have hval : ∀ (j : Nat) t v, Yba.f4.params[j]? = some t → args[j]? = some v → Value.okWide Yba.prog W .any base t v := hval0
  have hW' := hW
  obtain ⟨p, q, hA0, hV, rfl, hfz, hnd⟩ := hW
  have hA : DataW.TrodAll enc Yba.prog W 0 (fun _ => true) true Yba.f4.params.toList args.toList ds p := hA0
  rw [Yba.params4] at hA hval
  obtain ⟨v0, vs0, d0, ds0, p0, q0, hargs, rfl, rfl, h0, r0⟩ := trodAll_cons hA
  obtain ⟨v1, vs1, d1, ds1, p1, q1, rfl, rfl, rfl, h1, r1⟩ := trodAll_cons r0
  obtain ⟨v2, vs2, d2, ds2, p2, q2, rfl, rfl, rfl, h2, r2⟩ := trodAll_cons r1
  obtain ⟨rfl, rfl, rfl⟩ := trodAll_nil r2
  obtain rfl : args = #[v0, v1, v2] := by cases args; simp_all
  obtain ⟨rfl, rfl⟩ := trodVars_none hV
  obtain ⟨a0, rfl, rfl, rfl⟩ := open_bool Yba.underlying4 (hval 0 4 v0 rfl rfl) h0
  obtain ⟨a1, rfl, rfl, rfl, w1⟩ := open_string Yba.underlying9 (hval 1 9 v1 rfl rfl) h1
  obtain ⟨a2, rfl, rfl, rfl, w2⟩ := open_int Yba.underlying3 (hval 2 3 v2 rfl rfl) h2
  clear hA0 hval0
  simp only [List.append_nil] at hW'
  refine (walk a0 a1 a2 w1 w2 W).mono fun e W' ⟨he, bel⟩ => ?_
  subst he
  exact ⟨_, rfl, _, _, _, [], [], [], hW', trodAll_mk1 (shut_bool Yba.underlying4 _), (trodAll_cons_mk (shut_bool Yba.underlying4 _) (trodAll_cons_mk (shut_string Yba.underlying9 w1) (trodAll_cons_mk (shut_int Yba.underlying3 w2) trodAll_mk0))), rfl, bel.frame _, fun h => by cases h⟩

theorem over : Rows.lawS1200CExtraRow.holds Yba.pinned (OpenSpec.ofChange Rows.lawS1200CExtraSpec) :=
  OpenClaim.holds_of_wide 4 Yba.f4 rfl rfl rfl rfl rfl rfl rfl ⟨rfl, rfl, rfl, rfl, rfl⟩ rfl rfl rfl rfl rfl (by kernel_rfl) Yba.func4 (by kernel_rfl)
    (of_decide_eq_true (by kernel_rfl)) (by unfold Func.isWrapper; first | (rw [if_pos (by decide +kernel)]; kernel_rfl) | (rw [if_neg (by decide +kernel)]; exact ⟨rfl, rfl⟩))
    (fun os started H enc _ => lifted os started H enc)

/-- ████ THE STATEMENT ████ -/
theorem proved : Rows.LawS1200CExtraSaid :=
  over
end Go.Proofs.Ybulkxve.lawS1200CExtra
