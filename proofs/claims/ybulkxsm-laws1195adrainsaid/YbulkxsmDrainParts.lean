/-
  Seat b1195a: the plain side of LawS1195ADrain: the ranges of a batch as cells; what is wanted; what is still to come. And the walk of (*cursor).head (function 9).
-/
import Derived.Test.YbulkxsmAdvance
import Derived.Deep.AppendLies
namespace Go.Proofs.Ybulkxsm
open Go.RowKit

def pairL (P Q : Nat → Int) (i : Nat) : List Value := [.int .u64 (P i), .int .u64 (Q i)]
/-- The cells of n ranges. -/
def bc (P Q : Nat → Int) (n : Nat) : List Value := (List.range n).flatMap (pairL P Q)
/-- The batches k, k + 1, .., J - 1, laid one behind the other. -/
def tl (f : Nat → List Value) (k J : Nat) : List Value := (List.range' k (J - k)).flatMap f
/-- How many ranges the first j further batches hold. -/
def tot (L : Nat → Nat) : Nat → Nat
  | 0 => 0
  | j + 1 => tot L j + L j

theorem bc_succ (P Q : Nat → Int) (n : Nat) : bc P Q (n + 1) = bc P Q n ++ pairL P Q n := by simp [bc, List.range_succ]
theorem bc_length (P Q : Nat → Int) (n : Nat) : (bc P Q n).length = n * 2 := by
  induction n with
  | zero => rfl
  | succ n ih => rw [bc_succ, List.length_append, ih]; simp [pairL]; omega
theorem bc_cons (P Q : Nat → Int) (n : Nat) : bc P Q (n + 1) = pairL P Q 0 ++ bc (fun i => P (i + 1)) (fun i => Q (i + 1)) n := by
  induction n with
  | zero => rfl
  | succ n ih => rw [bc_succ, ih, bc_succ, List.append_assoc]; rfl
theorem bc_zero (P Q : Nat → Int) : bc P Q 0 = [] := rfl
theorem bc_get (P Q : Nat → Int) {n i : Nat} (hi : i < n) : (bc P Q n)[i * 2]? = some (.int .u64 (P i)) ∧ (bc P Q n)[i * 2 + 1]? = some (.int .u64 (Q i)) := by
  induction n with
  | zero => omega
  | succ n ih =>
    rw [bc_succ]
    by_cases h : i < n
    · rw [List.getElem?_append_left (by rw [bc_length]; omega), List.getElem?_append_left (by rw [bc_length]; omega)]
      exact ih h
    · have : i = n := by omega
      subst this
      rw [List.getElem?_append_right (by rw [bc_length]; omega), List.getElem?_append_right (by rw [bc_length]; omega), bc_length]
      simp [pairL]

theorem tl_self (f : Nat → List Value) (J : Nat) : tl f J J = [] := by simp [tl]
theorem tl_step (f : Nat → List Value) {k J : Nat} (h : k < J) : tl f k J = f k ++ tl f (k + 1) J := by
  unfold tl
  rw [show J - k = (J - (k + 1)) + 1 from by omega, List.range'_succ, List.flatMap_cons]
theorem tl_snoc (f : Nat → List Value) (j : Nat) : tl f 0 (j + 1) = tl f 0 j ++ f j := by
  unfold tl
  simp [List.range'_concat]

theorem tot_le (L : Nat → Nat) (h : ∀ i, L i ≤ 1024) (j : Nat) : tot L j ≤ 1024 * j := by
  induction j with
  | zero => simp [tot]
  | succ j ih => have := h j; simp only [tot]; omega

/-- Every cell is a uint64. -/
def All64 (xs : List Value) : Prop := ∀ v ∈ xs, ∃ z, v = .int .u64 z
theorem all64_bc (P Q : Nat → Int) (n : Nat) : All64 (bc P Q n) := by
  intro v hv
  obtain ⟨i, _, hi⟩ := List.mem_flatMap.1 hv
  simp only [pairL, List.mem_cons, List.not_mem_nil, or_false] at hi
  rcases hi with h | h
  · exact ⟨_, h⟩
  · exact ⟨_, h⟩
theorem all64_tl {f : Nat → List Value} (h : ∀ i, All64 (f i)) (k J : Nat) : All64 (tl f k J) := by
  intro v hv
  obtain ⟨i, _, hi⟩ := List.mem_flatMap.1 hv
  exact h i v hi
theorem All64.append {xs ys : List Value} (h1 : All64 xs) (h2 : All64 ys) : All64 (xs ++ ys) := fun v hv => by
  rcases List.mem_append.1 hv with h | h
  · exact h1 v h
  · exact h2 v h
theorem All64.one {xs : List Value} (h : All64 xs) : ∀ u ∈ xs, u.oneCell' = true := fun u hu => by
  obtain ⟨z, rfl⟩ := h u hu
  rfl

/-- A batch's cells, as an append reads them. -/
theorem Batch.news {w : World} {b off n : Nat} {P Q : Nat → Int} (h : Batch w (some ⟨b, off, none⟩) n P Q) : ∀ q u, (bc P Q n)[q]? = some u → w.cell? ((⟨b, off, none⟩ : Addr).add q) = some u := by
  intro q u hu
  have hq : q < n * 2 := by rw [← bc_length P Q]; exact (List.getElem?_eq_some_iff.1 hu).1
  obtain ⟨b', off', e, h1, h2⟩ := h (by omega)
  simp only [Option.some.injEq, Addr.mk.injEq, and_true] at e
  obtain ⟨rfl, rfl⟩ := e
  have hadd : (⟨b, off, none⟩ : Addr).add q = ⟨b, off + q, none⟩ := by unfold Addr.add; split <;> simp_all
  rw [hadd]
  obtain ⟨i, hi⟩ : ∃ i, q = i * 2 ∨ q = i * 2 + 1 := ⟨q / 2, by omega⟩
  rcases hi with rfl | rfl
  · rw [(bc_get P Q (show i < n from by omega)).1] at hu
    rw [h1 i (by omega)]
    exact hu
  · rw [(bc_get P Q (show i < n from by omega)).2] at hu
    rw [← Nat.add_assoc, h2 i (by omega)]
    exact hu

/-- A row that the call itself has made, read as a batch. -/
theorem batch_of_owned {w : World} {base n : Nat} {a : Option Addr} {c : Nat} {xs : List Value} (h : w.ownsRow base 35 2 (.slice a n c) n xs) (hx : All64 xs) :
    Batch w a n (fun i => intOf (xs.getD (i * 2) undef)) (fun i => intOf (xs.getD (i * 2 + 1) undef)) := by
  intro h0
  have hl := h.1
  rcases h.2 with ⟨_, hn⟩ | ⟨g, cap, cur, hv, _⟩
  · omega
  · simp only [Value.slice.injEq, true_and] at hv
    obtain ⟨rfl, rfl⟩ := hv
    have key : ∀ q, q < n * 2 → w.cell? ⟨g, 0 + q, none⟩ = some (.int .u64 (intOf (xs.getD q undef))) := by
      intro q hq
      rw [Nat.zero_add, h.cellAt q hq]
      have hq' : q < xs.length := by omega
      obtain ⟨z, hz⟩ := hx xs[q] (List.getElem_mem hq')
      rw [List.getD, List.getElem?_eq_getElem hq', hz]
      rfl
    exact ⟨g, 0, rfl, fun i hi => key (i * 2) (by omega), fun i hi => by have := key (i * 2 + 1) (by omega); rwa [← Nat.add_assoc] at this⟩

theorem own_shape {w : World} {base : Nat} {e : TypeId} {size : Nat} {v : Value} {n : Nat} {xs : List Value} (h : w.ownsRow base e size v n xs) :
    ∃ a c, v = .slice a n c ∧ (0 < n → ∃ g, a = some ⟨g, 0, none⟩) := by
  rcases h.2 with ⟨rfl, rfl⟩ | ⟨g, cap, cur, rfl, -⟩
  · exact ⟨none, 0, rfl, fun h => absurd h (Nat.lt_irrefl 0)⟩
  · exact ⟨_, _, rfl, fun _ => ⟨g, rfl⟩⟩

theorem owned_below {w w' : World} {base B : Nat} {e : TypeId} {size : Nat} {v : Value} {n : Nat} {xs : List Value} (h : w.ownsRow base e size v n xs) (hb : Below B w w') (hB : w.heap.size ≤ B) : w'.ownsRow base e size v n xs := by
  obtain ⟨h1, h2⟩ := h
  refine ⟨h1, ?_⟩
  rcases h2 with h2 | ⟨g, cap, cur, hv, hg, hh, r⟩
  · exact .inl h2
  · exact .inr ⟨g, cap, cur, hv, hg, by rw [hb.block g (Nat.lt_of_lt_of_le (Array.getElem?_eq_some_iff.1 hh).1 hB)]; exact hh, r⟩

/-- What the call owns above the cursor's blocks stays owned behind an advance. -/
theorem owned_moved {w w' : World} {base cb kc : Nat} {v0 : Value} {k : Int} (hm : Moved cb kc v0 k w w') {e : TypeId} {size : Nat} {v : Value} {n : Nat} {xs : List Value} (h : w.ownsRow base e size v n xs) (h1 : cb < base) (h2 : kc < base) : w'.ownsRow base e size v n xs := by
  obtain ⟨k1, k2⟩ := h
  refine ⟨k1, ?_⟩
  rcases k2 with k2 | ⟨g, cap, cur, hv, hg, hh, r⟩
  · exact .inl k2
  · exact .inr ⟨g, cap, cur, hv, hg, by rw [hm.block g (by omega) (by omega)]; exact hh, r⟩

theorem info35 : (Yba.prog.info? 35).map (fun i => (i.zero, i.size, i.bytes)) = some (some (.agg #[.int .u64 0, .int .u64 0]), 2, 16) := by kernel_rfl

/-! ### head -/
theorem head_none (cb c : Nat) (a : Option Addr) (w : World) (h2 : w.cell? ⟨cb, 2, none⟩ = some (.slice a 0 c)) :
    Calls Yba.prog 9 #[.pointer (some ⟨cb, 0, none⟩)] w fun e w' => e = .returned (.tuple #[.int .u64 0, .int .u64 0, .bool false]) ∧ w' = w := by
  go_enter Yba.func9, Yba.ntmps9
  go_wp2
  go_ret3
  exact ⟨rfl, rfl⟩

theorem head_some (cb b off n c : Nat) (p q : Int) (w : World) (hn : 0 < n) (h2 : w.cell? ⟨cb, 2, none⟩ = some (.slice (some ⟨b, off, none⟩) n c)) (h0 : w.cell? ⟨b, off, none⟩ = some (.int .u64 p)) (h1 : w.cell? ⟨b, off + 1, none⟩ = some (.int .u64 q)) :
    Calls Yba.prog 9 #[.pointer (some ⟨cb, 0, none⟩)] w fun e w' => e = .returned (.tuple #[.int .u64 p, .int .u64 q, .bool true]) ∧ ∃ m, w' = w.drewN m := by
  have e0 : ((n : Int) == 0) = false := by simp; omega
  have e1 : (0 : Int) < (n : Int) := by omega
  go_enter Yba.func9, Yba.ntmps9
  go_wp2
  go_quiet (fail)
  go_wp2
  go_ret3
  exact ⟨rfl, _, rfl⟩
end Go.Proofs.Ybulkxsm
