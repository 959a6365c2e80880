/-
  Seat b1194a: a peer's 18 cells and a pair's 36 kept as one array each; what the model does with such a value, told once a kind of operation.
-/
import Derived.Test.YbulkxryRows
import Derived.WalkKit
import Derived.WalkSpells
import Derived.WalkLawsBesides
import Derived.Great.BuildSlice
import Derived.Deep.MidRow
import Derived.ChangeKeysEq
namespace Go.Proofs.Ybulkxry
open Go.RowKit

/-- A peer's cells: its name, its address, the sixteen bytes of its ID. -/
def pcL (s : ByteArray) (k : Int) : List Value :=
  [.string s, .string (s ++ ⟨#[64]⟩), .int .u8 (k % 256), .int .u8 0, .int .u8 0, .int .u8 0, .int .u8 0, .int .u8 0, .int .u8 0, .int .u8 0, .int .u8 0, .int .u8 0, .int .u8 0, .int .u8 0, .int .u8 0, .int .u8 0, .int .u8 0, .int .u8 ((s.size : Int) % 256)]
def pcA (s : ByteArray) (k : Int) : Array Value := (pcL s k).toArray
/-- A pair's cells. -/
def prL (s : ByteArray) (k : Int) (s' : ByteArray) (k' : Int) : List Value := pcL s k ++ pcL s' k'
def prA (s : ByteArray) (k : Int) (s' : ByteArray) (k' : Int) : Array Value := (prL s k s' k').toArray

theorem pcL_length (s : ByteArray) (k : Int) : (pcL s k).length = 18 := rfl
theorem pcA_size (s : ByteArray) (k : Int) : (pcA s k).size = 18 := rfl
theorem prL_length (s : ByteArray) (k : Int) (s' : ByteArray) (k' : Int) : (prL s k s' k').length = 36 := rfl
theorem prA_size (s : ByteArray) (k : Int) (s' : ByteArray) (k' : Int) : (prA s k s' k').size = 36 := rfl
theorem pcL_one (s : ByteArray) (k : Int) : ∀ u ∈ pcL s k, u.oneCell' = true := by
  intro u hu
  simp only [pcL, List.mem_cons, List.not_mem_nil, or_false] at hu
  rcases hu with h | h | h | h | h | h | h | h | h | h | h | h | h | h | h | h | h | h <;> (subst h; rfl)
theorem prL_one (s : ByteArray) (k : Int) (s' : ByteArray) (k' : Int) : ∀ u ∈ prL s k s' k', u.oneCell' = true := by
  intro u hu
  rcases List.mem_append.1 hu with h | h
  · exact pcL_one s k u h
  · exact pcL_one s' k' u h

theorem cells31 : Yba.prog.cellsOf 31 = 18 := by kernel_rfl
theorem cells37 : Yba.prog.cellsOf 37 = 36 := by kernel_rfl
def z31 : Value := .agg #[.string ⟨#[]⟩, .string ⟨#[]⟩, .int .u8 0, .int .u8 0, .int .u8 0, .int .u8 0, .int .u8 0, .int .u8 0, .int .u8 0, .int .u8 0, .int .u8 0, .int .u8 0, .int .u8 0, .int .u8 0, .int .u8 0, .int .u8 0, .int .u8 0, .int .u8 0]
def z37 : Value := .agg #[.string ⟨#[]⟩, .string ⟨#[]⟩, .int .u8 0, .int .u8 0, .int .u8 0, .int .u8 0, .int .u8 0, .int .u8 0, .int .u8 0, .int .u8 0, .int .u8 0, .int .u8 0, .int .u8 0, .int .u8 0, .int .u8 0, .int .u8 0, .int .u8 0, .int .u8 0, .string ⟨#[]⟩, .string ⟨#[]⟩, .int .u8 0, .int .u8 0, .int .u8 0, .int .u8 0, .int .u8 0, .int .u8 0, .int .u8 0, .int .u8 0, .int .u8 0, .int .u8 0, .int .u8 0, .int .u8 0, .int .u8 0, .int .u8 0, .int .u8 0, .int .u8 0]
theorem info31 : (Yba.prog.info? 31).map (fun i => (i.zero, i.size, i.bytes)) = some (some z31, 18, 48) := by kernel_rfl
theorem info37 : (Yba.prog.info? 37).map (fun i => (i.zero, i.size, i.bytes)) = some (some z37, 36, 96) := by kernel_rfl

/-! ### A value built, a slice of one built -/
def bs24 (parts : Array (Nat × Value)) : Sem Value := Instr.buildSlice 24 1 parts
def bs25 (parts : Array (Nat × Value)) : Sem Value := Instr.buildSlice 25 1 parts
def bd37 (parts : Array (Nat × Value)) : Sem Value := Instr.build 37 parts
theorem to_bs24 (parts : Array (Nat × Value)) : Instr.buildSlice 24 1 parts = bs24 parts := rfl
theorem to_bs25 (parts : Array (Nat × Value)) : Instr.buildSlice 25 1 parts = bs25 parts := rfl
theorem to_bd37 (parts : Array (Nat × Value)) : Instr.build 37 parts = bd37 parts := rfl

theorem fill_one {n : Nat} (hn : 0 < n) (cs z : Array Value) (hc : cs.size = n) (hz : z.size = n) :
    Instr.fill (fun i => some (i * n, n)) z [(0, .agg cs)] = some cs := by
  have := Great.fill_whole (s := n) hn [.agg cs] z (by simp [Value.cells, hc]) (by simp [hz])
  simpa [Value.cells] using this

theorem run_bs24 (cs : Array Value) (hc : cs.size = 18) (w : World) : (bs24 #[(0, .agg cs)]).run Yba.prog w = .ok (.slice (some ⟨w.heap.size, 0, none⟩) 1 1) (w.alloc (.cells cs 31)) := by
  obtain ⟨i, hi, hz0, hz1, hz2⟩ := info_parts info31
  refine run_buildSlice w 24 31 1 _ cs i z31 Yba.underlying24 hi hz0 (by rw [hz1]; omega) (by rw [hz1]; omega) ?_
  rw [hz1]
  exact fill_one (by omega) cs _ hc (by simp)
theorem run_bs25 (cs : Array Value) (hc : cs.size = 36) (w : World) : (bs25 #[(0, .agg cs)]).run Yba.prog w = .ok (.slice (some ⟨w.heap.size, 0, none⟩) 1 1) (w.alloc (.cells cs 37)) := by
  obtain ⟨i, hi, hz0, hz1, hz2⟩ := info_parts info37
  refine run_buildSlice w 25 37 1 _ cs i z37 Yba.underlying25 hi hz0 (by rw [hz1]; omega) (by rw [hz1]; omega) ?_
  rw [hz1]
  exact fill_one (by omega) cs _ hc (by simp)

theorem fill_two (x y z : Array Value) (hx : x.size = 18) (hy : y.size = 18) (hz : z.size = 36) (pl : Nat → Option (Nat × Nat)) (p0 : pl 0 = some (0, 18)) (p1 : pl 1 = some (18, 18)) :
    Instr.fill pl z [(0, .agg x), (1, .agg y)] = some (x ++ y) := by
  have h := Great.fill_whole (s := 18) (by omega) [.agg x, .agg y] z (by simp [Value.cells, hx, hy]) (by simp [hz])
  have e : Instr.fill pl z [(0, .agg x), (1, .agg y)] = Instr.fill (fun i => some (i * 18, 18)) z ((List.zipIdx [Value.agg x, .agg y] 0).map fun x => (x.2, x.1)) := by
    simp only [List.zipIdx_cons, List.zipIdx_nil, List.map_cons, List.map_nil, Instr.fill, p0, p1]
  rw [e, h]
  simp [Value.cells]

theorem run_bd37 (x y : Array Value) (hx : x.size = 18) (hy : y.size = 18) (w : World) : (bd37 #[(0, .agg x), (1, .agg y)]).run Yba.prog w = .ok (.agg (x ++ y)) w := by
  refine run_build w 37 _ _ ?_
  obtain ⟨i, hi, hz0, hz1, hz2⟩ := info_parts info37
  obtain ⟨j, hj, hy0, hy1, hy2⟩ := info_parts info31
  unfold Program.built
  simp only [hi, Yba.underlying37, hz0]
  have hp : List.mapM (fun f : Field => Option.map (fun i : TypeInfo => (f.offset, i.size)) (Yba.prog.info? f.type)) [{ name := "Left", type := 31, offset := 0, embedded := false, tag := "", pkgPath := "", byteOffset := 0 }, { name := "Right", type := 31, offset := 18, embedded := false, tag := "", pkgPath := "", byteOffset := 48 }] = some [(0, 18), (18, 18)] := by
    simp [List.mapM_cons, hj, hy1]
  rw [hp]
  exact fill_two x y _ hx hy rfl _ rfl rfl

/-! ### Two peers, two pairs held against each other -/
def nq31 (x y : Value) : Sem Value := binOp .neq 31 x y
def nq37 (x y : Value) : Sem Value := binOp .neq 37 x y
theorem to_nq31 (x y : Value) : binOp .neq 31 x y = nq31 x y := rfl
theorem to_nq37 (x y : Value) : binOp .neq 37 x y = nq37 x y := rfl

theorem info5 : (Yba.prog.info? 5).map (fun i => (i.zero, i.size, i.bytes)) = some (some (.int .u8 0), 1, 1) := by kernel_rfl
theorem cells5 : Yba.prog.cellsOf 5 = 1 := by kernel_rfl
theorem und31 : Yba.prog.underlying 31 = some (.struct (Yba.prog.fieldsOf 31)) := by kernel_rfl
theorem und37 : Yba.prog.underlying 37 = some (.struct (Yba.prog.fieldsOf 37)) := by kernel_rfl
theorem held31 : Yba.prog.stoodInHeld 31 = false := by kernel_rfl
theorem held37 : Yba.prog.stoodInHeld 37 = false := by kernel_rfl

/-- Sixteen bytes held against themselves. -/
theorem eq29 (d : Nat) (xs : Array Value) (f : Nat → Int) (hx : ∀ i, i < 16 → xs[i]? = some (.int .u8 (f i))) (w : World) : (Op.equalIn (d + 2) 29 (.agg xs) (.agg xs)).run Yba.prog w = .ok true w := by
  obtain ⟨i, hi, hz0, hz1, hz2⟩ := info_parts info5
  rw [run_equalIn_array w (d + 1) xs xs Yba.underlying29 hi, cells5]
  have go : ∀ is : List Nat, (∀ j ∈ is, j < 16) → (Op.eqItems (d + 1) 5 1 xs xs is).run Yba.prog w = .ok true w := by
    intro is
    induction is with
    | nil => intro _; simp [Op.eqItems]
    | cons j is ih =>
      intro hj
      have hpart : (part 5 xs (j * 1)).run Yba.prog w = .ok (.int .u8 (f j)) w := by
        have := hx j (hj j (by simp))
        simp [part, isAgg, run_underlying Yba.underlying5, sizeOf, typeInfo, hi, hz1, this]
      simp only [Op.eqItems, Sem.run_bind, hpart, Result.andThen_ok, run_equalIn_int w d 5 .u8 .u8 _ _ Yba.underlying5]
      simpa using ih (fun k hk => hj k (by simp [hk]))
  exact go _ (fun j hj => by simpa using hj)

/-- What a peer's cells are like. -/
structure IsPeer (xs : Array Value) : Prop where
  size : xs.size = 18
  c0 : ∃ a, xs[0]? = some (.string a)
  c1 : ∃ a, xs[1]? = some (.string a)
  id : ∃ f : Nat → Int, ∀ i, i < 16 → xs[2 + i]? = some (.int .u8 (f i))

theorem isPeer (s : ByteArray) (k : Int) : IsPeer (pcA s k) :=
  ⟨rfl, ⟨_, rfl⟩, ⟨_, rfl⟩, ⟨fun i => if i = 0 then k % 256 else if i = 15 then (s.size : Int) % 256 else 0, fun i hi => by
    match i, hi with
    | 0, _ | 1, _ | 2, _ | 3, _ | 4, _ | 5, _ | 6, _ | 7, _ | 8, _ | 9, _ | 10, _ | 11, _ | 12, _ | 13, _ | 14, _ | 15, _ => rfl
    | n + 16, h => exact absurd h (by omega)⟩⟩

theorem info29 : (Yba.prog.info? 29).map (fun i => (i.zero.isSome, i.size, i.bytes)) = some (true, 16, 16) := by kernel_rfl

theorem fields31 : Yba.prog.fieldsOf 31 = #[{ name := "Name", type := 9, offset := 0, embedded := false, tag := "", pkgPath := "", byteOffset := 0 }, { name := "Addr", type := 9, offset := 1, embedded := false, tag := "", pkgPath := "", byteOffset := 16 }, { name := "ID", type := 29, offset := 2, embedded := false, tag := "", pkgPath := "", byteOffset := 32 }] := by kernel_rfl
theorem fields37 : Yba.prog.fieldsOf 37 = #[{ name := "Left", type := 31, offset := 0, embedded := false, tag := "", pkgPath := "", byteOffset := 0 }, { name := "Right", type := 31, offset := 18, embedded := false, tag := "", pkgPath := "", byteOffset := 48 }] := by kernel_rfl

theorem part9 {xs : Array Value} {o : Nat} {a : ByteArray} (h : xs[o]? = some (.string a)) (w : World) : (part 9 xs o).run Yba.prog w = .ok (.string a) w := by
  simp [part, isAgg, run_underlying Yba.underlying9, h]
theorem part29 (xs : Array Value) (o : Nat) (w : World) : (part 29 xs o).run Yba.prog w = .ok (.agg (xs.extract o (o + 16))) w := by
  obtain ⟨i, hi, h⟩ := Option.map_eq_some_iff.1 info29
  simp only [Prod.mk.injEq] at h
  simp [part, isAgg, run_underlying Yba.underlying29, sizeOf, typeInfo, hi, h.2.1]
theorem part31 (xs : Array Value) (o : Nat) (w : World) : (part 31 xs o).run Yba.prog w = .ok (.agg (xs.extract o (o + 18))) w := by
  obtain ⟨i, hi, hz0, hz1, hz2⟩ := info_parts info31
  simp [part, isAgg, run_underlying Yba.underlying31, sizeOf, typeInfo, hi, hz1]

theorem eq31 (d : Nat) (xs : Array Value) (h : IsPeer xs) (w : World) : (Op.equalIn (d + 4) 31 (.agg xs) (.agg xs)).run Yba.prog w = .ok true w := by
  obtain ⟨hs, ⟨a, ha⟩, ⟨b, hb⟩, ⟨f, hf⟩⟩ := h
  rw [run_equalIn_struct w (d + 3) 31 xs xs und31 held31, fields31]
  have e29 := eq29 (d + 1) (xs.extract 2 (2 + 16)) f (fun i hi => by rw [Array.getElem?_extract, if_pos (by omega)]; exact hf i hi) w
  simp only [Op.eqFields, Sem.run_bind, Sem.run_ite, part9 ha, part9 hb, part29, run_equalIn_string w _ 9 _ _ Yba.underlying9, Result.andThen_ok, e29]
  simp

theorem ext_left {xs ys : Array Value} (hx : xs.size = 18) : (xs ++ ys).extract 0 (0 + 18) = xs := by
  apply Array.ext'
  simp [← hx]
theorem ext_right {xs ys : Array Value} (hx : xs.size = 18) (hy : ys.size = 18) : (xs ++ ys).extract 18 (18 + 18) = ys := by
  apply Array.ext'
  simp [← hx]
  exact List.take_of_length_le (by simp [hx, hy])

theorem eq37 (d : Nat) (xs ys : Array Value) (hx : IsPeer xs) (hy : IsPeer ys) (w : World) : (Op.equalIn (d + 5) 37 (.agg (xs ++ ys)) (.agg (xs ++ ys))).run Yba.prog w = .ok true w := by
  rw [run_equalIn_struct w (d + 4) 37 _ _ und37 held37, fields37]
  have e1 : (xs ++ ys).extract 0 (0 + 18) = xs := ext_left hx.size
  have e2 : (xs ++ ys).extract 18 (18 + 18) = ys := ext_right hx.size hy.size
  simp only [Op.eqFields, Sem.run_bind, Sem.run_ite, part31, e1, e2, Result.andThen_ok, eq31 d xs hx, eq31 d ys hy]
  simp

theorem prA_eq (s : ByteArray) (k : Int) (s' : ByteArray) (k' : Int) : pcA s k ++ pcA s' k' = prA s k s' k' := by simp [pcA, prA, prL]

theorem run_nq31 (s : ByteArray) (k : Int) (w : World) : (nq31 (.agg (pcA s k)) (.agg (pcA s k))).run Yba.prog w = .ok (.bool false) w := by
  unfold nq31
  rw [run_neq_struct, eq31 9996 _ (isPeer s k)]
  rfl
theorem run_nq37 (s : ByteArray) (k : Int) (s' : ByteArray) (k' : Int) (w : World) : (nq37 (.agg (prA s k s' k')) (.agg (prA s k s' k'))).run Yba.prog w = .ok (.bool false) w := by
  unfold nq37
  rw [run_neq_struct, ← prA_eq, eq37 9995 _ _ (isPeer s k) (isPeer s' k')]
  rfl
theorem run_bd37' (s : ByteArray) (k : Int) (s' : ByteArray) (k' : Int) (w : World) : (bd37 #[(0, .agg (pcA s k)), (1, .agg (pcA s' k'))]).run Yba.prog w = .ok (.agg (prA s k s' k')) w := by
  rw [run_bd37 _ _ (pcA_size _ _) (pcA_size _ _), prA_eq]
theorem run_bs24' (s : ByteArray) (k : Int) (w : World) : (bs24 #[(0, .agg (pcA s k))]).run Yba.prog w = .ok (.slice (some ⟨w.heap.size, 0, none⟩) 1 1) (w.alloc (.cells (pcA s k) 31)) := run_bs24 _ (pcA_size _ _) w
theorem run_bs25' (s : ByteArray) (k : Int) (s' : ByteArray) (k' : Int) (w : World) : (bs25 #[(0, .agg (prA s k s' k'))]).run Yba.prog w = .ok (.slice (some ⟨w.heap.size, 0, none⟩) 1 1) (w.alloc (.cells (prA s k s' k') 37)) := run_bs25 _ (prA_size _ _ _ _) w

/-! ### A peer, a pair loaded out of the middle of a row; a pair stored over a new variable -/
def ld31 (p : Value) : Sem Value := Instr.loadAt 31 p
def ld37 (p : Value) : Sem Value := Instr.loadAt 37 p
def st37 (p v : Value) : Sem Unit := Instr.storeAt 37 p v
theorem to_ld31 (p : Value) : Instr.loadAt 31 p = ld31 p := rfl
theorem to_ld37 (p : Value) : Instr.loadAt 37 p = ld37 p := rfl
theorem to_st37 (p v : Value) : Instr.storeAt 37 p v = st37 p v := rfl

theorem run_ld31 {w : World} {b o : Nat} {s : ByteArray} {k : Int} (h : w.rangeAt b o (pcL s k)) : (ld31 (.pointer (some ⟨b, o, none⟩))).run Yba.prog w = .ok (.agg (pcA s k)) w :=
  run_loadAt_mid w b o 31 (pcL s k) _ h Yba.underlying31 rfl (by kernel_rfl)
theorem run_ld37 {w : World} {b o : Nat} {s : ByteArray} {k : Int} {s' : ByteArray} {k' : Int} (h : w.rangeAt b o (prL s k s' k')) : (ld37 (.pointer (some ⟨b, o, none⟩))).run Yba.prog w = .ok (.agg (prA s k s' k')) w :=
  run_loadAt_mid w b o 37 (prL s k s' k') _ h Yba.underlying37 rfl (by kernel_rfl)

/-! ### Rows of elements of one width -/
/-- n elements laid one behind the other. -/
def flat (f : Nat → List Value) (n : Nat) : List Value := (List.range n).flatMap f
theorem flat_zero (f : Nat → List Value) : flat f 0 = [] := rfl
theorem flat_succ (f : Nat → List Value) (n : Nat) : flat f (n + 1) = flat f n ++ f n := by simp [flat, List.range_succ]
theorem flat_length {f : Nat → List Value} {m : Nat} (hf : ∀ i, (f i).length = m) (n : Nat) : (flat f n).length = n * m := by
  induction n with
  | zero => simp [flat_zero]
  | succ n ih => rw [flat_succ, List.length_append, ih, hf, Nat.succ_mul]
theorem flat_get {f : Nat → List Value} {m : Nat} (hf : ∀ i, (f i).length = m) {n i j : Nat} (hi : i < n) (hj : j < m) : (flat f n)[i * m + j]? = (f i)[j]? := by
  induction n with
  | zero => omega
  | succ n ih =>
    rw [flat_succ]
    by_cases h : i < n
    · rw [List.getElem?_append_left (by rw [flat_length hf]; have := Nat.mul_le_mul_right m (Nat.succ_le_of_lt h); rw [Nat.succ_mul] at this; omega)]
      exact ih h
    · have : i = n := by omega
      subst this
      rw [List.getElem?_append_right (by rw [flat_length hf]; omega), flat_length hf]
      congr 1
      omega

theorem range_of_owned {w : World} {base : Nat} {e : TypeId} {m g n c : Nat} {xs : List Value} (h : w.ownsRow base e m (.slice (some ⟨g, 0, none⟩) n c) n xs) {o : Nat} {cs : List Value} (ho : o + cs.length ≤ n * m) (hx : ∀ j, j < cs.length → xs[o + j]? = cs[j]?) : w.rangeAt g o cs := by
  intro j v hv
  have hj : j < cs.length := (List.getElem?_eq_some_iff.1 hv).1
  rw [h.cellAt (o + j) (by omega), hx j hj]
  exact hv

theorem range_flat {w : World} {base : Nat} {e : TypeId} {m g n c : Nat} {f : Nat → List Value} (hf : ∀ i, (f i).length = m) (h : w.ownsRow base e m (.slice (some ⟨g, 0, none⟩) n c) n (flat f n)) {i : Nat} (hi : i < n) : w.rangeAt g (i * m) (f i) := by
  refine range_of_owned h ?_ fun j hj => flat_get hf hi (by rw [← hf i]; exact hj)
  rw [hf]
  have := Nat.mul_le_mul_right m (Nat.succ_le_of_lt hi)
  rw [Nat.succ_mul] at this
  exact this

/-- What was owned below the blocks that a later stretch of the call makes stays owned. -/
theorem owned_below {w w' : World} {base B : Nat} {e : TypeId} {size : Nat} {v : Value} {n : Nat} {xs : List Value} (h : w.ownsRow base e size v n xs) (hb : Below B w w') (hB : w.heap.size ≤ B) : w'.ownsRow base e size v n xs := by
  obtain ⟨h1, h2⟩ := h
  refine ⟨h1, ?_⟩
  rcases h2 with h2 | ⟨g, cap, cur, hv, hg, hh, r⟩
  · exact .inl h2
  · exact .inr ⟨g, cap, cur, hv, hg, by rw [hb.block g (Nat.lt_of_lt_of_le (Array.getElem?_eq_some_iff.1 hh).1 hB)]; exact hh, r⟩
end Go.Proofs.Ybulkxry
