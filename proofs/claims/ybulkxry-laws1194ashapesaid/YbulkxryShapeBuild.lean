/-
  Seat b1194a: the walk of 'zzs1194abuild' (function 5).
-/
import Derived.Test.YbulkxryShapePeer
import Derived.Deep.AppendLies
import Derived.Deep.RegionHeldLaw
import Derived.Deep.DrawnRows
namespace Go.Proofs.Ybulkxry
open Go.RowKit
attribute [local go_sem ↓] to_bs24 to_bs25 to_bd37
attribute [local go_sem] run_bs24' run_bs25' run_bd37'

def InStrs (w : World) (a : Option Addr) (len : Nat) (S : Nat → ByteArray) : Prop :=
  (a = none → len = 0) ∧ (0 < len → ∃ b off, a = some ⟨b, off, none⟩ ∧ (∀ i, i < len → w.cell? ⟨b, off + i, none⟩ = some (.string (S i)))) ∧ ∀ i, i < len → (S i).size ≤ 140737488351232
def InPairs (w : World) (a : Option Addr) (len : Nat) (L R : Nat → ByteArray) : Prop :=
  (a = none → len = 0) ∧ (0 < len → ∃ b off, a = some ⟨b, off, none⟩ ∧ (∀ i, i < len → w.cell? ⟨b, off + i * 2, none⟩ = some (.string (L i))) ∧ (∀ i, i < len → w.cell? ⟨b, off + i * 2 + 1, none⟩ = some (.string (R i)))) ∧
    (∀ i, i < len → (L i).size ≤ 140737488351232) ∧ (∀ i, i < len → (R i).size ≤ 140737488351232)

def leafF (S : Nat → ByteArray) (i : Nat) : List Value := pcL (S i) i
def upF (L R : Nat → ByteArray) (i : Nat) : List Value := prL (L i) (2 * i) (R i) (2 * i + 1)

theorem news_of (x : World) (cs : Array Value) (t : TypeId) {n : Nat} (hn : x.heap.size = n) : ∀ j u, cs.toList[j]? = some u → (x.alloc (.cells cs t)).cell? ((⟨n, 0, none⟩ : Addr).add j) = some u := by
  subst hn
  exact World.news_of_block (heap_alloc_new x _)

theorem news_of_drew (x : World) (cs : Array Value) (t : TypeId) {n : Nat} (hn : x.heap.size = n) : ∀ j u, cs.toList[j]? = some u → (x.alloc (.cells cs t)).drew.cell? ((⟨n, 0, none⟩ : Addr).add j) = some u := news_of x cs t hn

theorem owned_mono {w : World} {base base' : Nat} {e : TypeId} {size : Nat} {v : Value} {n : Nat} {xs : List Value} (h : w.ownsRow base e size v n xs) (hb : base' ≤ base) : w.ownsRow base' e size v n xs := by
  obtain ⟨h1, h2⟩ := h
  refine ⟨h1, ?_⟩
  rcases h2 with h2 | ⟨g, cap, cur, hv, hg, r⟩
  · exact .inl h2
  · exact .inr ⟨g, cap, cur, hv, Nat.le_trans hb hg, r⟩
theorem wrap_small {x : Int} (h0 : 0 ≤ x) (h1 : x ≤ 100000) : IntKind.i64.wrap x = x := by
  rw [IntKind.wrap_i64]
  omega

set_option maxHeartbeats 4000000 in
theorem build_any (a0 a1 : Option Addr) (n0 c0 n1 c1 : Nat) (S L R : Nat → ByteArray) (w : World) (h0 : n0 ≤ 1024) (h1 : n1 ≤ 1024) (i0 : InStrs w a0 n0 S) (i1 : InPairs w a1 n1 L R) :
    Calls Yba.prog 5 #[.slice a0 n0 c0, .slice a1 n1 c1] w fun e w' => ∃ v0 v1, e = .returned (.tuple #[v0, v1]) ∧ w'.ownsRow w.heap.size 31 18 v0 n0 (flat (leafF S) n0) ∧ w'.ownsRow w.heap.size 37 36 v1 n1 (flat (upF L R) n1) ∧ Below w.heap.size w w' := by
  have H0 : Hid (InStrs w a0 n0 S) := i0
  have H1 : Hid (InPairs w a1 n1 L R) := i1
  clear i0 i1
  obtain ⟨t0, hi, hz0, hz1, hz2⟩ := info_parts info31
  obtain ⟨t1, ki, kz0, kz1, kz2⟩ := info_parts info37
  rcases a0 with _ | x0 <;> rcases a1 with _ | x1
  all_goals
    go_enter Yba.func5, Yba.ntmps5
    go_wp2_with (at_make; refine wpList_make_own _ rfl _ _ 24 rfl w.heap.size 31 t0 _ 18 Yba.underlying24 hi hz0 hz1 .i64 .i64 _ n0 rfl rfl rfl (by rw [hz2]; omega) (by unfold maxLen; omega) (Nat.le_refl _) ?_; intro w1 hown hgr)
    go_loopw [6, 19] (fun v i wr => ∃ k : Nat, k ≤ n0 ∧ i = .int .i64 k ∧ wr.ownsRow w.heap.size 31 18 v k (flat (leafF S) k) ∧ Below w.heap.size w wr)
      (fun _ i _ => n0 - (intOf i).toNat)
    case atStart => first | exact ⟨0, Nat.zero_le _, rfl, hown, (Below.refl _ _).grown hgr (Nat.le_refl _) (by simp)⟩ | exact ⟨0, Nat.zero_le _, rfl, World.ownsRow_nil _ _ _ _, Below.refl _ _⟩
    case round =>
      obtain ⟨k, hk, rfl, hown', hbel⟩ := hrel
      try clear hown hgr
      by_cases hlt : k < n0
      · first
          | (exfalso; have := H0.out.1 rfl; omega)
          | (have hlti : (k : Int) < (n0 : Int) := by omega
             have hsz := hbel.size
             obtain ⟨b, off, hx, hc⟩ := H0.out.2.1 (by omega)
             simp only [Option.some.injEq] at hx
             subst hx
             have hss := H0.out.2.2 k hlt
             have g0 : wr.cell? ⟨b, off + k, none⟩ = some (.string (S k)) := (hbel.cell (World.block_lt_of_cell? w _ (hc k hlt))).trans (hc k hlt)
             clear hc
             go_wp2_with (first
               | (go_at_call 7; refine (peer_any _ _ hss _).mono ?_; rintro e w2 ⟨rfl, o1, o2, rfl⟩)
               | (at_builtin; refine wpList_append_own _ rfl _ _ 24 rfl w.heap.size 31 t0 z31 18 48 Yba.underlying24 hi hz0 hz1 hz2 rfl (by decide) _ k (flat (leafF S) k) rfl (((hown'.alloc _).alloc _).alloc _) ⟨wr.heap.size + 1 + 1, 0, none⟩ 1 1 (pcL (S k) k) rfl rfl (news_of _ _ _ (by simp)) (pcL_one _ _) (by unfold maxLen; omega) (by omega) (by simp; omega) ?_; intro v' w3 hown3 hgrow3 _))
             go_roundw
             case rel =>
               refine ⟨k + 1, by omega, by go_num, ?_, (((hbel.alloc (by omega) _).alloc (by simp; omega) _).alloc (by simp; omega) _).grown hgrow3 (by simp; omega) (fun b hb => (hown'.lt b hb).1)⟩
               rw [flat_succ]
               exact hown3
             case measure => simp [intOf]; omega)
      · have hkn : k = n0 := by omega
        subst hkn
        obtain ⟨wm, hwm⟩ : ∃ wm, wm = wr := ⟨_, rfl⟩
        subst hwm
        have hsz := hbel.size
        go_wp2_with (at_make; refine wpList_make_own _ rfl _ _ 25 rfl wm.heap.size 37 t1 _ 36 Yba.underlying25 ki kz0 kz1 .i64 .i64 _ n1 rfl rfl rfl (by rw [kz2]; omega) (by unfold maxLen; omega) (Nat.le_refl _) ?_; intro w4 hown4 hgr4)
        go_loopw [9, 38] (fun v i wq => ∃ j : Nat, j ≤ n1 ∧ i = .int .i64 j ∧ wq.ownsRow wm.heap.size 37 36 v j (flat (upF L R) j) ∧ Below wm.heap.size wm wq)
          (fun _ i _ => n1 - (intOf i).toNat)
        case atStart => first | exact ⟨0, Nat.zero_le _, rfl, hown4, (Below.refl _ _).grown hgr4 (Nat.le_refl _) (by simp)⟩ | exact ⟨0, Nat.zero_le _, rfl, World.ownsRow_nil _ _ _ _, Below.refl _ _⟩
        case round =>
          obtain ⟨j, hj, rfl, hown5, hbel5⟩ := hrel
          try clear hown4 hgr4
          have hs5 := hbel5.size
          by_cases hlt1 : j < n1
          · first
              | (exfalso; have := H1.out.1 rfl; omega)
              | (have hlti : (j : Int) < (n1 : Int) := by omega
                 obtain ⟨b, off, hx, hcl, hcr⟩ := H1.out.2.1 (by omega)
                 simp only [Option.some.injEq] at hx
                 subst hx
                 have hsl := H1.out.2.2.1 j hlt1
                 have hsr := H1.out.2.2.2 j hlt1
                 have hb : b < w.heap.size := World.block_lt_of_cell? w _ (hcl j hlt1)
                 have g0 : wr.cell? ⟨b, off + j * 2, none⟩ = some (.string (L j)) := (hbel5.cell (Nat.lt_of_lt_of_le hb hsz)).trans ((hbel.cell (by exact hb)).trans (hcl j hlt1))
                 have g1 : wr.cell? ⟨b, off + j * 2 + 1, none⟩ = some (.string (R j)) := (hbel5.cell (Nat.lt_of_lt_of_le hb hsz)).trans ((hbel.cell (by exact hb)).trans (hcr j hlt1))
                 clear hcl hcr
                 go_wp2_with fail
                 have hne : some wr.heap.size ≠ u9.ownBlock := fun e => by have := (hown5.lt _ e.symm).2; omega
                 have hw1 : IntKind.i64.wrap (2 * (j : Int)) = 2 * (j : Int) := wrap_small (by omega) (by omega)
                 have hw2 : IntKind.i64.wrap (2 * (j : Int) + 1) = 2 * (j : Int) + 1 := wrap_small (by omega) (by omega)
                 go_region_held_law (fun w' => w'.cell? ⟨wr.heap.size, 0, none⟩ = some (.string (L j)) ∧ w'.cell? ⟨wr.heap.size, 1, none⟩ = some (.string (R j)))
                   (first | (simp [go_sem, World.cell?_alloc_past]; done) | (go_split_ands; refine ⟨?_, ?_⟩ <;> (rw [hgrow6.cell_far _ (by simp; omega) hne]; assumption)))
                   (first
                     | (go_at_call_of 7 (L j); refine (peer_any (L j) _ hsl _).mono ?_; rintro e w2 ⟨rfl, o1, o2, rfl⟩)
                     | (go_at_call_of 7 (R j); refine (peer_any (R j) _ hsr _).mono ?_; rintro e w2 ⟨rfl, o3, o4, rfl⟩)
                     | (refine step_append_lies _ ?_ (.tmp 43) (.tmp 56) 25 ?_ wm.heap.size 37 t1 z37 36 96 Yba.underlying25 ki kz0 kz1 kz2 rfl (by decide) u9 j (flat (upF L R) j) ?_ ?_ ⟨wr.heap.size + 1 + 1 + 1 + 1 + 1, 0, none⟩ 1 1 (upF L R j) ?_ rfl ?_ (prL_one _ _ _ _) (by decide) (by unfold maxLen; omega) (by omega) ?_ (wr.heap.size + 1 + 1 + 1 + 1 + 1 + 1) ?_ ?_; (next => rfl); (next => rfl); (next => simp [Act.eval]); (next => exact ((((((hown5.alloc _).alloc _).alloc _).alloc _).alloc _).alloc _).drew); (next => simp [Act.eval]); (next => exact news_of_drew _ (prA _ _ _ _) _ (by simp)); (next => simp; omega); (next => simp); intro g6 c6 w6 hown6 hgrow6 hat6 hlt6)
                     | fail)
                 go_wp2
                 go_roundw
                 case rel =>
                   refine ⟨j + 1, by omega, by go_num, ?_, ?_⟩
                   · rw [flat_succ]
                     exact hown6
                   · exact (((((((hbel5.alloc (by omega) _).alloc (by simp; omega) _).alloc (by simp; omega) _).alloc (by simp; omega) _).alloc (by simp; omega) _).alloc (by simp; omega) _).drew).grown hgrow6 (by simp; omega) (fun b hb => (hown5.lt b hb).1)
                 case measure => simp [intOf]; omega)
          · have hjn : j = n1 := by omega
            subst hjn
            go_wp2
            go_ret2
            exact ⟨_, _, rfl, owned_below hown' hbel5 (Nat.le_refl _), owned_mono hown5 hsz, hbel.trans (hbel5.mono hsz)⟩
end Go.Proofs.Ybulkxry
