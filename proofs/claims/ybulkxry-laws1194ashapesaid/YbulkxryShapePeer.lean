/-
  Seat b1194a: the walk of 'zzs1194apeer' (function 7).
-/
import Derived.Test.YbulkxryShapeParts
namespace Go.Proofs.Ybulkxry
open Go.RowKit

set_option maxHeartbeats 1000000 in
theorem peer_any (s : ByteArray) (k : Int) (hs : s.size ≤ 140737488351232) (w : World) :
    Calls Yba.prog 7 #[.string s, .int .i64 k] w fun e w' => e = .returned (.agg (pcA s k)) ∧ ∃ o1 o2, w' = (w.alloc o1).alloc o2 := by
  go_enter Yba.func7, Yba.ntmps7
  go_wp2
  refine bodyPost_ret (v := .agg (pcA s k)) ?_ rfl ⟨rfl, _, _, rfl⟩
  have hr := run_loadVar_mid (P := Yba.prog) ((w.alloc (.cells (pcA s k) 31)).alloc (.cells #[.int .u8 (k % 256), .int .u8 0, .int .u8 0, .int .u8 0, .int .u8 0, .int .u8 0, .int .u8 0, .int .u8 0, .int .u8 0, .int .u8 0, .int .u8 0, .int .u8 0, .int .u8 0, .int .u8 0, .int .u8 0, .int .u8 ((s.size : Int) % 256)] 29)) w.heap.size 0 31 (pcL s k) _
    (World.rangeAt_alloc (fun j v hv => by rw [World.cell?_alloc_at _ _ _ _ rfl]; simpa [pcA] using hv) _) Yba.underlying31 rfl (by kernel_rfl)
  simp [results, Yba.results7, asAddr]
  exact hr
end Go.Proofs.Ybulkxry
