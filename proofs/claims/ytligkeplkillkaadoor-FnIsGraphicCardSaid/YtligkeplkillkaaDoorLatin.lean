/-
  THE WALK of spec.latin: it returns a new slice whose sixty elements are the spans; nothing else is touched. No condition.
-/
import Derived.Test.YtligkeplkillkaaDoorProg
import Derived.Test.YtligkeplkillkaaDoorPlain
import Derived.WalkKit
import Derived.Great.Walk
import Derived.KernelRfl
namespace Go.Proofs.YtligkeplkillkaaDoor
set_option maxRecDepth 100000 in
set_option maxHeartbeats 2000000 in
theorem latin_any (w : World) : Calls Tryd.prog 13 #[] w fun e w' => e = .returned (.slice (some ⟨w.heap.size, 0, none⟩) 60 60) ∧ w.alloc (.cells latinCells 27) = w' := by
  go_enter Tryd.func13, Tryd.ntmps13
  iterate 11 go_step
  refine Great.wpList_readTo rfl (some 1) rfl (.agg #[.int .i32 0, .int .i32 31, .int .i64 0]) ?_ ?_
  · as_aux_lemma => kernel_rfl
  refine Great.wpList_readTo rfl (some 2) rfl (.agg #[.int .i32 32, .int .i32 32, .int .i64 29]) ?_ ?_
  · as_aux_lemma => kernel_rfl
  refine Great.wpList_readTo rfl (some 3) rfl (.agg #[.int .i32 33, .int .i32 35, .int .i64 21]) ?_ ?_
  · as_aux_lemma => kernel_rfl
  refine Great.wpList_readTo rfl (some 4) rfl (.agg #[.int .i32 36, .int .i32 36, .int .i64 23]) ?_ ?_
  · as_aux_lemma => kernel_rfl
  refine Great.wpList_readTo rfl (some 5) rfl (.agg #[.int .i32 37, .int .i32 39, .int .i64 21]) ?_ ?_
  · as_aux_lemma => kernel_rfl
  refine Great.wpList_readTo rfl (some 6) rfl (.agg #[.int .i32 40, .int .i32 40, .int .i64 22]) ?_ ?_
  · as_aux_lemma => kernel_rfl
  refine Great.wpList_readTo rfl (some 7) rfl (.agg #[.int .i32 41, .int .i32 41, .int .i64 18]) ?_ ?_
  · as_aux_lemma => kernel_rfl
  refine Great.wpList_readTo rfl (some 8) rfl (.agg #[.int .i32 42, .int .i32 42, .int .i64 21]) ?_ ?_
  · as_aux_lemma => kernel_rfl
  refine Great.wpList_readTo rfl (some 9) rfl (.agg #[.int .i32 43, .int .i32 43, .int .i64 25]) ?_ ?_
  · as_aux_lemma => kernel_rfl
  refine Great.wpList_readTo rfl (some 10) rfl (.agg #[.int .i32 44, .int .i32 44, .int .i64 21]) ?_ ?_
  · as_aux_lemma => kernel_rfl
  refine Great.wpList_readTo rfl (some 11) rfl (.agg #[.int .i32 45, .int .i32 45, .int .i64 17]) ?_ ?_
  · as_aux_lemma => kernel_rfl
  refine Great.wpList_readTo rfl (some 12) rfl (.agg #[.int .i32 46, .int .i32 47, .int .i64 21]) ?_ ?_
  · as_aux_lemma => kernel_rfl
  refine Great.wpList_readTo rfl (some 13) rfl (.agg #[.int .i32 48, .int .i32 57, .int .i64 13]) ?_ ?_
  · as_aux_lemma => kernel_rfl
  refine Great.wpList_readTo rfl (some 14) rfl (.agg #[.int .i32 58, .int .i32 59, .int .i64 21]) ?_ ?_
  · as_aux_lemma => kernel_rfl
  refine Great.wpList_readTo rfl (some 15) rfl (.agg #[.int .i32 60, .int .i32 62, .int .i64 25]) ?_ ?_
  · as_aux_lemma => kernel_rfl
  refine Great.wpList_readTo rfl (some 16) rfl (.agg #[.int .i32 63, .int .i32 64, .int .i64 21]) ?_ ?_
  · as_aux_lemma => kernel_rfl
  refine Great.wpList_readTo rfl (some 17) rfl (.agg #[.int .i32 65, .int .i32 90, .int .i64 9]) ?_ ?_
  · as_aux_lemma => kernel_rfl
  refine Great.wpList_readTo rfl (some 18) rfl (.agg #[.int .i32 91, .int .i32 91, .int .i64 22]) ?_ ?_
  · as_aux_lemma => kernel_rfl
  refine Great.wpList_readTo rfl (some 19) rfl (.agg #[.int .i32 92, .int .i32 92, .int .i64 21]) ?_ ?_
  · as_aux_lemma => kernel_rfl
  refine Great.wpList_readTo rfl (some 20) rfl (.agg #[.int .i32 93, .int .i32 93, .int .i64 18]) ?_ ?_
  · as_aux_lemma => kernel_rfl
  refine Great.wpList_readTo rfl (some 21) rfl (.agg #[.int .i32 94, .int .i32 94, .int .i64 24]) ?_ ?_
  · as_aux_lemma => kernel_rfl
  refine Great.wpList_readTo rfl (some 22) rfl (.agg #[.int .i32 95, .int .i32 95, .int .i64 16]) ?_ ?_
  · as_aux_lemma => kernel_rfl
  refine Great.wpList_readTo rfl (some 23) rfl (.agg #[.int .i32 96, .int .i32 96, .int .i64 24]) ?_ ?_
  · as_aux_lemma => kernel_rfl
  refine Great.wpList_readTo rfl (some 24) rfl (.agg #[.int .i32 97, .int .i32 122, .int .i64 5]) ?_ ?_
  · as_aux_lemma => kernel_rfl
  refine Great.wpList_readTo rfl (some 25) rfl (.agg #[.int .i32 123, .int .i32 123, .int .i64 22]) ?_ ?_
  · as_aux_lemma => kernel_rfl
  refine Great.wpList_readTo rfl (some 26) rfl (.agg #[.int .i32 124, .int .i32 124, .int .i64 25]) ?_ ?_
  · as_aux_lemma => kernel_rfl
  refine Great.wpList_readTo rfl (some 27) rfl (.agg #[.int .i32 125, .int .i32 125, .int .i64 18]) ?_ ?_
  · as_aux_lemma => kernel_rfl
  refine Great.wpList_readTo rfl (some 28) rfl (.agg #[.int .i32 126, .int .i32 126, .int .i64 25]) ?_ ?_
  · as_aux_lemma => kernel_rfl
  refine Great.wpList_readTo rfl (some 29) rfl (.agg #[.int .i32 127, .int .i32 159, .int .i64 0]) ?_ ?_
  · as_aux_lemma => kernel_rfl
  refine Great.wpList_readTo rfl (some 30) rfl (.agg #[.int .i32 160, .int .i32 160, .int .i64 29]) ?_ ?_
  · as_aux_lemma => kernel_rfl
  refine Great.wpList_readTo rfl (some 31) rfl (.agg #[.int .i32 161, .int .i32 161, .int .i64 21]) ?_ ?_
  · as_aux_lemma => kernel_rfl
  refine Great.wpList_readTo rfl (some 32) rfl (.agg #[.int .i32 162, .int .i32 165, .int .i64 23]) ?_ ?_
  · as_aux_lemma => kernel_rfl
  refine Great.wpList_readTo rfl (some 33) rfl (.agg #[.int .i32 166, .int .i32 166, .int .i64 26]) ?_ ?_
  · as_aux_lemma => kernel_rfl
  refine Great.wpList_readTo rfl (some 34) rfl (.agg #[.int .i32 167, .int .i32 167, .int .i64 21]) ?_ ?_
  · as_aux_lemma => kernel_rfl
  refine Great.wpList_readTo rfl (some 35) rfl (.agg #[.int .i32 168, .int .i32 168, .int .i64 24]) ?_ ?_
  · as_aux_lemma => kernel_rfl
  refine Great.wpList_readTo rfl (some 36) rfl (.agg #[.int .i32 169, .int .i32 169, .int .i64 26]) ?_ ?_
  · as_aux_lemma => kernel_rfl
  refine Great.wpList_readTo rfl (some 37) rfl (.agg #[.int .i32 170, .int .i32 170, .int .i64 7]) ?_ ?_
  · as_aux_lemma => kernel_rfl
  refine Great.wpList_readTo rfl (some 38) rfl (.agg #[.int .i32 171, .int .i32 171, .int .i64 20]) ?_ ?_
  · as_aux_lemma => kernel_rfl
  refine Great.wpList_readTo rfl (some 39) rfl (.agg #[.int .i32 172, .int .i32 172, .int .i64 25]) ?_ ?_
  · as_aux_lemma => kernel_rfl
  refine Great.wpList_readTo rfl (some 40) rfl (.agg #[.int .i32 173, .int .i32 173, .int .i64 1]) ?_ ?_
  · as_aux_lemma => kernel_rfl
  refine Great.wpList_readTo rfl (some 41) rfl (.agg #[.int .i32 174, .int .i32 174, .int .i64 26]) ?_ ?_
  · as_aux_lemma => kernel_rfl
  refine Great.wpList_readTo rfl (some 42) rfl (.agg #[.int .i32 175, .int .i32 175, .int .i64 24]) ?_ ?_
  · as_aux_lemma => kernel_rfl
  refine Great.wpList_readTo rfl (some 43) rfl (.agg #[.int .i32 176, .int .i32 176, .int .i64 26]) ?_ ?_
  · as_aux_lemma => kernel_rfl
  refine Great.wpList_readTo rfl (some 44) rfl (.agg #[.int .i32 177, .int .i32 177, .int .i64 25]) ?_ ?_
  · as_aux_lemma => kernel_rfl
  refine Great.wpList_readTo rfl (some 45) rfl (.agg #[.int .i32 178, .int .i32 179, .int .i64 15]) ?_ ?_
  · as_aux_lemma => kernel_rfl
  refine Great.wpList_readTo rfl (some 46) rfl (.agg #[.int .i32 180, .int .i32 180, .int .i64 24]) ?_ ?_
  · as_aux_lemma => kernel_rfl
  refine Great.wpList_readTo rfl (some 47) rfl (.agg #[.int .i32 181, .int .i32 181, .int .i64 5]) ?_ ?_
  · as_aux_lemma => kernel_rfl
  refine Great.wpList_readTo rfl (some 48) rfl (.agg #[.int .i32 182, .int .i32 183, .int .i64 21]) ?_ ?_
  · as_aux_lemma => kernel_rfl
  refine Great.wpList_readTo rfl (some 49) rfl (.agg #[.int .i32 184, .int .i32 184, .int .i64 24]) ?_ ?_
  · as_aux_lemma => kernel_rfl
  refine Great.wpList_readTo rfl (some 50) rfl (.agg #[.int .i32 185, .int .i32 185, .int .i64 15]) ?_ ?_
  · as_aux_lemma => kernel_rfl
  refine Great.wpList_readTo rfl (some 51) rfl (.agg #[.int .i32 186, .int .i32 186, .int .i64 7]) ?_ ?_
  · as_aux_lemma => kernel_rfl
  refine Great.wpList_readTo rfl (some 52) rfl (.agg #[.int .i32 187, .int .i32 187, .int .i64 19]) ?_ ?_
  · as_aux_lemma => kernel_rfl
  refine Great.wpList_readTo rfl (some 53) rfl (.agg #[.int .i32 188, .int .i32 190, .int .i64 15]) ?_ ?_
  · as_aux_lemma => kernel_rfl
  refine Great.wpList_readTo rfl (some 54) rfl (.agg #[.int .i32 191, .int .i32 191, .int .i64 21]) ?_ ?_
  · as_aux_lemma => kernel_rfl
  refine Great.wpList_readTo rfl (some 55) rfl (.agg #[.int .i32 192, .int .i32 214, .int .i64 9]) ?_ ?_
  · as_aux_lemma => kernel_rfl
  refine Great.wpList_readTo rfl (some 56) rfl (.agg #[.int .i32 215, .int .i32 215, .int .i64 25]) ?_ ?_
  · as_aux_lemma => kernel_rfl
  refine Great.wpList_readTo rfl (some 57) rfl (.agg #[.int .i32 216, .int .i32 222, .int .i64 9]) ?_ ?_
  · as_aux_lemma => kernel_rfl
  refine Great.wpList_readTo rfl (some 58) rfl (.agg #[.int .i32 223, .int .i32 246, .int .i64 5]) ?_ ?_
  · as_aux_lemma => kernel_rfl
  refine Great.wpList_readTo rfl (some 59) rfl (.agg #[.int .i32 247, .int .i32 247, .int .i64 25]) ?_ ?_
  · as_aux_lemma => kernel_rfl
  refine Great.wpList_readTo rfl (some 60) rfl (.agg #[.int .i32 248, .int .i32 255, .int .i64 5]) ?_ ?_
  · as_aux_lemma => kernel_rfl
  refine Great.wpList_buildSliceTo rfl 24 27 60 _ rfl w.heap.size rfl (some 61) rfl Tryd.underlying24 latinCells ?_ ?_
  · as_aux_lemma => kernel_rfl
  go_wp2
  go_ret
  exact ⟨rfl, rfl⟩
end Go.Proofs.YtligkeplkillkaaDoor
