/- The table of fields, part 1. -/
import Derived.Test.YtbnkahigfgfpcaaFo
import Derived.WalkKit
import Derived.WalkSpells
import Derived.WalkLawsBesides
import Derived.Below
import Derived.Laws.Pointers
import Derived.OwnWalk
import Derived.Handy
import Derived.Lib.Hide
namespace Go.Proofs.Ytbnkahigfgfpcaa
open Go.RowKit

set_option maxRecDepth 100000 in
set_option maxHeartbeats 20000000 in
theorem fo_1 (w : World) : Calls Try.prog 15 #[.int .u8 1] w (FoPost w 3 0 [⟨16, 5, 0⟩]) := by
  go_enter Try.func15, Try.ntmps15
  go_wp2
  go_returns
  refine ⟨rfl, ?_, ?_⟩
  · have h := frow_new (w.alloc (.cells #[.int .i8 3, .int .u8 0, .slice (some ⟨w.heap.size + 1, 0, none⟩) 1 1] 50)) 54 #[.int .u8 16, .int .u8 5, .int .u8 0] [⟨16, 5, 0⟩] rfl
    simpa using h
  · refine Below.alloc (Below.alloc (Below.refl _ _) (by simp) _) (by simp) _

set_option maxRecDepth 100000 in
set_option maxHeartbeats 20000000 in
theorem fo_2 (w : World) : Calls Try.prog 15 #[.int .u8 2] w (FoPost w 15 3 [⟨31, 1, 0⟩, ⟨6, 5, 0⟩]) := by
  go_enter Try.func15, Try.ntmps15
  go_wp2
  go_returns
  refine ⟨rfl, ?_, ?_⟩
  · have h := frow_new (w.alloc (.cells #[.int .i8 15, .int .u8 3, .slice (some ⟨w.heap.size + 1, 0, none⟩) 2 2] 50)) 54 #[.int .u8 31, .int .u8 1, .int .u8 0, .int .u8 6, .int .u8 5, .int .u8 0] [⟨31, 1, 0⟩, ⟨6, 5, 0⟩] rfl
    simpa using h
  · refine Below.alloc (Below.alloc (Below.refl _ _) (by simp) _) (by simp) _

set_option maxRecDepth 100000 in
set_option maxHeartbeats 20000000 in
theorem fo_3 (w : World) : Calls Try.prog 15 #[.int .u8 3] w (FoPost w 3 0 [⟨11, 5, 0⟩]) := by
  go_enter Try.func15, Try.ntmps15
  go_wp2
  go_returns
  refine ⟨rfl, ?_, ?_⟩
  · have h := frow_new (w.alloc (.cells #[.int .i8 3, .int .u8 0, .slice (some ⟨w.heap.size + 1, 0, none⟩) 1 1] 50)) 54 #[.int .u8 11, .int .u8 5, .int .u8 0] [⟨11, 5, 0⟩] rfl
    simpa using h
  · refine Below.alloc (Below.alloc (Below.refl _ _) (by simp) _) (by simp) _

set_option maxRecDepth 100000 in
set_option maxHeartbeats 20000000 in
theorem fo_4 (w : World) : Calls Try.prog 15 #[.int .u8 4] w (FoPost w 3 0 [⟨6, 5, 0⟩]) := by
  go_enter Try.func15, Try.ntmps15
  go_wp2
  go_returns
  refine ⟨rfl, ?_, ?_⟩
  · have h := frow_new (w.alloc (.cells #[.int .i8 3, .int .u8 0, .slice (some ⟨w.heap.size + 1, 0, none⟩) 1 1] 50)) 54 #[.int .u8 6, .int .u8 5, .int .u8 0] [⟨6, 5, 0⟩] rfl
    simpa using h
  · refine Below.alloc (Below.alloc (Below.refl _ _) (by simp) _) (by simp) _

set_option maxRecDepth 100000 in
set_option maxHeartbeats 20000000 in
theorem fo_5 (w : World) : Calls Try.prog 15 #[.int .u8 5] w (FoPost w 6 0 [⟨6, 5, 0⟩]) := by
  go_enter Try.func15, Try.ntmps15
  go_wp2
  go_returns
  refine ⟨rfl, ?_, ?_⟩
  · have h := frow_new (w.alloc (.cells #[.int .i8 6, .int .u8 0, .slice (some ⟨w.heap.size + 1, 0, none⟩) 1 1] 50)) 54 #[.int .u8 6, .int .u8 5, .int .u8 0] [⟨6, 5, 0⟩] rfl
    simpa using h
  · refine Below.alloc (Below.alloc (Below.refl _ _) (by simp) _) (by simp) _

set_option maxRecDepth 100000 in
set_option maxHeartbeats 20000000 in
theorem fo_6 (w : World) : Calls Try.prog 15 #[.int .u8 6] w (FoPost w 7 0 [⟨16, 5, 0⟩]) := by
  go_enter Try.func15, Try.ntmps15
  go_wp2
  go_returns
  refine ⟨rfl, ?_, ?_⟩
  · have h := frow_new (w.alloc (.cells #[.int .i8 7, .int .u8 0, .slice (some ⟨w.heap.size + 1, 0, none⟩) 1 1] 50)) 54 #[.int .u8 16, .int .u8 5, .int .u8 0] [⟨16, 5, 0⟩] rfl
    simpa using h
  · refine Below.alloc (Below.alloc (Below.refl _ _) (by simp) _) (by simp) _

set_option maxRecDepth 100000 in
set_option maxHeartbeats 20000000 in
theorem fo_7 (w : World) : Calls Try.prog 15 #[.int .u8 7] w (FoPost w 7 0 [⟨6, 5, 0⟩]) := by
  go_enter Try.func15, Try.ntmps15
  go_wp2
  go_returns
  refine ⟨rfl, ?_, ?_⟩
  · have h := frow_new (w.alloc (.cells #[.int .i8 7, .int .u8 0, .slice (some ⟨w.heap.size + 1, 0, none⟩) 1 1] 50)) 54 #[.int .u8 6, .int .u8 5, .int .u8 0] [⟨6, 5, 0⟩] rfl
    simpa using h
  · refine Below.alloc (Below.alloc (Below.refl _ _) (by simp) _) (by simp) _

set_option maxRecDepth 100000 in
set_option maxHeartbeats 20000000 in
theorem fo_8 (w : World) : Calls Try.prog 15 #[.int .u8 8] w (FoPost w 6 0 [⟨16, 5, 0⟩]) := by
  go_enter Try.func15, Try.ntmps15
  go_wp2
  go_returns
  refine ⟨rfl, ?_, ?_⟩
  · have h := frow_new (w.alloc (.cells #[.int .i8 6, .int .u8 0, .slice (some ⟨w.heap.size + 1, 0, none⟩) 1 1] 50)) 54 #[.int .u8 16, .int .u8 5, .int .u8 0] [⟨16, 5, 0⟩] rfl
    simpa using h
  · refine Below.alloc (Below.alloc (Below.refl _ _) (by simp) _) (by simp) _

set_option maxRecDepth 100000 in
set_option maxHeartbeats 20000000 in
theorem fo_9 (w : World) : Calls Try.prog 15 #[.int .u8 9] w (FoPost w 8 0 [⟨31, 1, 0⟩, ⟨6, 5, 0⟩]) := by
  go_enter Try.func15, Try.ntmps15
  go_wp2
  go_returns
  refine ⟨rfl, ?_, ?_⟩
  · have h := frow_new (w.alloc (.cells #[.int .i8 8, .int .u8 0, .slice (some ⟨w.heap.size + 1, 0, none⟩) 2 2] 50)) 54 #[.int .u8 31, .int .u8 1, .int .u8 0, .int .u8 6, .int .u8 5, .int .u8 0] [⟨31, 1, 0⟩, ⟨6, 5, 0⟩] rfl
    simpa using h
  · refine Below.alloc (Below.alloc (Below.refl _ _) (by simp) _) (by simp) _

set_option maxRecDepth 100000 in
set_option maxHeartbeats 20000000 in
theorem fo_10 (w : World) : Calls Try.prog 15 #[.int .u8 10] w (FoPost w 13 0 [⟨16, 5, 0⟩]) := by
  go_enter Try.func15, Try.ntmps15
  go_wp2
  go_returns
  refine ⟨rfl, ?_, ?_⟩
  · have h := frow_new (w.alloc (.cells #[.int .i8 13, .int .u8 0, .slice (some ⟨w.heap.size + 1, 0, none⟩) 1 1] 50)) 54 #[.int .u8 16, .int .u8 5, .int .u8 0] [⟨16, 5, 0⟩] rfl
    simpa using h
  · refine Below.alloc (Below.alloc (Below.refl _ _) (by simp) _) (by simp) _

set_option maxRecDepth 100000 in
set_option maxHeartbeats 20000000 in
theorem fo_11 (w : World) : Calls Try.prog 15 #[.int .u8 11] w (FoPost w 9 0 [⟨10, 1, 0⟩, ⟨6, 4, 0⟩]) := by
  go_enter Try.func15, Try.ntmps15
  go_wp2
  go_returns
  refine ⟨rfl, ?_, ?_⟩
  · have h := frow_new (w.alloc (.cells #[.int .i8 9, .int .u8 0, .slice (some ⟨w.heap.size + 1, 0, none⟩) 2 2] 50)) 54 #[.int .u8 10, .int .u8 1, .int .u8 0, .int .u8 6, .int .u8 4, .int .u8 0] [⟨10, 1, 0⟩, ⟨6, 4, 0⟩] rfl
    simpa using h
  · refine Below.alloc (Below.alloc (Below.refl _ _) (by simp) _) (by simp) _

set_option maxRecDepth 100000 in
set_option maxHeartbeats 20000000 in
theorem fo_12 (w : World) : Calls Try.prog 15 #[.int .u8 12] w (FoPost w 14 4 [⟨16, 12, 0⟩]) := by
  go_enter Try.func15, Try.ntmps15
  go_wp2
  go_returns
  refine ⟨rfl, ?_, ?_⟩
  · have h := frow_new (w.alloc (.cells #[.int .i8 14, .int .u8 4, .slice (some ⟨w.heap.size + 1, 0, none⟩) 1 1] 50)) 54 #[.int .u8 16, .int .u8 12, .int .u8 0] [⟨16, 12, 0⟩] rfl
    simpa using h
  · refine Below.alloc (Below.alloc (Below.refl _ _) (by simp) _) (by simp) _

set_option maxRecDepth 100000 in
set_option maxHeartbeats 20000000 in
theorem fo_13 (w : World) : Calls Try.prog 15 #[.int .u8 13] w (FoPost w 13 0 [⟨16, 10, 0⟩, ⟨11, 5, 0⟩, ⟨31, 1, 0⟩]) := by
  go_enter Try.func15, Try.ntmps15
  go_wp2
  go_returns
  refine ⟨rfl, ?_, ?_⟩
  · have h := frow_new (w.alloc (.cells #[.int .i8 13, .int .u8 0, .slice (some ⟨w.heap.size + 1, 0, none⟩) 3 3] 50)) 54 #[.int .u8 16, .int .u8 10, .int .u8 0, .int .u8 11, .int .u8 5, .int .u8 0, .int .u8 31, .int .u8 1, .int .u8 0] [⟨16, 10, 0⟩, ⟨11, 5, 0⟩, ⟨31, 1, 0⟩] rfl
    simpa using h
  · refine Below.alloc (Below.alloc (Below.refl _ _) (by simp) _) (by simp) _

set_option maxRecDepth 100000 in
set_option maxHeartbeats 20000000 in
theorem fo_14 (w : World) : Calls Try.prog 15 #[.int .u8 14] w (FoPost w 3 0 [⟨6, 5, 1⟩]) := by
  go_enter Try.func15, Try.ntmps15
  go_wp2
  go_returns
  refine ⟨rfl, ?_, ?_⟩
  · have h := frow_new (w.alloc (.cells #[.int .i8 3, .int .u8 0, .slice (some ⟨w.heap.size + 1, 0, none⟩) 1 1] 50)) 54 #[.int .u8 6, .int .u8 5, .int .u8 1] [⟨6, 5, 1⟩] rfl
    simpa using h
  · refine Below.alloc (Below.alloc (Below.refl _ _) (by simp) _) (by simp) _

set_option maxRecDepth 100000 in
set_option maxHeartbeats 20000000 in
theorem fo_15 (w : World) : Calls Try.prog 15 #[.int .u8 15] w (FoPost w 3 0 [⟨11, 5, 1⟩]) := by
  go_enter Try.func15, Try.ntmps15
  go_wp2
  go_returns
  refine ⟨rfl, ?_, ?_⟩
  · have h := frow_new (w.alloc (.cells #[.int .i8 3, .int .u8 0, .slice (some ⟨w.heap.size + 1, 0, none⟩) 1 1] 50)) 54 #[.int .u8 11, .int .u8 5, .int .u8 1] [⟨11, 5, 1⟩] rfl
    simpa using h
  · refine Below.alloc (Below.alloc (Below.refl _ _) (by simp) _) (by simp) _

set_option maxRecDepth 100000 in
set_option maxHeartbeats 20000000 in
theorem fo_16 (w : World) : Calls Try.prog 15 #[.int .u8 16] w (FoPost w 12 0 [⟨14, 18, 0⟩, ⟨16, 16, 1⟩]) := by
  go_enter Try.func15, Try.ntmps15
  go_wp2
  go_returns
  refine ⟨rfl, ?_, ?_⟩
  · have h := frow_new (w.alloc (.cells #[.int .i8 12, .int .u8 0, .slice (some ⟨w.heap.size + 1, 0, none⟩) 2 2] 50)) 54 #[.int .u8 14, .int .u8 18, .int .u8 0, .int .u8 16, .int .u8 16, .int .u8 1] [⟨14, 18, 0⟩, ⟨16, 16, 1⟩] rfl
    simpa using h
  · refine Below.alloc (Below.alloc (Below.refl _ _) (by simp) _) (by simp) _

set_option maxRecDepth 100000 in
set_option maxHeartbeats 20000000 in
theorem fo_17 (w : World) : Calls Try.prog 15 #[.int .u8 17] w (FoPost w 13 0 [⟨11, 1, 0⟩]) := by
  go_enter Try.func15, Try.ntmps15
  go_wp2
  go_returns
  refine ⟨rfl, ?_, ?_⟩
  · have h := frow_new (w.alloc (.cells #[.int .i8 13, .int .u8 0, .slice (some ⟨w.heap.size + 1, 0, none⟩) 1 1] 50)) 54 #[.int .u8 11, .int .u8 1, .int .u8 0] [⟨11, 1, 0⟩] rfl
    simpa using h
  · refine Below.alloc (Below.alloc (Below.refl _ _) (by simp) _) (by simp) _

set_option maxRecDepth 100000 in
set_option maxHeartbeats 20000000 in
theorem fo_18 (w : World) : Calls Try.prog 15 #[.int .u8 18] w (FoPost w 14 0 [⟨14, 18, 0⟩, ⟨16, 16, 1⟩]) := by
  go_enter Try.func15, Try.ntmps15
  go_wp2
  go_returns
  refine ⟨rfl, ?_, ?_⟩
  · have h := frow_new (w.alloc (.cells #[.int .i8 14, .int .u8 0, .slice (some ⟨w.heap.size + 1, 0, none⟩) 2 2] 50)) 54 #[.int .u8 14, .int .u8 18, .int .u8 0, .int .u8 16, .int .u8 16, .int .u8 1] [⟨14, 18, 0⟩, ⟨16, 16, 1⟩] rfl
    simpa using h
  · refine Below.alloc (Below.alloc (Below.refl _ _) (by simp) _) (by simp) _

set_option maxRecDepth 100000 in
set_option maxHeartbeats 20000000 in
theorem fo_19 (w : World) : Calls Try.prog 15 #[.int .u8 19] w (FoPost w 6 0 [⟨6, 5, 1⟩]) := by
  go_enter Try.func15, Try.ntmps15
  go_wp2
  go_returns
  refine ⟨rfl, ?_, ?_⟩
  · have h := frow_new (w.alloc (.cells #[.int .i8 6, .int .u8 0, .slice (some ⟨w.heap.size + 1, 0, none⟩) 1 1] 50)) 54 #[.int .u8 6, .int .u8 5, .int .u8 1] [⟨6, 5, 1⟩] rfl
    simpa using h
  · refine Below.alloc (Below.alloc (Below.refl _ _) (by simp) _) (by simp) _

set_option maxRecDepth 100000 in
set_option maxHeartbeats 20000000 in
theorem fo_20 (w : World) : Calls Try.prog 15 #[.int .u8 20] w (FoPost w 7 0 [⟨6, 5, 1⟩]) := by
  go_enter Try.func15, Try.ntmps15
  go_wp2
  go_returns
  refine ⟨rfl, ?_, ?_⟩
  · have h := frow_new (w.alloc (.cells #[.int .i8 7, .int .u8 0, .slice (some ⟨w.heap.size + 1, 0, none⟩) 1 1] 50)) 54 #[.int .u8 6, .int .u8 5, .int .u8 1] [⟨6, 5, 1⟩] rfl
    simpa using h
  · refine Below.alloc (Below.alloc (Below.refl _ _) (by simp) _) (by simp) _

set_option maxRecDepth 100000 in
set_option maxHeartbeats 20000000 in
theorem fo_21 (w : World) : Calls Try.prog 15 #[.int .u8 21] w (FoPost w 8 0 [⟨5, 1, 1⟩, ⟨6, 5, 1⟩]) := by
  go_enter Try.func15, Try.ntmps15
  go_wp2
  go_returns
  refine ⟨rfl, ?_, ?_⟩
  · have h := frow_new (w.alloc (.cells #[.int .i8 8, .int .u8 0, .slice (some ⟨w.heap.size + 1, 0, none⟩) 2 2] 50)) 54 #[.int .u8 5, .int .u8 1, .int .u8 1, .int .u8 6, .int .u8 5, .int .u8 1] [⟨5, 1, 1⟩, ⟨6, 5, 1⟩] rfl
    simpa using h
  · refine Below.alloc (Below.alloc (Below.refl _ _) (by simp) _) (by simp) _

set_option maxRecDepth 100000 in
set_option maxHeartbeats 20000000 in
theorem fo_22 (w : World) : Calls Try.prog 15 #[.int .u8 22] w (FoPost w 9 0 [⟨10, 1, 1⟩, ⟨6, 4, 1⟩]) := by
  go_enter Try.func15, Try.ntmps15
  go_wp2
  go_returns
  refine ⟨rfl, ?_, ?_⟩
  · have h := frow_new (w.alloc (.cells #[.int .i8 9, .int .u8 0, .slice (some ⟨w.heap.size + 1, 0, none⟩) 2 2] 50)) 54 #[.int .u8 10, .int .u8 1, .int .u8 1, .int .u8 6, .int .u8 4, .int .u8 1] [⟨10, 1, 1⟩, ⟨6, 4, 1⟩] rfl
    simpa using h
  · refine Below.alloc (Below.alloc (Below.refl _ _) (by simp) _) (by simp) _

set_option maxRecDepth 100000 in
set_option maxHeartbeats 20000000 in
theorem fo_23 (w : World) : Calls Try.prog 15 #[.int .u8 23] w (FoPost w 10 0 [⟨6, 3, 1⟩]) := by
  go_enter Try.func15, Try.ntmps15
  go_wp2
  go_returns
  refine ⟨rfl, ?_, ?_⟩
  · have h := frow_new (w.alloc (.cells #[.int .i8 10, .int .u8 0, .slice (some ⟨w.heap.size + 1, 0, none⟩) 1 1] 50)) 54 #[.int .u8 6, .int .u8 3, .int .u8 1] [⟨6, 3, 1⟩] rfl
    simpa using h
  · refine Below.alloc (Below.alloc (Below.refl _ _) (by simp) _) (by simp) _

set_option maxRecDepth 100000 in
set_option maxHeartbeats 20000000 in
theorem fo_24 (w : World) : Calls Try.prog 15 #[.int .u8 24] w (FoPost w 8 0 [⟨29, 1, 1⟩, ⟨11, 5, 1⟩]) := by
  go_enter Try.func15, Try.ntmps15
  go_wp2
  go_returns
  refine ⟨rfl, ?_, ?_⟩
  · have h := frow_new (w.alloc (.cells #[.int .i8 8, .int .u8 0, .slice (some ⟨w.heap.size + 1, 0, none⟩) 2 2] 50)) 54 #[.int .u8 29, .int .u8 1, .int .u8 1, .int .u8 11, .int .u8 5, .int .u8 1] [⟨29, 1, 1⟩, ⟨11, 5, 1⟩] rfl
    simpa using h
  · refine Below.alloc (Below.alloc (Below.refl _ _) (by simp) _) (by simp) _

set_option maxRecDepth 100000 in
set_option maxHeartbeats 20000000 in
theorem fo_25 (w : World) : Calls Try.prog 15 #[.int .u8 25] w (FoPost w 8 0 [⟨30, 1, 1⟩, ⟨16, 5, 1⟩]) := by
  go_enter Try.func15, Try.ntmps15
  go_wp2
  go_returns
  refine ⟨rfl, ?_, ?_⟩
  · have h := frow_new (w.alloc (.cells #[.int .i8 8, .int .u8 0, .slice (some ⟨w.heap.size + 1, 0, none⟩) 2 2] 50)) 54 #[.int .u8 30, .int .u8 1, .int .u8 1, .int .u8 16, .int .u8 5, .int .u8 1] [⟨30, 1, 1⟩, ⟨16, 5, 1⟩] rfl
    simpa using h
  · refine Below.alloc (Below.alloc (Below.refl _ _) (by simp) _) (by simp) _

set_option maxRecDepth 100000 in
set_option maxHeartbeats 20000000 in
theorem fo_26 (w : World) : Calls Try.prog 15 #[.int .u8 26] w (FoPost w 13 0 [⟨24, 4, 0⟩]) := by
  go_enter Try.func15, Try.ntmps15
  go_wp2
  go_returns
  refine ⟨rfl, ?_, ?_⟩
  · have h := frow_new (w.alloc (.cells #[.int .i8 13, .int .u8 0, .slice (some ⟨w.heap.size + 1, 0, none⟩) 1 1] 50)) 54 #[.int .u8 24, .int .u8 4, .int .u8 0] [⟨24, 4, 0⟩] rfl
    simpa using h
  · refine Below.alloc (Below.alloc (Below.refl _ _) (by simp) _) (by simp) _

set_option maxRecDepth 100000 in
set_option maxHeartbeats 20000000 in
theorem fo_27 (w : World) : Calls Try.prog 15 #[.int .u8 27] w (FoPost w 13 0 [⟨28, 4, 0⟩]) := by
  go_enter Try.func15, Try.ntmps15
  go_wp2
  go_returns
  refine ⟨rfl, ?_, ?_⟩
  · have h := frow_new (w.alloc (.cells #[.int .i8 13, .int .u8 0, .slice (some ⟨w.heap.size + 1, 0, none⟩) 1 1] 50)) 54 #[.int .u8 28, .int .u8 4, .int .u8 0] [⟨28, 4, 0⟩] rfl
    simpa using h
  · refine Below.alloc (Below.alloc (Below.refl _ _) (by simp) _) (by simp) _

set_option maxRecDepth 100000 in
set_option maxHeartbeats 20000000 in
theorem fo_28 (w : World) : Calls Try.prog 15 #[.int .u8 28] w (FoPost w 13 0 [⟨16, 2, 0⟩]) := by
  go_enter Try.func15, Try.ntmps15
  go_wp2
  go_returns
  refine ⟨rfl, ?_, ?_⟩
  · have h := frow_new (w.alloc (.cells #[.int .i8 13, .int .u8 0, .slice (some ⟨w.heap.size + 1, 0, none⟩) 1 1] 50)) 54 #[.int .u8 16, .int .u8 2, .int .u8 0] [⟨16, 2, 0⟩] rfl
    simpa using h
  · refine Below.alloc (Below.alloc (Below.refl _ _) (by simp) _) (by simp) _

set_option maxRecDepth 100000 in
set_option maxHeartbeats 20000000 in
theorem fo_29 (w : World) : Calls Try.prog 15 #[.int .u8 29] w (FoPost w 13 0 [⟨28, 2, 0⟩]) := by
  go_enter Try.func15, Try.ntmps15
  go_wp2
  go_returns
  refine ⟨rfl, ?_, ?_⟩
  · have h := frow_new (w.alloc (.cells #[.int .i8 13, .int .u8 0, .slice (some ⟨w.heap.size + 1, 0, none⟩) 1 1] 50)) 54 #[.int .u8 28, .int .u8 2, .int .u8 0] [⟨28, 2, 0⟩] rfl
    simpa using h
  · refine Below.alloc (Below.alloc (Below.refl _ _) (by simp) _) (by simp) _

set_option maxRecDepth 100000 in
set_option maxHeartbeats 20000000 in
theorem fo_30 (w : World) : Calls Try.prog 15 #[.int .u8 30] w (FoPost w 13 0 [⟨16, 8, 0⟩]) := by
  go_enter Try.func15, Try.ntmps15
  go_wp2
  go_returns
  refine ⟨rfl, ?_, ?_⟩
  · have h := frow_new (w.alloc (.cells #[.int .i8 13, .int .u8 0, .slice (some ⟨w.heap.size + 1, 0, none⟩) 1 1] 50)) 54 #[.int .u8 16, .int .u8 8, .int .u8 0] [⟨16, 8, 0⟩] rfl
    simpa using h
  · refine Below.alloc (Below.alloc (Below.refl _ _) (by simp) _) (by simp) _

set_option maxRecDepth 100000 in
set_option maxHeartbeats 20000000 in
theorem fo_31 (w : World) : Calls Try.prog 15 #[.int .u8 31] w (FoPost w 13 0 [⟨16, 4, 0⟩]) := by
  go_enter Try.func15, Try.ntmps15
  go_wp2
  go_returns
  refine ⟨rfl, ?_, ?_⟩
  · have h := frow_new (w.alloc (.cells #[.int .i8 13, .int .u8 0, .slice (some ⟨w.heap.size + 1, 0, none⟩) 1 1] 50)) 54 #[.int .u8 16, .int .u8 4, .int .u8 0] [⟨16, 4, 0⟩] rfl
    simpa using h
  · refine Below.alloc (Below.alloc (Below.refl _ _) (by simp) _) (by simp) _

set_option maxRecDepth 100000 in
set_option maxHeartbeats 20000000 in
theorem fo_32 (w : World) : Calls Try.prog 15 #[.int .u8 32] w (FoPost w 4 0 [⟨11, 5, 0⟩]) := by
  go_enter Try.func15, Try.ntmps15
  go_wp2
  go_returns
  refine ⟨rfl, ?_, ?_⟩
  · have h := frow_new (w.alloc (.cells #[.int .i8 4, .int .u8 0, .slice (some ⟨w.heap.size + 1, 0, none⟩) 1 1] 50)) 54 #[.int .u8 11, .int .u8 5, .int .u8 0] [⟨11, 5, 0⟩] rfl
    simpa using h
  · refine Below.alloc (Below.alloc (Below.refl _ _) (by simp) _) (by simp) _

set_option maxRecDepth 100000 in
set_option maxHeartbeats 20000000 in
theorem fo_33 (w : World) : Calls Try.prog 15 #[.int .u8 33] w (FoPost w 7 0 [⟨11, 5, 0⟩]) := by
  go_enter Try.func15, Try.ntmps15
  go_wp2
  go_returns
  refine ⟨rfl, ?_, ?_⟩
  · have h := frow_new (w.alloc (.cells #[.int .i8 7, .int .u8 0, .slice (some ⟨w.heap.size + 1, 0, none⟩) 1 1] 50)) 54 #[.int .u8 11, .int .u8 5, .int .u8 0] [⟨11, 5, 0⟩] rfl
    simpa using h
  · refine Below.alloc (Below.alloc (Below.refl _ _) (by simp) _) (by simp) _

set_option maxRecDepth 100000 in
set_option maxHeartbeats 20000000 in
theorem fo_34 (w : World) : Calls Try.prog 15 #[.int .u8 34] w (FoPost w 5 0 [⟨6, 3, 0⟩]) := by
  go_enter Try.func15, Try.ntmps15
  go_wp2
  go_returns
  refine ⟨rfl, ?_, ?_⟩
  · have h := frow_new (w.alloc (.cells #[.int .i8 5, .int .u8 0, .slice (some ⟨w.heap.size + 1, 0, none⟩) 1 1] 50)) 54 #[.int .u8 6, .int .u8 3, .int .u8 0] [⟨6, 3, 0⟩] rfl
    simpa using h
  · refine Below.alloc (Below.alloc (Below.refl _ _) (by simp) _) (by simp) _

set_option maxRecDepth 100000 in
set_option maxHeartbeats 20000000 in
theorem fo_35 (w : World) : Calls Try.prog 15 #[.int .u8 35] w (FoPost w 13 0 [⟨15, 1, 0⟩]) := by
  go_enter Try.func15, Try.ntmps15
  go_wp2
  go_returns
  refine ⟨rfl, ?_, ?_⟩
  · have h := frow_new (w.alloc (.cells #[.int .i8 13, .int .u8 0, .slice (some ⟨w.heap.size + 1, 0, none⟩) 1 1] 50)) 54 #[.int .u8 15, .int .u8 1, .int .u8 0] [⟨15, 1, 0⟩] rfl
    simpa using h
  · refine Below.alloc (Below.alloc (Below.refl _ _) (by simp) _) (by simp) _

set_option maxRecDepth 100000 in
set_option maxHeartbeats 20000000 in
theorem fo_36 (w : World) : Calls Try.prog 15 #[.int .u8 36] w (FoPost w 3 0 [⟨21, 5, 0⟩]) := by
  go_enter Try.func15, Try.ntmps15
  go_wp2
  go_returns
  refine ⟨rfl, ?_, ?_⟩
  · have h := frow_new (w.alloc (.cells #[.int .i8 3, .int .u8 0, .slice (some ⟨w.heap.size + 1, 0, none⟩) 1 1] 50)) 54 #[.int .u8 21, .int .u8 5, .int .u8 0] [⟨21, 5, 0⟩] rfl
    simpa using h
  · refine Below.alloc (Below.alloc (Below.refl _ _) (by simp) _) (by simp) _

set_option maxRecDepth 100000 in
set_option maxHeartbeats 20000000 in
theorem fo_37 (w : World) : Calls Try.prog 15 #[.int .u8 37] w (FoPost w 13 0 [⟨13, 3, 0⟩]) := by
  go_enter Try.func15, Try.ntmps15
  go_wp2
  go_returns
  refine ⟨rfl, ?_, ?_⟩
  · have h := frow_new (w.alloc (.cells #[.int .i8 13, .int .u8 0, .slice (some ⟨w.heap.size + 1, 0, none⟩) 1 1] 50)) 54 #[.int .u8 13, .int .u8 3, .int .u8 0] [⟨13, 3, 0⟩] rfl
    simpa using h
  · refine Below.alloc (Below.alloc (Below.refl _ _) (by simp) _) (by simp) _

set_option maxRecDepth 100000 in
set_option maxHeartbeats 20000000 in
theorem fo_38 (w : World) : Calls Try.prog 15 #[.int .u8 38] w (FoPost w 13 0 [⟨12, 4, 0⟩]) := by
  go_enter Try.func15, Try.ntmps15
  go_wp2
  go_returns
  refine ⟨rfl, ?_, ?_⟩
  · have h := frow_new (w.alloc (.cells #[.int .i8 13, .int .u8 0, .slice (some ⟨w.heap.size + 1, 0, none⟩) 1 1] 50)) 54 #[.int .u8 12, .int .u8 4, .int .u8 0] [⟨12, 4, 0⟩] rfl
    simpa using h
  · refine Below.alloc (Below.alloc (Below.refl _ _) (by simp) _) (by simp) _

set_option maxRecDepth 100000 in
set_option maxHeartbeats 20000000 in
theorem fo_39 (w : World) : Calls Try.prog 15 #[.int .u8 39] w (FoPost w 7 0 [⟨21, 5, 0⟩]) := by
  go_enter Try.func15, Try.ntmps15
  go_wp2
  go_returns
  refine ⟨rfl, ?_, ?_⟩
  · have h := frow_new (w.alloc (.cells #[.int .i8 7, .int .u8 0, .slice (some ⟨w.heap.size + 1, 0, none⟩) 1 1] 50)) 54 #[.int .u8 21, .int .u8 5, .int .u8 0] [⟨21, 5, 0⟩] rfl
    simpa using h
  · refine Below.alloc (Below.alloc (Below.refl _ _) (by simp) _) (by simp) _

set_option maxRecDepth 100000 in
set_option maxHeartbeats 20000000 in
theorem fo_40 (w : World) : Calls Try.prog 15 #[.int .u8 40] w (FoPost w 13 0 [⟨23, 3, 0⟩]) := by
  go_enter Try.func15, Try.ntmps15
  go_wp2
  go_returns
  refine ⟨rfl, ?_, ?_⟩
  · have h := frow_new (w.alloc (.cells #[.int .i8 13, .int .u8 0, .slice (some ⟨w.heap.size + 1, 0, none⟩) 1 1] 50)) 54 #[.int .u8 23, .int .u8 3, .int .u8 0] [⟨23, 3, 0⟩] rfl
    simpa using h
  · refine Below.alloc (Below.alloc (Below.refl _ _) (by simp) _) (by simp) _

end Go.Proofs.Ytbnkahigfgfpcaa
