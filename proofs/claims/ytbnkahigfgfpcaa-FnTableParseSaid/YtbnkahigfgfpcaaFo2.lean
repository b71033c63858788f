/- The table of fields, part 2. -/
import Derived.Test.YtbnkahigfgfpcaaFo
import Derived.WalkKit
import Derived.WalkSpells
import Derived.WalkLawsBesides
import Derived.Below
import Derived.Laws.Pointers
import Derived.OwnWalk
import Derived.Handy
import Derived.Lib.Hide
namespace Go.Proofs.Ytbnkahigfgfpcaa
open Go.RowKit

set_option maxRecDepth 100000 in
set_option maxHeartbeats 20000000 in
theorem fo_41 (w : World) : Calls Try.prog 15 #[.int .u8 41] w (FoPost w 10 0 [⟨6, 3, 0⟩]) := by
  go_enter Try.func15, Try.ntmps15
  go_wp2
  go_returns
  refine ⟨rfl, ?_, ?_⟩
  · have h := frow_new (w.alloc (.cells #[.int .i8 10, .int .u8 0, .slice (some ⟨w.heap.size + 1, 0, none⟩) 1 1] 50)) 54 #[.int .u8 6, .int .u8 3, .int .u8 0] [⟨6, 3, 0⟩] rfl
    simpa using h
  · refine Below.alloc (Below.alloc (Below.refl _ _) (by simp) _) (by simp) _

set_option maxRecDepth 100000 in
set_option maxHeartbeats 20000000 in
theorem fo_42 (w : World) : Calls Try.prog 15 #[.int .u8 42] w (FoPost w 8 0 [⟨29, 1, 0⟩, ⟨11, 5, 0⟩]) := by
  go_enter Try.func15, Try.ntmps15
  go_wp2
  go_returns
  refine ⟨rfl, ?_, ?_⟩
  · have h := frow_new (w.alloc (.cells #[.int .i8 8, .int .u8 0, .slice (some ⟨w.heap.size + 1, 0, none⟩) 2 2] 50)) 54 #[.int .u8 29, .int .u8 1, .int .u8 0, .int .u8 11, .int .u8 5, .int .u8 0] [⟨29, 1, 0⟩, ⟨11, 5, 0⟩] rfl
    simpa using h
  · refine Below.alloc (Below.alloc (Below.refl _ _) (by simp) _) (by simp) _

set_option maxRecDepth 100000 in
set_option maxHeartbeats 20000000 in
theorem fo_43 (w : World) : Calls Try.prog 15 #[.int .u8 43] w (FoPost w 8 0 [⟨30, 1, 0⟩, ⟨16, 5, 0⟩]) := by
  go_enter Try.func15, Try.ntmps15
  go_wp2
  go_returns
  refine ⟨rfl, ?_, ?_⟩
  · have h := frow_new (w.alloc (.cells #[.int .i8 8, .int .u8 0, .slice (some ⟨w.heap.size + 1, 0, none⟩) 2 2] 50)) 54 #[.int .u8 30, .int .u8 1, .int .u8 0, .int .u8 16, .int .u8 5, .int .u8 0] [⟨30, 1, 0⟩, ⟨16, 5, 0⟩] rfl
    simpa using h
  · refine Below.alloc (Below.alloc (Below.refl _ _) (by simp) _) (by simp) _

set_option maxRecDepth 100000 in
set_option maxHeartbeats 20000000 in
theorem fo_44 (w : World) : Calls Try.prog 15 #[.int .u8 44] w (FoPost w 8 0 [⟨31, 1, 1⟩, ⟨6, 5, 1⟩]) := by
  go_enter Try.func15, Try.ntmps15
  go_wp2
  go_returns
  refine ⟨rfl, ?_, ?_⟩
  · have h := frow_new (w.alloc (.cells #[.int .i8 8, .int .u8 0, .slice (some ⟨w.heap.size + 1, 0, none⟩) 2 2] 50)) 54 #[.int .u8 31, .int .u8 1, .int .u8 1, .int .u8 6, .int .u8 5, .int .u8 1] [⟨31, 1, 1⟩, ⟨6, 5, 1⟩] rfl
    simpa using h
  · refine Below.alloc (Below.alloc (Below.refl _ _) (by simp) _) (by simp) _

set_option maxRecDepth 100000 in
set_option maxHeartbeats 20000000 in
theorem fo_45 (w : World) : Calls Try.prog 15 #[.int .u8 45] w (FoPost w 8 0 [⟨28, 1, 1⟩, ⟨21, 5, 1⟩]) := by
  go_enter Try.func15, Try.ntmps15
  go_wp2
  go_returns
  refine ⟨rfl, ?_, ?_⟩
  · have h := frow_new (w.alloc (.cells #[.int .i8 8, .int .u8 0, .slice (some ⟨w.heap.size + 1, 0, none⟩) 2 2] 50)) 54 #[.int .u8 28, .int .u8 1, .int .u8 1, .int .u8 21, .int .u8 5, .int .u8 1] [⟨28, 1, 1⟩, ⟨21, 5, 1⟩] rfl
    simpa using h
  · refine Below.alloc (Below.alloc (Below.refl _ _) (by simp) _) (by simp) _

set_option maxRecDepth 100000 in
set_option maxHeartbeats 20000000 in
theorem fo_46 (w : World) : Calls Try.prog 15 #[.int .u8 46] w (FoPost w 13 0 [⟨24, 8, 0⟩]) := by
  go_enter Try.func15, Try.ntmps15
  go_wp2
  go_returns
  refine ⟨rfl, ?_, ?_⟩
  · have h := frow_new (w.alloc (.cells #[.int .i8 13, .int .u8 0, .slice (some ⟨w.heap.size + 1, 0, none⟩) 1 1] 50)) 54 #[.int .u8 24, .int .u8 8, .int .u8 0] [⟨24, 8, 0⟩] rfl
    simpa using h
  · refine Below.alloc (Below.alloc (Below.refl _ _) (by simp) _) (by simp) _

set_option maxRecDepth 100000 in
set_option maxHeartbeats 20000000 in
theorem fo_47 (w : World) : Calls Try.prog 15 #[.int .u8 47] w (FoPost w 13 0 [⟨11, 5, 0⟩]) := by
  go_enter Try.func15, Try.ntmps15
  go_wp2
  go_returns
  refine ⟨rfl, ?_, ?_⟩
  · have h := frow_new (w.alloc (.cells #[.int .i8 13, .int .u8 0, .slice (some ⟨w.heap.size + 1, 0, none⟩) 1 1] 50)) 54 #[.int .u8 11, .int .u8 5, .int .u8 0] [⟨11, 5, 0⟩] rfl
    simpa using h
  · refine Below.alloc (Below.alloc (Below.refl _ _) (by simp) _) (by simp) _

set_option maxRecDepth 100000 in
set_option maxHeartbeats 20000000 in
theorem fo_48 (w : World) : Calls Try.prog 15 #[.int .u8 48] w (FoPost w 13 0 [⟨29, 3, 0⟩]) := by
  go_enter Try.func15, Try.ntmps15
  go_wp2
  go_returns
  refine ⟨rfl, ?_, ?_⟩
  · have h := frow_new (w.alloc (.cells #[.int .i8 13, .int .u8 0, .slice (some ⟨w.heap.size + 1, 0, none⟩) 1 1] 50)) 54 #[.int .u8 29, .int .u8 3, .int .u8 0] [⟨29, 3, 0⟩] rfl
    simpa using h
  · refine Below.alloc (Below.alloc (Below.refl _ _) (by simp) _) (by simp) _

set_option maxRecDepth 100000 in
set_option maxHeartbeats 20000000 in
theorem fo_49 (w : World) : Calls Try.prog 15 #[.int .u8 49] w (FoPost w 8 0 [⟨15, 1, 1⟩, ⟨6, 5, 1⟩]) := by
  go_enter Try.func15, Try.ntmps15
  go_wp2
  go_returns
  refine ⟨rfl, ?_, ?_⟩
  · have h := frow_new (w.alloc (.cells #[.int .i8 8, .int .u8 0, .slice (some ⟨w.heap.size + 1, 0, none⟩) 2 2] 50)) 54 #[.int .u8 15, .int .u8 1, .int .u8 1, .int .u8 6, .int .u8 5, .int .u8 1] [⟨15, 1, 1⟩, ⟨6, 5, 1⟩] rfl
    simpa using h
  · refine Below.alloc (Below.alloc (Below.refl _ _) (by simp) _) (by simp) _

set_option maxRecDepth 100000 in
set_option maxHeartbeats 20000000 in
theorem fo_50 (w : World) : Calls Try.prog 15 #[.int .u8 50] w (FoPost w 13 0 [⟨14, 1, 1⟩]) := by
  go_enter Try.func15, Try.ntmps15
  go_wp2
  go_returns
  refine ⟨rfl, ?_, ?_⟩
  · have h := frow_new (w.alloc (.cells #[.int .i8 13, .int .u8 0, .slice (some ⟨w.heap.size + 1, 0, none⟩) 1 1] 50)) 54 #[.int .u8 14, .int .u8 1, .int .u8 1] [⟨14, 1, 1⟩] rfl
    simpa using h
  · refine Below.alloc (Below.alloc (Below.refl _ _) (by simp) _) (by simp) _

set_option maxRecDepth 100000 in
set_option maxHeartbeats 20000000 in
theorem fo_51 (w : World) : Calls Try.prog 15 #[.int .u8 51] w (FoPost w 13 0 [⟨16, 16, 0⟩, ⟨16, 16, 1⟩]) := by
  go_enter Try.func15, Try.ntmps15
  go_wp2
  go_returns
  refine ⟨rfl, ?_, ?_⟩
  · have h := frow_new (w.alloc (.cells #[.int .i8 13, .int .u8 0, .slice (some ⟨w.heap.size + 1, 0, none⟩) 2 2] 50)) 54 #[.int .u8 16, .int .u8 16, .int .u8 0, .int .u8 16, .int .u8 16, .int .u8 1] [⟨16, 16, 0⟩, ⟨16, 16, 1⟩] rfl
    simpa using h
  · refine Below.alloc (Below.alloc (Below.refl _ _) (by simp) _) (by simp) _

set_option maxRecDepth 100000 in
set_option maxHeartbeats 20000000 in
theorem fo_52 (w : World) : Calls Try.prog 15 #[.int .u8 52] w (FoPost w 13 0 [⟨21, 2, 0⟩]) := by
  go_enter Try.func15, Try.ntmps15
  go_wp2
  go_returns
  refine ⟨rfl, ?_, ?_⟩
  · have h := frow_new (w.alloc (.cells #[.int .i8 13, .int .u8 0, .slice (some ⟨w.heap.size + 1, 0, none⟩) 1 1] 50)) 54 #[.int .u8 21, .int .u8 2, .int .u8 0] [⟨21, 2, 0⟩] rfl
    simpa using h
  · refine Below.alloc (Below.alloc (Below.refl _ _) (by simp) _) (by simp) _

set_option maxRecDepth 100000 in
set_option maxHeartbeats 20000000 in
theorem fo_53 (w : World) : Calls Try.prog 15 #[.int .u8 53] w (FoPost w 13 0 [⟨18, 3, 0⟩]) := by
  go_enter Try.func15, Try.ntmps15
  go_wp2
  go_returns
  refine ⟨rfl, ?_, ?_⟩
  · have h := frow_new (w.alloc (.cells #[.int .i8 13, .int .u8 0, .slice (some ⟨w.heap.size + 1, 0, none⟩) 1 1] 50)) 54 #[.int .u8 18, .int .u8 3, .int .u8 0] [⟨18, 3, 0⟩] rfl
    simpa using h
  · refine Below.alloc (Below.alloc (Below.refl _ _) (by simp) _) (by simp) _

set_option maxRecDepth 100000 in
set_option maxHeartbeats 20000000 in
theorem fo_54 (w : World) : Calls Try.prog 15 #[.int .u8 54] w (FoPost w 13 0 [⟨19, 2, 0⟩]) := by
  go_enter Try.func15, Try.ntmps15
  go_wp2
  go_returns
  refine ⟨rfl, ?_, ?_⟩
  · have h := frow_new (w.alloc (.cells #[.int .i8 13, .int .u8 0, .slice (some ⟨w.heap.size + 1, 0, none⟩) 1 1] 50)) 54 #[.int .u8 19, .int .u8 2, .int .u8 0] [⟨19, 2, 0⟩] rfl
    simpa using h
  · refine Below.alloc (Below.alloc (Below.refl _ _) (by simp) _) (by simp) _

set_option maxRecDepth 100000 in
set_option maxHeartbeats 20000000 in
theorem fo_55 (w : World) : Calls Try.prog 15 #[.int .u8 55] w (FoPost w 12 0 [⟨16, 10, 0⟩, ⟨11, 5, 0⟩, ⟨31, 1, 0⟩]) := by
  go_enter Try.func15, Try.ntmps15
  go_wp2
  go_returns
  refine ⟨rfl, ?_, ?_⟩
  · have h := frow_new (w.alloc (.cells #[.int .i8 12, .int .u8 0, .slice (some ⟨w.heap.size + 1, 0, none⟩) 3 3] 50)) 54 #[.int .u8 16, .int .u8 10, .int .u8 0, .int .u8 11, .int .u8 5, .int .u8 0, .int .u8 31, .int .u8 1, .int .u8 0] [⟨16, 10, 0⟩, ⟨11, 5, 0⟩, ⟨31, 1, 0⟩] rfl
    simpa using h
  · refine Below.alloc (Below.alloc (Below.refl _ _) (by simp) _) (by simp) _

set_option maxRecDepth 100000 in
set_option maxHeartbeats 20000000 in
theorem fo_56 (w : World) : Calls Try.prog 15 #[.int .u8 56] w (FoPost w 13 0 [⟨22, 1, 0⟩]) := by
  go_enter Try.func15, Try.ntmps15
  go_wp2
  go_returns
  refine ⟨rfl, ?_, ?_⟩
  · have h := frow_new (w.alloc (.cells #[.int .i8 13, .int .u8 0, .slice (some ⟨w.heap.size + 1, 0, none⟩) 1 1] 50)) 54 #[.int .u8 22, .int .u8 1, .int .u8 0] [⟨22, 1, 0⟩] rfl
    simpa using h
  · refine Below.alloc (Below.alloc (Below.refl _ _) (by simp) _) (by simp) _

set_option maxRecDepth 100000 in
set_option maxHeartbeats 20000000 in
theorem fo_57 (w : World) : Calls Try.prog 15 #[.int .u8 57] w (FoPost w 13 0 [⟨10, 1, 0⟩]) := by
  go_enter Try.func15, Try.ntmps15
  go_wp2
  go_returns
  refine ⟨rfl, ?_, ?_⟩
  · have h := frow_new (w.alloc (.cells #[.int .i8 13, .int .u8 0, .slice (some ⟨w.heap.size + 1, 0, none⟩) 1 1] 50)) 54 #[.int .u8 10, .int .u8 1, .int .u8 0] [⟨10, 1, 0⟩] rfl
    simpa using h
  · refine Below.alloc (Below.alloc (Below.refl _ _) (by simp) _) (by simp) _

set_option maxRecDepth 100000 in
set_option maxHeartbeats 20000000 in
theorem fo_58 (w : World) : Calls Try.prog 15 #[.int .u8 58] w (FoPost w 13 0 [⟨14, 2, 0⟩]) := by
  go_enter Try.func15, Try.ntmps15
  go_wp2
  go_returns
  refine ⟨rfl, ?_, ?_⟩
  · have h := frow_new (w.alloc (.cells #[.int .i8 13, .int .u8 0, .slice (some ⟨w.heap.size + 1, 0, none⟩) 1 1] 50)) 54 #[.int .u8 14, .int .u8 2, .int .u8 0] [⟨14, 2, 0⟩] rfl
    simpa using h
  · refine Below.alloc (Below.alloc (Below.refl _ _) (by simp) _) (by simp) _

set_option maxRecDepth 100000 in
set_option maxHeartbeats 20000000 in
theorem fo_59 (w : World) : Calls Try.prog 15 #[.int .u8 59] w (FoPost w 13 0 [⟨10, 6, 0⟩]) := by
  go_enter Try.func15, Try.ntmps15
  go_wp2
  go_returns
  refine ⟨rfl, ?_, ?_⟩
  · have h := frow_new (w.alloc (.cells #[.int .i8 13, .int .u8 0, .slice (some ⟨w.heap.size + 1, 0, none⟩) 1 1] 50)) 54 #[.int .u8 10, .int .u8 6, .int .u8 0] [⟨10, 6, 0⟩] rfl
    simpa using h
  · refine Below.alloc (Below.alloc (Below.refl _ _) (by simp) _) (by simp) _

set_option maxRecDepth 100000 in
set_option maxHeartbeats 20000000 in
theorem fo_60 (w : World) : Calls Try.prog 15 #[.int .u8 60] w (FoPost w 13 0 [⟨30, 1, 0⟩, ⟨16, 5, 0⟩]) := by
  go_enter Try.func15, Try.ntmps15
  go_wp2
  go_returns
  refine ⟨rfl, ?_, ?_⟩
  · have h := frow_new (w.alloc (.cells #[.int .i8 13, .int .u8 0, .slice (some ⟨w.heap.size + 1, 0, none⟩) 2 2] 50)) 54 #[.int .u8 30, .int .u8 1, .int .u8 0, .int .u8 16, .int .u8 5, .int .u8 0] [⟨30, 1, 0⟩, ⟨16, 5, 0⟩] rfl
    simpa using h
  · refine Below.alloc (Below.alloc (Below.refl _ _) (by simp) _) (by simp) _

set_option maxRecDepth 100000 in
set_option maxHeartbeats 20000000 in
theorem fo_61 (w : World) : Calls Try.prog 15 #[.int .u8 61] w (FoPost w 14 2 [⟨16, 14, 0⟩]) := by
  go_enter Try.func15, Try.ntmps15
  go_wp2
  go_returns
  refine ⟨rfl, ?_, ?_⟩
  · have h := frow_new (w.alloc (.cells #[.int .i8 14, .int .u8 2, .slice (some ⟨w.heap.size + 1, 0, none⟩) 1 1] 50)) 54 #[.int .u8 16, .int .u8 14, .int .u8 0] [⟨16, 14, 0⟩] rfl
    simpa using h
  · refine Below.alloc (Below.alloc (Below.refl _ _) (by simp) _) (by simp) _

set_option maxRecDepth 100000 in
set_option maxHeartbeats 20000000 in
theorem fo_62 (w : World) : Calls Try.prog 15 #[.int .u8 62] w (FoPost w 8 0 [⟨28, 1, 0⟩, ⟨6, 5, 0⟩]) := by
  go_enter Try.func15, Try.ntmps15
  go_wp2
  go_returns
  refine ⟨rfl, ?_, ?_⟩
  · have h := frow_new (w.alloc (.cells #[.int .i8 8, .int .u8 0, .slice (some ⟨w.heap.size + 1, 0, none⟩) 2 2] 50)) 54 #[.int .u8 28, .int .u8 1, .int .u8 0, .int .u8 6, .int .u8 5, .int .u8 0] [⟨28, 1, 0⟩, ⟨6, 5, 0⟩] rfl
    simpa using h
  · refine Below.alloc (Below.alloc (Below.refl _ _) (by simp) _) (by simp) _

set_option maxRecDepth 100000 in
set_option maxHeartbeats 20000000 in
theorem fo_63 (w : World) : Calls Try.prog 15 #[.int .u8 63] w (FoPost w 5 0 [⟨11, 3, 0⟩]) := by
  go_enter Try.func15, Try.ntmps15
  go_wp2
  go_returns
  refine ⟨rfl, ?_, ?_⟩
  · have h := frow_new (w.alloc (.cells #[.int .i8 5, .int .u8 0, .slice (some ⟨w.heap.size + 1, 0, none⟩) 1 1] 50)) 54 #[.int .u8 11, .int .u8 3, .int .u8 0] [⟨11, 3, 0⟩] rfl
    simpa using h
  · refine Below.alloc (Below.alloc (Below.refl _ _) (by simp) _) (by simp) _

set_option maxRecDepth 100000 in
set_option maxHeartbeats 20000000 in
theorem fo_64 (w : World) : Calls Try.prog 15 #[.int .u8 64] w (FoPost w 13 0 [⟨9, 2, 0⟩]) := by
  go_enter Try.func15, Try.ntmps15
  go_wp2
  go_returns
  refine ⟨rfl, ?_, ?_⟩
  · have h := frow_new (w.alloc (.cells #[.int .i8 13, .int .u8 0, .slice (some ⟨w.heap.size + 1, 0, none⟩) 1 1] 50)) 54 #[.int .u8 9, .int .u8 2, .int .u8 0] [⟨9, 2, 0⟩] rfl
    simpa using h
  · refine Below.alloc (Below.alloc (Below.refl _ _) (by simp) _) (by simp) _

end Go.Proofs.Ytbnkahigfgfpcaa
