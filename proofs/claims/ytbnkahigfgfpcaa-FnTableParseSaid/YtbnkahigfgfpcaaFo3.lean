/- The table of fields, part 3. -/
import Derived.Test.YtbnkahigfgfpcaaFo
import Derived.WalkKit
import Derived.WalkSpells
import Derived.WalkLawsBesides
import Derived.Below
import Derived.Laws.Pointers
import Derived.OwnWalk
import Derived.Handy
import Derived.Lib.Hide
namespace Go.Proofs.Ytbnkahigfgfpcaa
open Go.RowKit

set_option maxRecDepth 100000 in
set_option maxHeartbeats 20000000 in
theorem fo_65 (w : World) : Calls Try.prog 15 #[.int .u8 65] w (FoPost w 13 0 [⟨9, 7, 0⟩]) := by
  go_enter Try.func15, Try.ntmps15
  go_wp2
  go_returns
  refine ⟨rfl, ?_, ?_⟩
  · have h := frow_new (w.alloc (.cells #[.int .i8 13, .int .u8 0, .slice (some ⟨w.heap.size + 1, 0, none⟩) 1 1] 50)) 54 #[.int .u8 9, .int .u8 7, .int .u8 0] [⟨9, 7, 0⟩] rfl
    simpa using h
  · refine Below.alloc (Below.alloc (Below.refl _ _) (by simp) _) (by simp) _

set_option maxRecDepth 100000 in
set_option maxHeartbeats 20000000 in
theorem fo_66 (w : World) : Calls Try.prog 15 #[.int .u8 66] w (FoPost w 13 0 [⟨25, 1, 0⟩, ⟨29, 1, 0⟩, ⟨11, 5, 0⟩]) := by
  go_enter Try.func15, Try.ntmps15
  go_wp2
  go_returns
  refine ⟨rfl, ?_, ?_⟩
  · have h := frow_new (w.alloc (.cells #[.int .i8 13, .int .u8 0, .slice (some ⟨w.heap.size + 1, 0, none⟩) 3 3] 50)) 54 #[.int .u8 25, .int .u8 1, .int .u8 0, .int .u8 29, .int .u8 1, .int .u8 0, .int .u8 11, .int .u8 5, .int .u8 0] [⟨25, 1, 0⟩, ⟨29, 1, 0⟩, ⟨11, 5, 0⟩] rfl
    simpa using h
  · refine Below.alloc (Below.alloc (Below.refl _ _) (by simp) _) (by simp) _

set_option maxRecDepth 100000 in
set_option maxHeartbeats 20000000 in
theorem fo_67 (w : World) : Calls Try.prog 15 #[.int .u8 67] w (FoPost w 13 0 [⟨13, 8, 0⟩]) := by
  go_enter Try.func15, Try.ntmps15
  go_wp2
  go_returns
  refine ⟨rfl, ?_, ?_⟩
  · have h := frow_new (w.alloc (.cells #[.int .i8 13, .int .u8 0, .slice (some ⟨w.heap.size + 1, 0, none⟩) 1 1] 50)) 54 #[.int .u8 13, .int .u8 8, .int .u8 0] [⟨13, 8, 0⟩] rfl
    simpa using h
  · refine Below.alloc (Below.alloc (Below.refl _ _) (by simp) _) (by simp) _

set_option maxRecDepth 100000 in
set_option maxHeartbeats 20000000 in
theorem fo_68 (w : World) : Calls Try.prog 15 #[.int .u8 68] w (FoPost w 13 0 [⟨6, 5, 0⟩]) := by
  go_enter Try.func15, Try.ntmps15
  go_wp2
  go_returns
  refine ⟨rfl, ?_, ?_⟩
  · have h := frow_new (w.alloc (.cells #[.int .i8 13, .int .u8 0, .slice (some ⟨w.heap.size + 1, 0, none⟩) 1 1] 50)) 54 #[.int .u8 6, .int .u8 5, .int .u8 0] [⟨6, 5, 0⟩] rfl
    simpa using h
  · refine Below.alloc (Below.alloc (Below.refl _ _) (by simp) _) (by simp) _

set_option maxRecDepth 100000 in
set_option maxHeartbeats 20000000 in
theorem fo_69 (w : World) : Calls Try.prog 15 #[.int .u8 69] w (FoPost w 6 0 [⟨11, 5, 0⟩]) := by
  go_enter Try.func15, Try.ntmps15
  go_wp2
  go_returns
  refine ⟨rfl, ?_, ?_⟩
  · have h := frow_new (w.alloc (.cells #[.int .i8 6, .int .u8 0, .slice (some ⟨w.heap.size + 1, 0, none⟩) 1 1] 50)) 54 #[.int .u8 11, .int .u8 5, .int .u8 0] [⟨11, 5, 0⟩] rfl
    simpa using h
  · refine Below.alloc (Below.alloc (Below.refl _ _) (by simp) _) (by simp) _

set_option maxRecDepth 100000 in
set_option maxHeartbeats 20000000 in
theorem fo_70 (w : World) : Calls Try.prog 15 #[.int .u8 70] w (FoPost w 13 0 [⟨7, 4, 0⟩]) := by
  go_enter Try.func15, Try.ntmps15
  go_wp2
  go_returns
  refine ⟨rfl, ?_, ?_⟩
  · have h := frow_new (w.alloc (.cells #[.int .i8 13, .int .u8 0, .slice (some ⟨w.heap.size + 1, 0, none⟩) 1 1] 50)) 54 #[.int .u8 7, .int .u8 4, .int .u8 0] [⟨7, 4, 0⟩] rfl
    simpa using h
  · refine Below.alloc (Below.alloc (Below.refl _ _) (by simp) _) (by simp) _

set_option maxRecDepth 100000 in
set_option maxHeartbeats 20000000 in
theorem fo_71 (w : World) : Calls Try.prog 15 #[.int .u8 71] w (FoPost w 13 0 [⟨31, 1, 0⟩]) := by
  go_enter Try.func15, Try.ntmps15
  go_wp2
  go_returns
  refine ⟨rfl, ?_, ?_⟩
  · have h := frow_new (w.alloc (.cells #[.int .i8 13, .int .u8 0, .slice (some ⟨w.heap.size + 1, 0, none⟩) 1 1] 50)) 54 #[.int .u8 31, .int .u8 1, .int .u8 0] [⟨31, 1, 0⟩] rfl
    simpa using h
  · refine Below.alloc (Below.alloc (Below.refl _ _) (by simp) _) (by simp) _

set_option maxRecDepth 100000 in
set_option maxHeartbeats 20000000 in
theorem fo_72 (w : World) : Calls Try.prog 15 #[.int .u8 72] w (FoPost w 13 0 [⟨11, 10, 0⟩]) := by
  go_enter Try.func15, Try.ntmps15
  go_wp2
  go_returns
  refine ⟨rfl, ?_, ?_⟩
  · have h := frow_new (w.alloc (.cells #[.int .i8 13, .int .u8 0, .slice (some ⟨w.heap.size + 1, 0, none⟩) 1 1] 50)) 54 #[.int .u8 11, .int .u8 10, .int .u8 0] [⟨11, 10, 0⟩] rfl
    simpa using h
  · refine Below.alloc (Below.alloc (Below.refl _ _) (by simp) _) (by simp) _

set_option maxRecDepth 100000 in
set_option maxHeartbeats 20000000 in
theorem fo_73 (w : World) : Calls Try.prog 15 #[.int .u8 73] w (FoPost w 13 0 [⟨20, 1, 0⟩]) := by
  go_enter Try.func15, Try.ntmps15
  go_wp2
  go_returns
  refine ⟨rfl, ?_, ?_⟩
  · have h := frow_new (w.alloc (.cells #[.int .i8 13, .int .u8 0, .slice (some ⟨w.heap.size + 1, 0, none⟩) 1 1] 50)) 54 #[.int .u8 20, .int .u8 1, .int .u8 0] [⟨20, 1, 0⟩] rfl
    simpa using h
  · refine Below.alloc (Below.alloc (Below.refl _ _) (by simp) _) (by simp) _

set_option maxRecDepth 100000 in
set_option maxHeartbeats 20000000 in
theorem fo_74 (w : World) : Calls Try.prog 15 #[.int .u8 74] w (FoPost w 13 0 [⟨16, 1, 0⟩]) := by
  go_enter Try.func15, Try.ntmps15
  go_wp2
  go_returns
  refine ⟨rfl, ?_, ?_⟩
  · have h := frow_new (w.alloc (.cells #[.int .i8 13, .int .u8 0, .slice (some ⟨w.heap.size + 1, 0, none⟩) 1 1] 50)) 54 #[.int .u8 16, .int .u8 1, .int .u8 0] [⟨16, 1, 0⟩] rfl
    simpa using h
  · refine Below.alloc (Below.alloc (Below.refl _ _) (by simp) _) (by simp) _

set_option maxRecDepth 100000 in
set_option maxHeartbeats 20000000 in
theorem fo_75 (w : World) : Calls Try.prog 15 #[.int .u8 75] w (FoPost w 13 0 [⟨17, 4, 0⟩]) := by
  go_enter Try.func15, Try.ntmps15
  go_wp2
  go_returns
  refine ⟨rfl, ?_, ?_⟩
  · have h := frow_new (w.alloc (.cells #[.int .i8 13, .int .u8 0, .slice (some ⟨w.heap.size + 1, 0, none⟩) 1 1] 50)) 54 #[.int .u8 17, .int .u8 4, .int .u8 0] [⟨17, 4, 0⟩] rfl
    simpa using h
  · refine Below.alloc (Below.alloc (Below.refl _ _) (by simp) _) (by simp) _

set_option maxRecDepth 100000 in
set_option maxHeartbeats 20000000 in
theorem fo_76 (w : World) : Calls Try.prog 15 #[.int .u8 76] w (FoPost w 13 0 [⟨22, 2, 0⟩]) := by
  go_enter Try.func15, Try.ntmps15
  go_wp2
  go_returns
  refine ⟨rfl, ?_, ?_⟩
  · have h := frow_new (w.alloc (.cells #[.int .i8 13, .int .u8 0, .slice (some ⟨w.heap.size + 1, 0, none⟩) 1 1] 50)) 54 #[.int .u8 22, .int .u8 2, .int .u8 0] [⟨22, 2, 0⟩] rfl
    simpa using h
  · refine Below.alloc (Below.alloc (Below.refl _ _) (by simp) _) (by simp) _

set_option maxRecDepth 100000 in
set_option maxHeartbeats 20000000 in
theorem fo_77 (w : World) : Calls Try.prog 15 #[.int .u8 77] w (FoPost w 8 0 [⟨28, 1, 0⟩, ⟨21, 5, 0⟩]) := by
  go_enter Try.func15, Try.ntmps15
  go_wp2
  go_returns
  refine ⟨rfl, ?_, ?_⟩
  · have h := frow_new (w.alloc (.cells #[.int .i8 8, .int .u8 0, .slice (some ⟨w.heap.size + 1, 0, none⟩) 2 2] 50)) 54 #[.int .u8 28, .int .u8 1, .int .u8 0, .int .u8 21, .int .u8 5, .int .u8 0] [⟨28, 1, 0⟩, ⟨21, 5, 0⟩] rfl
    simpa using h
  · refine Below.alloc (Below.alloc (Below.refl _ _) (by simp) _) (by simp) _

set_option maxRecDepth 100000 in
set_option maxHeartbeats 20000000 in
theorem fo_78 (w : World) : Calls Try.prog 15 #[.int .u8 78] w (FoPost w 13 0 [⟨11, 2, 0⟩]) := by
  go_enter Try.func15, Try.ntmps15
  go_wp2
  go_returns
  refine ⟨rfl, ?_, ?_⟩
  · have h := frow_new (w.alloc (.cells #[.int .i8 13, .int .u8 0, .slice (some ⟨w.heap.size + 1, 0, none⟩) 1 1] 50)) 54 #[.int .u8 11, .int .u8 2, .int .u8 0] [⟨11, 2, 0⟩] rfl
    simpa using h
  · refine Below.alloc (Below.alloc (Below.refl _ _) (by simp) _) (by simp) _

set_option maxRecDepth 100000 in
set_option maxHeartbeats 20000000 in
theorem fo_79 (w : World) : Calls Try.prog 15 #[.int .u8 79] w (FoPost w 12 0 [⟨11, 5, 0⟩]) := by
  go_enter Try.func15, Try.ntmps15
  go_wp2
  go_returns
  refine ⟨rfl, ?_, ?_⟩
  · have h := frow_new (w.alloc (.cells #[.int .i8 12, .int .u8 0, .slice (some ⟨w.heap.size + 1, 0, none⟩) 1 1] 50)) 54 #[.int .u8 11, .int .u8 5, .int .u8 0] [⟨11, 5, 0⟩] rfl
    simpa using h
  · refine Below.alloc (Below.alloc (Below.refl _ _) (by simp) _) (by simp) _

set_option maxRecDepth 100000 in
set_option maxHeartbeats 20000000 in
theorem fo_80 (w : World) : Calls Try.prog 15 #[.int .u8 80] w (FoPost w 13 0 [⟨16, 6, 0⟩]) := by
  go_enter Try.func15, Try.ntmps15
  go_wp2
  go_returns
  refine ⟨rfl, ?_, ?_⟩
  · have h := frow_new (w.alloc (.cells #[.int .i8 13, .int .u8 0, .slice (some ⟨w.heap.size + 1, 0, none⟩) 1 1] 50)) 54 #[.int .u8 16, .int .u8 6, .int .u8 0] [⟨16, 6, 0⟩] rfl
    simpa using h
  · refine Below.alloc (Below.alloc (Below.refl _ _) (by simp) _) (by simp) _

set_option maxRecDepth 100000 in
set_option maxHeartbeats 20000000 in
theorem fo_81 (w : World) : Calls Try.prog 15 #[.int .u8 81] w (FoPost w 4 0 [⟨21, 5, 0⟩]) := by
  go_enter Try.func15, Try.ntmps15
  go_wp2
  go_returns
  refine ⟨rfl, ?_, ?_⟩
  · have h := frow_new (w.alloc (.cells #[.int .i8 4, .int .u8 0, .slice (some ⟨w.heap.size + 1, 0, none⟩) 1 1] 50)) 54 #[.int .u8 21, .int .u8 5, .int .u8 0] [⟨21, 5, 0⟩] rfl
    simpa using h
  · refine Below.alloc (Below.alloc (Below.refl _ _) (by simp) _) (by simp) _

set_option maxRecDepth 100000 in
set_option maxHeartbeats 20000000 in
theorem fo_82 (w : World) : Calls Try.prog 15 #[.int .u8 82] w (FoPost w 13 0 [⟨12, 2, 0⟩]) := by
  go_enter Try.func15, Try.ntmps15
  go_wp2
  go_returns
  refine ⟨rfl, ?_, ?_⟩
  · have h := frow_new (w.alloc (.cells #[.int .i8 13, .int .u8 0, .slice (some ⟨w.heap.size + 1, 0, none⟩) 1 1] 50)) 54 #[.int .u8 12, .int .u8 2, .int .u8 0] [⟨12, 2, 0⟩] rfl
    simpa using h
  · refine Below.alloc (Below.alloc (Below.refl _ _) (by simp) _) (by simp) _

set_option maxRecDepth 100000 in
set_option maxHeartbeats 20000000 in
theorem fo_83 (w : World) : Calls Try.prog 15 #[.int .u8 83] w (FoPost w 13 0 [⟨14, 1, 0⟩]) := by
  go_enter Try.func15, Try.ntmps15
  go_wp2
  go_returns
  refine ⟨rfl, ?_, ?_⟩
  · have h := frow_new (w.alloc (.cells #[.int .i8 13, .int .u8 0, .slice (some ⟨w.heap.size + 1, 0, none⟩) 1 1] 50)) 54 #[.int .u8 14, .int .u8 1, .int .u8 0] [⟨14, 1, 0⟩] rfl
    simpa using h
  · refine Below.alloc (Below.alloc (Below.refl _ _) (by simp) _) (by simp) _

set_option maxRecDepth 100000 in
set_option maxHeartbeats 20000000 in
theorem fo_84 (w : World) : Calls Try.prog 15 #[.int .u8 84] w (FoPost w 13 0 [⟨22, 4, 0⟩]) := by
  go_enter Try.func15, Try.ntmps15
  go_wp2
  go_returns
  refine ⟨rfl, ?_, ?_⟩
  · have h := frow_new (w.alloc (.cells #[.int .i8 13, .int .u8 0, .slice (some ⟨w.heap.size + 1, 0, none⟩) 1 1] 50)) 54 #[.int .u8 22, .int .u8 4, .int .u8 0] [⟨22, 4, 0⟩] rfl
    simpa using h
  · refine Below.alloc (Below.alloc (Below.refl _ _) (by simp) _) (by simp) _

set_option maxRecDepth 100000 in
set_option maxHeartbeats 20000000 in
theorem fo_85 (w : World) : Calls Try.prog 15 #[.int .u8 85] w (FoPost w 13 0 [⟨12, 8, 0⟩]) := by
  go_enter Try.func15, Try.ntmps15
  go_wp2
  go_returns
  refine ⟨rfl, ?_, ?_⟩
  · have h := frow_new (w.alloc (.cells #[.int .i8 13, .int .u8 0, .slice (some ⟨w.heap.size + 1, 0, none⟩) 1 1] 50)) 54 #[.int .u8 12, .int .u8 8, .int .u8 0] [⟨12, 8, 0⟩] rfl
    simpa using h
  · refine Below.alloc (Below.alloc (Below.refl _ _) (by simp) _) (by simp) _

end Go.Proofs.Ytbnkahigfgfpcaa
