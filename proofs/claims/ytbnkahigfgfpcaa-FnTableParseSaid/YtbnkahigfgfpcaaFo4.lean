/- The table of fields, part 4. -/
import Derived.Test.YtbnkahigfgfpcaaFo
import Derived.WalkKit
import Derived.WalkSpells
import Derived.WalkLawsBesides
import Derived.Below
import Derived.Laws.Pointers
import Derived.OwnWalk
import Derived.Handy
import Derived.Lib.Hide
namespace Go.Proofs.Ytbnkahigfgfpcaa
open Go.RowKit

set_option maxRecDepth 100000 in
set_option maxHeartbeats 20000000 in
theorem fo_86 (w : World) : Calls Try.prog 15 #[.int .u8 86] w (FoPost w 13 0 [⟨20, 7, 0⟩]) := by
  go_enter Try.func15, Try.ntmps15
  go_wp2
  go_returns
  refine ⟨rfl, ?_, ?_⟩
  · have h := frow_new (w.alloc (.cells #[.int .i8 13, .int .u8 0, .slice (some ⟨w.heap.size + 1, 0, none⟩) 1 1] 50)) 54 #[.int .u8 20, .int .u8 7, .int .u8 0] [⟨20, 7, 0⟩] rfl
    simpa using h
  · refine Below.alloc (Below.alloc (Below.refl _ _) (by simp) _) (by simp) _

set_option maxRecDepth 100000 in
set_option maxHeartbeats 20000000 in
theorem fo_87 (w : World) : Calls Try.prog 15 #[.int .u8 87] w (FoPost w 13 0 [⟨8, 3, 0⟩]) := by
  go_enter Try.func15, Try.ntmps15
  go_wp2
  go_returns
  refine ⟨rfl, ?_, ?_⟩
  · have h := frow_new (w.alloc (.cells #[.int .i8 13, .int .u8 0, .slice (some ⟨w.heap.size + 1, 0, none⟩) 1 1] 50)) 54 #[.int .u8 8, .int .u8 3, .int .u8 0] [⟨8, 3, 0⟩] rfl
    simpa using h
  · refine Below.alloc (Below.alloc (Below.refl _ _) (by simp) _) (by simp) _

set_option maxRecDepth 100000 in
set_option maxHeartbeats 20000000 in
theorem fo_88 (w : World) : Calls Try.prog 15 #[.int .u8 88] w (FoPost w 6 0 [⟨21, 5, 0⟩]) := by
  go_enter Try.func15, Try.ntmps15
  go_wp2
  go_returns
  refine ⟨rfl, ?_, ?_⟩
  · have h := frow_new (w.alloc (.cells #[.int .i8 6, .int .u8 0, .slice (some ⟨w.heap.size + 1, 0, none⟩) 1 1] 50)) 54 #[.int .u8 21, .int .u8 5, .int .u8 0] [⟨21, 5, 0⟩] rfl
    simpa using h
  · refine Below.alloc (Below.alloc (Below.refl _ _) (by simp) _) (by simp) _

set_option maxRecDepth 100000 in
set_option maxHeartbeats 20000000 in
theorem fo_89 (w : World) : Calls Try.prog 15 #[.int .u8 89] w (FoPost w 11 0 [⟨16, 5, 0⟩, ⟨11, 5, 0⟩]) := by
  go_enter Try.func15, Try.ntmps15
  go_wp2
  go_returns
  refine ⟨rfl, ?_, ?_⟩
  · have h := frow_new (w.alloc (.cells #[.int .i8 11, .int .u8 0, .slice (some ⟨w.heap.size + 1, 0, none⟩) 2 2] 50)) 54 #[.int .u8 16, .int .u8 5, .int .u8 0, .int .u8 11, .int .u8 5, .int .u8 0] [⟨16, 5, 0⟩, ⟨11, 5, 0⟩] rfl
    simpa using h
  · refine Below.alloc (Below.alloc (Below.refl _ _) (by simp) _) (by simp) _

set_option maxRecDepth 100000 in
set_option maxHeartbeats 20000000 in
theorem fo_90 (w : World) : Calls Try.prog 15 #[.int .u8 90] w (FoPost w 13 0 [⟨26, 1, 0⟩, ⟨21, 5, 0⟩]) := by
  go_enter Try.func15, Try.ntmps15
  go_wp2
  go_returns
  refine ⟨rfl, ?_, ?_⟩
  · have h := frow_new (w.alloc (.cells #[.int .i8 13, .int .u8 0, .slice (some ⟨w.heap.size + 1, 0, none⟩) 2 2] 50)) 54 #[.int .u8 26, .int .u8 1, .int .u8 0, .int .u8 21, .int .u8 5, .int .u8 0] [⟨26, 1, 0⟩, ⟨21, 5, 0⟩] rfl
    simpa using h
  · refine Below.alloc (Below.alloc (Below.refl _ _) (by simp) _) (by simp) _

set_option maxRecDepth 100000 in
set_option maxHeartbeats 20000000 in
theorem fo_91 (w : World) : Calls Try.prog 15 #[.int .u8 91] w (FoPost w 12 0 [⟨16, 16, 0⟩]) := by
  go_enter Try.func15, Try.ntmps15
  go_wp2
  go_returns
  refine ⟨rfl, ?_, ?_⟩
  · have h := frow_new (w.alloc (.cells #[.int .i8 12, .int .u8 0, .slice (some ⟨w.heap.size + 1, 0, none⟩) 1 1] 50)) 54 #[.int .u8 16, .int .u8 16, .int .u8 0] [⟨16, 16, 0⟩] rfl
    simpa using h
  · refine Below.alloc (Below.alloc (Below.refl _ _) (by simp) _) (by simp) _

set_option maxRecDepth 100000 in
set_option maxHeartbeats 20000000 in
theorem fo_92 (w : World) : Calls Try.prog 15 #[.int .u8 92] w (FoPost w 13 0 [⟨16, 16, 0⟩]) := by
  go_enter Try.func15, Try.ntmps15
  go_wp2
  go_returns
  refine ⟨rfl, ?_, ?_⟩
  · have h := frow_new (w.alloc (.cells #[.int .i8 13, .int .u8 0, .slice (some ⟨w.heap.size + 1, 0, none⟩) 1 1] 50)) 54 #[.int .u8 16, .int .u8 16, .int .u8 0] [⟨16, 16, 0⟩] rfl
    simpa using h
  · refine Below.alloc (Below.alloc (Below.refl _ _) (by simp) _) (by simp) _

set_option maxRecDepth 100000 in
set_option maxHeartbeats 20000000 in
theorem fo_93 (w : World) : Calls Try.prog 15 #[.int .u8 93] w (FoPost w 1 2 [⟨6, 24, 0⟩]) := by
  go_enter Try.func15, Try.ntmps15
  go_wp2
  go_returns
  refine ⟨rfl, ?_, ?_⟩
  · have h := frow_new (w.alloc (.cells #[.int .i8 1, .int .u8 2, .slice (some ⟨w.heap.size + 1, 0, none⟩) 1 1] 50)) 54 #[.int .u8 6, .int .u8 24, .int .u8 0] [⟨6, 24, 0⟩] rfl
    simpa using h
  · refine Below.alloc (Below.alloc (Below.refl _ _) (by simp) _) (by simp) _

set_option maxRecDepth 100000 in
set_option maxHeartbeats 20000000 in
theorem fo_94 (w : World) : Calls Try.prog 15 #[.int .u8 94] w (FoPost w 2 2 [⟨6, 24, 0⟩]) := by
  go_enter Try.func15, Try.ntmps15
  go_wp2
  go_returns
  refine ⟨rfl, ?_, ?_⟩
  · have h := frow_new (w.alloc (.cells #[.int .i8 2, .int .u8 2, .slice (some ⟨w.heap.size + 1, 0, none⟩) 1 1] 50)) 54 #[.int .u8 6, .int .u8 24, .int .u8 0] [⟨6, 24, 0⟩] rfl
    simpa using h
  · refine Below.alloc (Below.alloc (Below.refl _ _) (by simp) _) (by simp) _

set_option maxRecDepth 100000 in
set_option maxHeartbeats 20000000 in
theorem fo_95 (w : World) : Calls Try.prog 15 #[.int .u8 95] w (FoPost w 1 2 [⟨16, 14, 0⟩]) := by
  go_enter Try.func15, Try.ntmps15
  go_wp2
  go_returns
  refine ⟨rfl, ?_, ?_⟩
  · have h := frow_new (w.alloc (.cells #[.int .i8 1, .int .u8 2, .slice (some ⟨w.heap.size + 1, 0, none⟩) 1 1] 50)) 54 #[.int .u8 16, .int .u8 14, .int .u8 0] [⟨16, 14, 0⟩] rfl
    simpa using h
  · refine Below.alloc (Below.alloc (Below.refl _ _) (by simp) _) (by simp) _

set_option maxRecDepth 100000 in
set_option maxHeartbeats 20000000 in
theorem fo_96 (w : World) : Calls Try.prog 15 #[.int .u8 96] w (FoPost w 2 2 [⟨16, 14, 0⟩]) := by
  go_enter Try.func15, Try.ntmps15
  go_wp2
  go_returns
  refine ⟨rfl, ?_, ?_⟩
  · have h := frow_new (w.alloc (.cells #[.int .i8 2, .int .u8 2, .slice (some ⟨w.heap.size + 1, 0, none⟩) 1 1] 50)) 54 #[.int .u8 16, .int .u8 14, .int .u8 0] [⟨16, 14, 0⟩] rfl
    simpa using h
  · refine Below.alloc (Below.alloc (Below.refl _ _) (by simp) _) (by simp) _

set_option maxRecDepth 100000 in
set_option maxHeartbeats 20000000 in
theorem fo_97 (w : World) : Calls Try.prog 15 #[.int .u8 97] w (FoPost w 4 0 [⟨6, 5, 0⟩]) := by
  go_enter Try.func15, Try.ntmps15
  go_wp2
  go_returns
  refine ⟨rfl, ?_, ?_⟩
  · have h := frow_new (w.alloc (.cells #[.int .i8 4, .int .u8 0, .slice (some ⟨w.heap.size + 1, 0, none⟩) 1 1] 50)) 54 #[.int .u8 6, .int .u8 5, .int .u8 0] [⟨6, 5, 0⟩] rfl
    simpa using h
  · refine Below.alloc (Below.alloc (Below.refl _ _) (by simp) _) (by simp) _

set_option maxRecDepth 100000 in
set_option maxHeartbeats 20000000 in
theorem fo_98 (w : World) : Calls Try.prog 15 #[.int .u8 98] w (FoPost w 4 0 [⟨16, 5, 0⟩]) := by
  go_enter Try.func15, Try.ntmps15
  go_wp2
  go_returns
  refine ⟨rfl, ?_, ?_⟩
  · have h := frow_new (w.alloc (.cells #[.int .i8 4, .int .u8 0, .slice (some ⟨w.heap.size + 1, 0, none⟩) 1 1] 50)) 54 #[.int .u8 16, .int .u8 5, .int .u8 0] [⟨16, 5, 0⟩] rfl
    simpa using h
  · refine Below.alloc (Below.alloc (Below.refl _ _) (by simp) _) (by simp) _

set_option maxRecDepth 100000 in
set_option maxHeartbeats 20000000 in
theorem fo_99 (w : World) : Calls Try.prog 15 #[.int .u8 99] w (FoPost w 14 0 [⟨16, 16, 0⟩]) := by
  go_enter Try.func15, Try.ntmps15
  go_wp2
  go_returns
  refine ⟨rfl, ?_, ?_⟩
  · have h := frow_new (w.alloc (.cells #[.int .i8 14, .int .u8 0, .slice (some ⟨w.heap.size + 1, 0, none⟩) 1 1] 50)) 54 #[.int .u8 16, .int .u8 16, .int .u8 0] [⟨16, 16, 0⟩] rfl
    simpa using h
  · refine Below.alloc (Below.alloc (Below.refl _ _) (by simp) _) (by simp) _

set_option maxRecDepth 100000 in
set_option maxHeartbeats 20000000 in
theorem fo_100 (w : World) : Calls Try.prog 15 #[.int .u8 100] w (FoPost w 13 0 [⟨7, 8, 0⟩]) := by
  go_enter Try.func15, Try.ntmps15
  go_wp2
  go_returns
  refine ⟨rfl, ?_, ?_⟩
  · have h := frow_new (w.alloc (.cells #[.int .i8 13, .int .u8 0, .slice (some ⟨w.heap.size + 1, 0, none⟩) 1 1] 50)) 54 #[.int .u8 7, .int .u8 8, .int .u8 0] [⟨7, 8, 0⟩] rfl
    simpa using h
  · refine Below.alloc (Below.alloc (Below.refl _ _) (by simp) _) (by simp) _

set_option maxRecDepth 100000 in
set_option maxHeartbeats 20000000 in
theorem fo_101 (w : World) : Calls Try.prog 15 #[.int .u8 101] w (FoPost w 13 0 [⟨6, 1, 0⟩]) := by
  go_enter Try.func15, Try.ntmps15
  go_wp2
  go_returns
  refine ⟨rfl, ?_, ?_⟩
  · have h := frow_new (w.alloc (.cells #[.int .i8 13, .int .u8 0, .slice (some ⟨w.heap.size + 1, 0, none⟩) 1 1] 50)) 54 #[.int .u8 6, .int .u8 1, .int .u8 0] [⟨6, 1, 0⟩] rfl
    simpa using h
  · refine Below.alloc (Below.alloc (Below.refl _ _) (by simp) _) (by simp) _

set_option maxRecDepth 100000 in
set_option maxHeartbeats 20000000 in
theorem fo_102 (w : World) : Calls Try.prog 15 #[.int .u8 102] w (FoPost w 13 0 [⟨6, 3, 0⟩]) := by
  go_enter Try.func15, Try.ntmps15
  go_wp2
  go_returns
  refine ⟨rfl, ?_, ?_⟩
  · have h := frow_new (w.alloc (.cells #[.int .i8 13, .int .u8 0, .slice (some ⟨w.heap.size + 1, 0, none⟩) 1 1] 50)) 54 #[.int .u8 6, .int .u8 3, .int .u8 0] [⟨6, 3, 0⟩] rfl
    simpa using h
  · refine Below.alloc (Below.alloc (Below.refl _ _) (by simp) _) (by simp) _

set_option maxRecDepth 100000 in
set_option maxHeartbeats 20000000 in
theorem fo_103 (w : World) : Calls Try.prog 15 #[.int .u8 103] w (FoPost w 13 0 [⟨21, 5, 0⟩]) := by
  go_enter Try.func15, Try.ntmps15
  go_wp2
  go_returns
  refine ⟨rfl, ?_, ?_⟩
  · have h := frow_new (w.alloc (.cells #[.int .i8 13, .int .u8 0, .slice (some ⟨w.heap.size + 1, 0, none⟩) 1 1] 50)) 54 #[.int .u8 21, .int .u8 5, .int .u8 0] [⟨21, 5, 0⟩] rfl
    simpa using h
  · refine Below.alloc (Below.alloc (Below.refl _ _) (by simp) _) (by simp) _

set_option maxRecDepth 100000 in
set_option maxHeartbeats 20000000 in
theorem fo_104 (w : World) : Calls Try.prog 15 #[.int .u8 104] w (FoPost w 13 0 [⟨26, 5, 0⟩]) := by
  go_enter Try.func15, Try.ntmps15
  go_wp2
  go_returns
  refine ⟨rfl, ?_, ?_⟩
  · have h := frow_new (w.alloc (.cells #[.int .i8 13, .int .u8 0, .slice (some ⟨w.heap.size + 1, 0, none⟩) 1 1] 50)) 54 #[.int .u8 26, .int .u8 5, .int .u8 0] [⟨26, 5, 0⟩] rfl
    simpa using h
  · refine Below.alloc (Below.alloc (Below.refl _ _) (by simp) _) (by simp) _

end Go.Proofs.Ytbnkahigfgfpcaa
