/- The texts of the condition register. -/
import Derived.Test.YtmhlfipgomdiaaaDoorLaid
import Derived.WalkKit
import Derived.WalkSpells
import Derived.WalkLawsBesides
import Derived.Below
import Derived.Laws.Pointers
import Derived.OwnWalk
import Derived.Handy
import Derived.Lib.Hide
import Derived.Test.YtmhlfipgomdiaaaDoorShelf
import Derived.Laws.BitsAllLaws
namespace Go.Proofs.YtmhlfipgomdiaaaDoor
open Go.RowKit

/-- The digits of a number below 100. -/
def dg (k : Nat) : ByteArray := ⟨(Lib.decDigits k).toArray⟩
def ct (n : Nat) : ByteArray := if n < 32 then "Cond".toUTF8 ++ dg (n / 4) ++ (["LT", "GT", "EQ", "SO"].getD (n % 4) "").toUTF8 else "CR".toUTF8 ++ dg (n - 32)
theorem ixl_0 (W : World) : Sem.run Tryd.prog (Instr.index 54 (.agg #[.string ⟨#[76, 84]⟩, .string ⟨#[71, 84]⟩, .string ⟨#[69, 81]⟩, .string ⟨#[83, 79]⟩]) (.int .i8 0)) W = .ok (.string ⟨#[76, 84]⟩) W := by kernel_rfl
theorem ixl_1 (W : World) : Sem.run Tryd.prog (Instr.index 54 (.agg #[.string ⟨#[76, 84]⟩, .string ⟨#[71, 84]⟩, .string ⟨#[69, 81]⟩, .string ⟨#[83, 79]⟩]) (.int .i8 1)) W = .ok (.string ⟨#[71, 84]⟩) W := by kernel_rfl
theorem ixl_2 (W : World) : Sem.run Tryd.prog (Instr.index 54 (.agg #[.string ⟨#[76, 84]⟩, .string ⟨#[71, 84]⟩, .string ⟨#[69, 81]⟩, .string ⟨#[83, 79]⟩]) (.int .i8 2)) W = .ok (.string ⟨#[69, 81]⟩) W := by kernel_rfl
theorem ixl_3 (W : World) : Sem.run Tryd.prog (Instr.index 54 (.agg #[.string ⟨#[76, 84]⟩, .string ⟨#[71, 84]⟩, .string ⟨#[69, 81]⟩, .string ⟨#[83, 79]⟩]) (.int .i8 3)) W = .ok (.string ⟨#[83, 79]⟩) W := by kernel_rfl
theorem ix_0 (W : World) : Sem.run Tryd.prog (Instr.index 54 (.agg #[.string ⟨#[76, 84]⟩, .string ⟨#[71, 84]⟩, .string ⟨#[69, 81]⟩, .string ⟨#[83, 79]⟩]) (.int .i8 ((IntKind.i8.wrap 0).tmod 4))) W = .ok (.string ⟨#[76, 84]⟩) W := by kernel_rfl
theorem ix_1 (W : World) : Sem.run Tryd.prog (Instr.index 54 (.agg #[.string ⟨#[76, 84]⟩, .string ⟨#[71, 84]⟩, .string ⟨#[69, 81]⟩, .string ⟨#[83, 79]⟩]) (.int .i8 ((IntKind.i8.wrap 1).tmod 4))) W = .ok (.string ⟨#[71, 84]⟩) W := by kernel_rfl
theorem ix_2 (W : World) : Sem.run Tryd.prog (Instr.index 54 (.agg #[.string ⟨#[76, 84]⟩, .string ⟨#[71, 84]⟩, .string ⟨#[69, 81]⟩, .string ⟨#[83, 79]⟩]) (.int .i8 ((IntKind.i8.wrap 2).tmod 4))) W = .ok (.string ⟨#[69, 81]⟩) W := by kernel_rfl
theorem ix_3 (W : World) : Sem.run Tryd.prog (Instr.index 54 (.agg #[.string ⟨#[76, 84]⟩, .string ⟨#[71, 84]⟩, .string ⟨#[69, 81]⟩, .string ⟨#[83, 79]⟩]) (.int .i8 ((IntKind.i8.wrap 3).tmod 4))) W = .ok (.string ⟨#[83, 79]⟩) W := by kernel_rfl
theorem ix_4 (W : World) : Sem.run Tryd.prog (Instr.index 54 (.agg #[.string ⟨#[76, 84]⟩, .string ⟨#[71, 84]⟩, .string ⟨#[69, 81]⟩, .string ⟨#[83, 79]⟩]) (.int .i8 ((IntKind.i8.wrap 4).tmod 4))) W = .ok (.string ⟨#[76, 84]⟩) W := by kernel_rfl
theorem ix_5 (W : World) : Sem.run Tryd.prog (Instr.index 54 (.agg #[.string ⟨#[76, 84]⟩, .string ⟨#[71, 84]⟩, .string ⟨#[69, 81]⟩, .string ⟨#[83, 79]⟩]) (.int .i8 ((IntKind.i8.wrap 5).tmod 4))) W = .ok (.string ⟨#[71, 84]⟩) W := by kernel_rfl
theorem ix_6 (W : World) : Sem.run Tryd.prog (Instr.index 54 (.agg #[.string ⟨#[76, 84]⟩, .string ⟨#[71, 84]⟩, .string ⟨#[69, 81]⟩, .string ⟨#[83, 79]⟩]) (.int .i8 ((IntKind.i8.wrap 6).tmod 4))) W = .ok (.string ⟨#[69, 81]⟩) W := by kernel_rfl
theorem ix_7 (W : World) : Sem.run Tryd.prog (Instr.index 54 (.agg #[.string ⟨#[76, 84]⟩, .string ⟨#[71, 84]⟩, .string ⟨#[69, 81]⟩, .string ⟨#[83, 79]⟩]) (.int .i8 ((IntKind.i8.wrap 7).tmod 4))) W = .ok (.string ⟨#[83, 79]⟩) W := by kernel_rfl
theorem ix_8 (W : World) : Sem.run Tryd.prog (Instr.index 54 (.agg #[.string ⟨#[76, 84]⟩, .string ⟨#[71, 84]⟩, .string ⟨#[69, 81]⟩, .string ⟨#[83, 79]⟩]) (.int .i8 ((IntKind.i8.wrap 8).tmod 4))) W = .ok (.string ⟨#[76, 84]⟩) W := by kernel_rfl
theorem ix_9 (W : World) : Sem.run Tryd.prog (Instr.index 54 (.agg #[.string ⟨#[76, 84]⟩, .string ⟨#[71, 84]⟩, .string ⟨#[69, 81]⟩, .string ⟨#[83, 79]⟩]) (.int .i8 ((IntKind.i8.wrap 9).tmod 4))) W = .ok (.string ⟨#[71, 84]⟩) W := by kernel_rfl
theorem ix_10 (W : World) : Sem.run Tryd.prog (Instr.index 54 (.agg #[.string ⟨#[76, 84]⟩, .string ⟨#[71, 84]⟩, .string ⟨#[69, 81]⟩, .string ⟨#[83, 79]⟩]) (.int .i8 ((IntKind.i8.wrap 10).tmod 4))) W = .ok (.string ⟨#[69, 81]⟩) W := by kernel_rfl
theorem ix_11 (W : World) : Sem.run Tryd.prog (Instr.index 54 (.agg #[.string ⟨#[76, 84]⟩, .string ⟨#[71, 84]⟩, .string ⟨#[69, 81]⟩, .string ⟨#[83, 79]⟩]) (.int .i8 ((IntKind.i8.wrap 11).tmod 4))) W = .ok (.string ⟨#[83, 79]⟩) W := by kernel_rfl
theorem ix_12 (W : World) : Sem.run Tryd.prog (Instr.index 54 (.agg #[.string ⟨#[76, 84]⟩, .string ⟨#[71, 84]⟩, .string ⟨#[69, 81]⟩, .string ⟨#[83, 79]⟩]) (.int .i8 ((IntKind.i8.wrap 12).tmod 4))) W = .ok (.string ⟨#[76, 84]⟩) W := by kernel_rfl
theorem ix_13 (W : World) : Sem.run Tryd.prog (Instr.index 54 (.agg #[.string ⟨#[76, 84]⟩, .string ⟨#[71, 84]⟩, .string ⟨#[69, 81]⟩, .string ⟨#[83, 79]⟩]) (.int .i8 ((IntKind.i8.wrap 13).tmod 4))) W = .ok (.string ⟨#[71, 84]⟩) W := by kernel_rfl
theorem ix_14 (W : World) : Sem.run Tryd.prog (Instr.index 54 (.agg #[.string ⟨#[76, 84]⟩, .string ⟨#[71, 84]⟩, .string ⟨#[69, 81]⟩, .string ⟨#[83, 79]⟩]) (.int .i8 ((IntKind.i8.wrap 14).tmod 4))) W = .ok (.string ⟨#[69, 81]⟩) W := by kernel_rfl
theorem ix_15 (W : World) : Sem.run Tryd.prog (Instr.index 54 (.agg #[.string ⟨#[76, 84]⟩, .string ⟨#[71, 84]⟩, .string ⟨#[69, 81]⟩, .string ⟨#[83, 79]⟩]) (.int .i8 ((IntKind.i8.wrap 15).tmod 4))) W = .ok (.string ⟨#[83, 79]⟩) W := by kernel_rfl
theorem ix_16 (W : World) : Sem.run Tryd.prog (Instr.index 54 (.agg #[.string ⟨#[76, 84]⟩, .string ⟨#[71, 84]⟩, .string ⟨#[69, 81]⟩, .string ⟨#[83, 79]⟩]) (.int .i8 ((IntKind.i8.wrap 16).tmod 4))) W = .ok (.string ⟨#[76, 84]⟩) W := by kernel_rfl
theorem ix_17 (W : World) : Sem.run Tryd.prog (Instr.index 54 (.agg #[.string ⟨#[76, 84]⟩, .string ⟨#[71, 84]⟩, .string ⟨#[69, 81]⟩, .string ⟨#[83, 79]⟩]) (.int .i8 ((IntKind.i8.wrap 17).tmod 4))) W = .ok (.string ⟨#[71, 84]⟩) W := by kernel_rfl
theorem ix_18 (W : World) : Sem.run Tryd.prog (Instr.index 54 (.agg #[.string ⟨#[76, 84]⟩, .string ⟨#[71, 84]⟩, .string ⟨#[69, 81]⟩, .string ⟨#[83, 79]⟩]) (.int .i8 ((IntKind.i8.wrap 18).tmod 4))) W = .ok (.string ⟨#[69, 81]⟩) W := by kernel_rfl
theorem ix_19 (W : World) : Sem.run Tryd.prog (Instr.index 54 (.agg #[.string ⟨#[76, 84]⟩, .string ⟨#[71, 84]⟩, .string ⟨#[69, 81]⟩, .string ⟨#[83, 79]⟩]) (.int .i8 ((IntKind.i8.wrap 19).tmod 4))) W = .ok (.string ⟨#[83, 79]⟩) W := by kernel_rfl
theorem ix_20 (W : World) : Sem.run Tryd.prog (Instr.index 54 (.agg #[.string ⟨#[76, 84]⟩, .string ⟨#[71, 84]⟩, .string ⟨#[69, 81]⟩, .string ⟨#[83, 79]⟩]) (.int .i8 ((IntKind.i8.wrap 20).tmod 4))) W = .ok (.string ⟨#[76, 84]⟩) W := by kernel_rfl
theorem ix_21 (W : World) : Sem.run Tryd.prog (Instr.index 54 (.agg #[.string ⟨#[76, 84]⟩, .string ⟨#[71, 84]⟩, .string ⟨#[69, 81]⟩, .string ⟨#[83, 79]⟩]) (.int .i8 ((IntKind.i8.wrap 21).tmod 4))) W = .ok (.string ⟨#[71, 84]⟩) W := by kernel_rfl
theorem ix_22 (W : World) : Sem.run Tryd.prog (Instr.index 54 (.agg #[.string ⟨#[76, 84]⟩, .string ⟨#[71, 84]⟩, .string ⟨#[69, 81]⟩, .string ⟨#[83, 79]⟩]) (.int .i8 ((IntKind.i8.wrap 22).tmod 4))) W = .ok (.string ⟨#[69, 81]⟩) W := by kernel_rfl
theorem ix_23 (W : World) : Sem.run Tryd.prog (Instr.index 54 (.agg #[.string ⟨#[76, 84]⟩, .string ⟨#[71, 84]⟩, .string ⟨#[69, 81]⟩, .string ⟨#[83, 79]⟩]) (.int .i8 ((IntKind.i8.wrap 23).tmod 4))) W = .ok (.string ⟨#[83, 79]⟩) W := by kernel_rfl
theorem ix_24 (W : World) : Sem.run Tryd.prog (Instr.index 54 (.agg #[.string ⟨#[76, 84]⟩, .string ⟨#[71, 84]⟩, .string ⟨#[69, 81]⟩, .string ⟨#[83, 79]⟩]) (.int .i8 ((IntKind.i8.wrap 24).tmod 4))) W = .ok (.string ⟨#[76, 84]⟩) W := by kernel_rfl
theorem ix_25 (W : World) : Sem.run Tryd.prog (Instr.index 54 (.agg #[.string ⟨#[76, 84]⟩, .string ⟨#[71, 84]⟩, .string ⟨#[69, 81]⟩, .string ⟨#[83, 79]⟩]) (.int .i8 ((IntKind.i8.wrap 25).tmod 4))) W = .ok (.string ⟨#[71, 84]⟩) W := by kernel_rfl
theorem ix_26 (W : World) : Sem.run Tryd.prog (Instr.index 54 (.agg #[.string ⟨#[76, 84]⟩, .string ⟨#[71, 84]⟩, .string ⟨#[69, 81]⟩, .string ⟨#[83, 79]⟩]) (.int .i8 ((IntKind.i8.wrap 26).tmod 4))) W = .ok (.string ⟨#[69, 81]⟩) W := by kernel_rfl
theorem ix_27 (W : World) : Sem.run Tryd.prog (Instr.index 54 (.agg #[.string ⟨#[76, 84]⟩, .string ⟨#[71, 84]⟩, .string ⟨#[69, 81]⟩, .string ⟨#[83, 79]⟩]) (.int .i8 ((IntKind.i8.wrap 27).tmod 4))) W = .ok (.string ⟨#[83, 79]⟩) W := by kernel_rfl
theorem ix_28 (W : World) : Sem.run Tryd.prog (Instr.index 54 (.agg #[.string ⟨#[76, 84]⟩, .string ⟨#[71, 84]⟩, .string ⟨#[69, 81]⟩, .string ⟨#[83, 79]⟩]) (.int .i8 ((IntKind.i8.wrap 28).tmod 4))) W = .ok (.string ⟨#[76, 84]⟩) W := by kernel_rfl
theorem ix_29 (W : World) : Sem.run Tryd.prog (Instr.index 54 (.agg #[.string ⟨#[76, 84]⟩, .string ⟨#[71, 84]⟩, .string ⟨#[69, 81]⟩, .string ⟨#[83, 79]⟩]) (.int .i8 ((IntKind.i8.wrap 29).tmod 4))) W = .ok (.string ⟨#[71, 84]⟩) W := by kernel_rfl
theorem ix_30 (W : World) : Sem.run Tryd.prog (Instr.index 54 (.agg #[.string ⟨#[76, 84]⟩, .string ⟨#[71, 84]⟩, .string ⟨#[69, 81]⟩, .string ⟨#[83, 79]⟩]) (.int .i8 ((IntKind.i8.wrap 30).tmod 4))) W = .ok (.string ⟨#[69, 81]⟩) W := by kernel_rfl
theorem ix_31 (W : World) : Sem.run Tryd.prog (Instr.index 54 (.agg #[.string ⟨#[76, 84]⟩, .string ⟨#[71, 84]⟩, .string ⟨#[69, 81]⟩, .string ⟨#[83, 79]⟩]) (.int .i8 ((IntKind.i8.wrap 31).tmod 4))) W = .ok (.string ⟨#[83, 79]⟩) W := by kernel_rfl
set_option maxRecDepth 100000 in
set_option maxHeartbeats 2000000 in
theorem cs_0 (w : World) : Calls Tryd.prog 28 #[.int .i8 1] w fun e w' => e = .returned (.string (ct 0)) ∧ Below w.heap.size w w' := by
  have l : (Lib.decDigits 0).length ≤ 2 := by decide +kernel
  have hix := ix_0
  have hixl := ixl_0
  go_enter Tryd.func28, Tryd.ntmps28
  go_wp2_with fail
  go_region_with (first
    | (go_at_call 38; refine (Tryd.strconv_FormatInt_10_small 0 (by omega) _).mono ?_; rintro e w1 ⟨rfl, rfl⟩))
  all_goals (try (exfalso; omega))
  all_goals go_wp2_with fail
  all_goals (try (exfalso; omega))
  all_goals go_returns
  all_goals exact ⟨rfl, by repeat' (first | (with_reducible exact Below.refl _ _) | (with_reducible refine Below.drew ?_))⟩
set_option maxRecDepth 100000 in
set_option maxHeartbeats 2000000 in
theorem cs_1 (w : World) : Calls Tryd.prog 28 #[.int .i8 2] w fun e w' => e = .returned (.string (ct 1)) ∧ Below w.heap.size w w' := by
  have l : (Lib.decDigits 0).length ≤ 2 := by decide +kernel
  have hix := ix_1
  have hixl := ixl_1
  go_enter Tryd.func28, Tryd.ntmps28
  go_wp2_with fail
  go_region_with (first
    | (go_at_call 38; refine (Tryd.strconv_FormatInt_10_small 0 (by omega) _).mono ?_; rintro e w1 ⟨rfl, rfl⟩))
  all_goals (try (exfalso; omega))
  all_goals go_wp2_with fail
  all_goals (try (exfalso; omega))
  all_goals go_returns
  all_goals exact ⟨rfl, by repeat' (first | (with_reducible exact Below.refl _ _) | (with_reducible refine Below.drew ?_))⟩
set_option maxRecDepth 100000 in
set_option maxHeartbeats 2000000 in
theorem cs_2 (w : World) : Calls Tryd.prog 28 #[.int .i8 3] w fun e w' => e = .returned (.string (ct 2)) ∧ Below w.heap.size w w' := by
  have l : (Lib.decDigits 0).length ≤ 2 := by decide +kernel
  have hix := ix_2
  have hixl := ixl_2
  go_enter Tryd.func28, Tryd.ntmps28
  go_wp2_with fail
  go_region_with (first
    | (go_at_call 38; refine (Tryd.strconv_FormatInt_10_small 0 (by omega) _).mono ?_; rintro e w1 ⟨rfl, rfl⟩))
  all_goals (try (exfalso; omega))
  all_goals go_wp2_with fail
  all_goals (try (exfalso; omega))
  all_goals go_returns
  all_goals exact ⟨rfl, by repeat' (first | (with_reducible exact Below.refl _ _) | (with_reducible refine Below.drew ?_))⟩
set_option maxRecDepth 100000 in
set_option maxHeartbeats 2000000 in
theorem cs_3 (w : World) : Calls Tryd.prog 28 #[.int .i8 4] w fun e w' => e = .returned (.string (ct 3)) ∧ Below w.heap.size w w' := by
  have l : (Lib.decDigits 0).length ≤ 2 := by decide +kernel
  have hix := ix_3
  have hixl := ixl_3
  go_enter Tryd.func28, Tryd.ntmps28
  go_wp2_with fail
  go_region_with (first
    | (go_at_call 38; refine (Tryd.strconv_FormatInt_10_small 0 (by omega) _).mono ?_; rintro e w1 ⟨rfl, rfl⟩))
  all_goals (try (exfalso; omega))
  all_goals go_wp2_with fail
  all_goals (try (exfalso; omega))
  all_goals go_returns
  all_goals exact ⟨rfl, by repeat' (first | (with_reducible exact Below.refl _ _) | (with_reducible refine Below.drew ?_))⟩
set_option maxRecDepth 100000 in
set_option maxHeartbeats 2000000 in
theorem cs_4 (w : World) : Calls Tryd.prog 28 #[.int .i8 5] w fun e w' => e = .returned (.string (ct 4)) ∧ Below w.heap.size w w' := by
  have l : (Lib.decDigits 1).length ≤ 2 := by decide +kernel
  have hix := ix_4
  have hixl := ixl_0
  go_enter Tryd.func28, Tryd.ntmps28
  go_wp2_with fail
  go_region_with (first
    | (go_at_call 38; refine (Tryd.strconv_FormatInt_10_small 1 (by omega) _).mono ?_; rintro e w1 ⟨rfl, rfl⟩))
  all_goals (try (exfalso; omega))
  all_goals go_wp2_with fail
  all_goals (try (exfalso; omega))
  all_goals go_returns
  all_goals exact ⟨rfl, by repeat' (first | (with_reducible exact Below.refl _ _) | (with_reducible refine Below.drew ?_))⟩
set_option maxRecDepth 100000 in
set_option maxHeartbeats 2000000 in
theorem cs_5 (w : World) : Calls Tryd.prog 28 #[.int .i8 6] w fun e w' => e = .returned (.string (ct 5)) ∧ Below w.heap.size w w' := by
  have l : (Lib.decDigits 1).length ≤ 2 := by decide +kernel
  have hix := ix_5
  have hixl := ixl_1
  go_enter Tryd.func28, Tryd.ntmps28
  go_wp2_with fail
  go_region_with (first
    | (go_at_call 38; refine (Tryd.strconv_FormatInt_10_small 1 (by omega) _).mono ?_; rintro e w1 ⟨rfl, rfl⟩))
  all_goals (try (exfalso; omega))
  all_goals go_wp2_with fail
  all_goals (try (exfalso; omega))
  all_goals go_returns
  all_goals exact ⟨rfl, by repeat' (first | (with_reducible exact Below.refl _ _) | (with_reducible refine Below.drew ?_))⟩
set_option maxRecDepth 100000 in
set_option maxHeartbeats 2000000 in
theorem cs_6 (w : World) : Calls Tryd.prog 28 #[.int .i8 7] w fun e w' => e = .returned (.string (ct 6)) ∧ Below w.heap.size w w' := by
  have l : (Lib.decDigits 1).length ≤ 2 := by decide +kernel
  have hix := ix_6
  have hixl := ixl_2
  go_enter Tryd.func28, Tryd.ntmps28
  go_wp2_with fail
  go_region_with (first
    | (go_at_call 38; refine (Tryd.strconv_FormatInt_10_small 1 (by omega) _).mono ?_; rintro e w1 ⟨rfl, rfl⟩))
  all_goals (try (exfalso; omega))
  all_goals go_wp2_with fail
  all_goals (try (exfalso; omega))
  all_goals go_returns
  all_goals exact ⟨rfl, by repeat' (first | (with_reducible exact Below.refl _ _) | (with_reducible refine Below.drew ?_))⟩
set_option maxRecDepth 100000 in
set_option maxHeartbeats 2000000 in
theorem cs_7 (w : World) : Calls Tryd.prog 28 #[.int .i8 8] w fun e w' => e = .returned (.string (ct 7)) ∧ Below w.heap.size w w' := by
  have l : (Lib.decDigits 1).length ≤ 2 := by decide +kernel
  have hix := ix_7
  have hixl := ixl_3
  go_enter Tryd.func28, Tryd.ntmps28
  go_wp2_with fail
  go_region_with (first
    | (go_at_call 38; refine (Tryd.strconv_FormatInt_10_small 1 (by omega) _).mono ?_; rintro e w1 ⟨rfl, rfl⟩))
  all_goals (try (exfalso; omega))
  all_goals go_wp2_with fail
  all_goals (try (exfalso; omega))
  all_goals go_returns
  all_goals exact ⟨rfl, by repeat' (first | (with_reducible exact Below.refl _ _) | (with_reducible refine Below.drew ?_))⟩
set_option maxRecDepth 100000 in
set_option maxHeartbeats 2000000 in
theorem cs_8 (w : World) : Calls Tryd.prog 28 #[.int .i8 9] w fun e w' => e = .returned (.string (ct 8)) ∧ Below w.heap.size w w' := by
  have l : (Lib.decDigits 2).length ≤ 2 := by decide +kernel
  have hix := ix_8
  have hixl := ixl_0
  go_enter Tryd.func28, Tryd.ntmps28
  go_wp2_with fail
  go_region_with (first
    | (go_at_call 38; refine (Tryd.strconv_FormatInt_10_small 2 (by omega) _).mono ?_; rintro e w1 ⟨rfl, rfl⟩))
  all_goals (try (exfalso; omega))
  all_goals go_wp2_with fail
  all_goals (try (exfalso; omega))
  all_goals go_returns
  all_goals exact ⟨rfl, by repeat' (first | (with_reducible exact Below.refl _ _) | (with_reducible refine Below.drew ?_))⟩
set_option maxRecDepth 100000 in
set_option maxHeartbeats 2000000 in
theorem cs_9 (w : World) : Calls Tryd.prog 28 #[.int .i8 10] w fun e w' => e = .returned (.string (ct 9)) ∧ Below w.heap.size w w' := by
  have l : (Lib.decDigits 2).length ≤ 2 := by decide +kernel
  have hix := ix_9
  have hixl := ixl_1
  go_enter Tryd.func28, Tryd.ntmps28
  go_wp2_with fail
  go_region_with (first
    | (go_at_call 38; refine (Tryd.strconv_FormatInt_10_small 2 (by omega) _).mono ?_; rintro e w1 ⟨rfl, rfl⟩))
  all_goals (try (exfalso; omega))
  all_goals go_wp2_with fail
  all_goals (try (exfalso; omega))
  all_goals go_returns
  all_goals exact ⟨rfl, by repeat' (first | (with_reducible exact Below.refl _ _) | (with_reducible refine Below.drew ?_))⟩
set_option maxRecDepth 100000 in
set_option maxHeartbeats 2000000 in
theorem cs_10 (w : World) : Calls Tryd.prog 28 #[.int .i8 11] w fun e w' => e = .returned (.string (ct 10)) ∧ Below w.heap.size w w' := by
  have l : (Lib.decDigits 2).length ≤ 2 := by decide +kernel
  have hix := ix_10
  have hixl := ixl_2
  go_enter Tryd.func28, Tryd.ntmps28
  go_wp2_with fail
  go_region_with (first
    | (go_at_call 38; refine (Tryd.strconv_FormatInt_10_small 2 (by omega) _).mono ?_; rintro e w1 ⟨rfl, rfl⟩))
  all_goals (try (exfalso; omega))
  all_goals go_wp2_with fail
  all_goals (try (exfalso; omega))
  all_goals go_returns
  all_goals exact ⟨rfl, by repeat' (first | (with_reducible exact Below.refl _ _) | (with_reducible refine Below.drew ?_))⟩
set_option maxRecDepth 100000 in
set_option maxHeartbeats 2000000 in
theorem cs_11 (w : World) : Calls Tryd.prog 28 #[.int .i8 12] w fun e w' => e = .returned (.string (ct 11)) ∧ Below w.heap.size w w' := by
  have l : (Lib.decDigits 2).length ≤ 2 := by decide +kernel
  have hix := ix_11
  have hixl := ixl_3
  go_enter Tryd.func28, Tryd.ntmps28
  go_wp2_with fail
  go_region_with (first
    | (go_at_call 38; refine (Tryd.strconv_FormatInt_10_small 2 (by omega) _).mono ?_; rintro e w1 ⟨rfl, rfl⟩))
  all_goals (try (exfalso; omega))
  all_goals go_wp2_with fail
  all_goals (try (exfalso; omega))
  all_goals go_returns
  all_goals exact ⟨rfl, by repeat' (first | (with_reducible exact Below.refl _ _) | (with_reducible refine Below.drew ?_))⟩
set_option maxRecDepth 100000 in
set_option maxHeartbeats 2000000 in
theorem cs_12 (w : World) : Calls Tryd.prog 28 #[.int .i8 13] w fun e w' => e = .returned (.string (ct 12)) ∧ Below w.heap.size w w' := by
  have l : (Lib.decDigits 3).length ≤ 2 := by decide +kernel
  have hix := ix_12
  have hixl := ixl_0
  go_enter Tryd.func28, Tryd.ntmps28
  go_wp2_with fail
  go_region_with (first
    | (go_at_call 38; refine (Tryd.strconv_FormatInt_10_small 3 (by omega) _).mono ?_; rintro e w1 ⟨rfl, rfl⟩))
  all_goals (try (exfalso; omega))
  all_goals go_wp2_with fail
  all_goals (try (exfalso; omega))
  all_goals go_returns
  all_goals exact ⟨rfl, by repeat' (first | (with_reducible exact Below.refl _ _) | (with_reducible refine Below.drew ?_))⟩
set_option maxRecDepth 100000 in
set_option maxHeartbeats 2000000 in
theorem cs_13 (w : World) : Calls Tryd.prog 28 #[.int .i8 14] w fun e w' => e = .returned (.string (ct 13)) ∧ Below w.heap.size w w' := by
  have l : (Lib.decDigits 3).length ≤ 2 := by decide +kernel
  have hix := ix_13
  have hixl := ixl_1
  go_enter Tryd.func28, Tryd.ntmps28
  go_wp2_with fail
  go_region_with (first
    | (go_at_call 38; refine (Tryd.strconv_FormatInt_10_small 3 (by omega) _).mono ?_; rintro e w1 ⟨rfl, rfl⟩))
  all_goals (try (exfalso; omega))
  all_goals go_wp2_with fail
  all_goals (try (exfalso; omega))
  all_goals go_returns
  all_goals exact ⟨rfl, by repeat' (first | (with_reducible exact Below.refl _ _) | (with_reducible refine Below.drew ?_))⟩
set_option maxRecDepth 100000 in
set_option maxHeartbeats 2000000 in
theorem cs_14 (w : World) : Calls Tryd.prog 28 #[.int .i8 15] w fun e w' => e = .returned (.string (ct 14)) ∧ Below w.heap.size w w' := by
  have l : (Lib.decDigits 3).length ≤ 2 := by decide +kernel
  have hix := ix_14
  have hixl := ixl_2
  go_enter Tryd.func28, Tryd.ntmps28
  go_wp2_with fail
  go_region_with (first
    | (go_at_call 38; refine (Tryd.strconv_FormatInt_10_small 3 (by omega) _).mono ?_; rintro e w1 ⟨rfl, rfl⟩))
  all_goals (try (exfalso; omega))
  all_goals go_wp2_with fail
  all_goals (try (exfalso; omega))
  all_goals go_returns
  all_goals exact ⟨rfl, by repeat' (first | (with_reducible exact Below.refl _ _) | (with_reducible refine Below.drew ?_))⟩
set_option maxRecDepth 100000 in
set_option maxHeartbeats 2000000 in
theorem cs_15 (w : World) : Calls Tryd.prog 28 #[.int .i8 16] w fun e w' => e = .returned (.string (ct 15)) ∧ Below w.heap.size w w' := by
  have l : (Lib.decDigits 3).length ≤ 2 := by decide +kernel
  have hix := ix_15
  have hixl := ixl_3
  go_enter Tryd.func28, Tryd.ntmps28
  go_wp2_with fail
  go_region_with (first
    | (go_at_call 38; refine (Tryd.strconv_FormatInt_10_small 3 (by omega) _).mono ?_; rintro e w1 ⟨rfl, rfl⟩))
  all_goals (try (exfalso; omega))
  all_goals go_wp2_with fail
  all_goals (try (exfalso; omega))
  all_goals go_returns
  all_goals exact ⟨rfl, by repeat' (first | (with_reducible exact Below.refl _ _) | (with_reducible refine Below.drew ?_))⟩
set_option maxRecDepth 100000 in
set_option maxHeartbeats 2000000 in
theorem cs_16 (w : World) : Calls Tryd.prog 28 #[.int .i8 17] w fun e w' => e = .returned (.string (ct 16)) ∧ Below w.heap.size w w' := by
  have l : (Lib.decDigits 4).length ≤ 2 := by decide +kernel
  have hix := ix_16
  have hixl := ixl_0
  go_enter Tryd.func28, Tryd.ntmps28
  go_wp2_with fail
  go_region_with (first
    | (go_at_call 38; refine (Tryd.strconv_FormatInt_10_small 4 (by omega) _).mono ?_; rintro e w1 ⟨rfl, rfl⟩))
  all_goals (try (exfalso; omega))
  all_goals go_wp2_with fail
  all_goals (try (exfalso; omega))
  all_goals go_returns
  all_goals exact ⟨rfl, by repeat' (first | (with_reducible exact Below.refl _ _) | (with_reducible refine Below.drew ?_))⟩
set_option maxRecDepth 100000 in
set_option maxHeartbeats 2000000 in
theorem cs_17 (w : World) : Calls Tryd.prog 28 #[.int .i8 18] w fun e w' => e = .returned (.string (ct 17)) ∧ Below w.heap.size w w' := by
  have l : (Lib.decDigits 4).length ≤ 2 := by decide +kernel
  have hix := ix_17
  have hixl := ixl_1
  go_enter Tryd.func28, Tryd.ntmps28
  go_wp2_with fail
  go_region_with (first
    | (go_at_call 38; refine (Tryd.strconv_FormatInt_10_small 4 (by omega) _).mono ?_; rintro e w1 ⟨rfl, rfl⟩))
  all_goals (try (exfalso; omega))
  all_goals go_wp2_with fail
  all_goals (try (exfalso; omega))
  all_goals go_returns
  all_goals exact ⟨rfl, by repeat' (first | (with_reducible exact Below.refl _ _) | (with_reducible refine Below.drew ?_))⟩
set_option maxRecDepth 100000 in
set_option maxHeartbeats 2000000 in
theorem cs_18 (w : World) : Calls Tryd.prog 28 #[.int .i8 19] w fun e w' => e = .returned (.string (ct 18)) ∧ Below w.heap.size w w' := by
  have l : (Lib.decDigits 4).length ≤ 2 := by decide +kernel
  have hix := ix_18
  have hixl := ixl_2
  go_enter Tryd.func28, Tryd.ntmps28
  go_wp2_with fail
  go_region_with (first
    | (go_at_call 38; refine (Tryd.strconv_FormatInt_10_small 4 (by omega) _).mono ?_; rintro e w1 ⟨rfl, rfl⟩))
  all_goals (try (exfalso; omega))
  all_goals go_wp2_with fail
  all_goals (try (exfalso; omega))
  all_goals go_returns
  all_goals exact ⟨rfl, by repeat' (first | (with_reducible exact Below.refl _ _) | (with_reducible refine Below.drew ?_))⟩
set_option maxRecDepth 100000 in
set_option maxHeartbeats 2000000 in
theorem cs_19 (w : World) : Calls Tryd.prog 28 #[.int .i8 20] w fun e w' => e = .returned (.string (ct 19)) ∧ Below w.heap.size w w' := by
  have l : (Lib.decDigits 4).length ≤ 2 := by decide +kernel
  have hix := ix_19
  have hixl := ixl_3
  go_enter Tryd.func28, Tryd.ntmps28
  go_wp2_with fail
  go_region_with (first
    | (go_at_call 38; refine (Tryd.strconv_FormatInt_10_small 4 (by omega) _).mono ?_; rintro e w1 ⟨rfl, rfl⟩))
  all_goals (try (exfalso; omega))
  all_goals go_wp2_with fail
  all_goals (try (exfalso; omega))
  all_goals go_returns
  all_goals exact ⟨rfl, by repeat' (first | (with_reducible exact Below.refl _ _) | (with_reducible refine Below.drew ?_))⟩
set_option maxRecDepth 100000 in
set_option maxHeartbeats 2000000 in
theorem cs_20 (w : World) : Calls Tryd.prog 28 #[.int .i8 21] w fun e w' => e = .returned (.string (ct 20)) ∧ Below w.heap.size w w' := by
  have l : (Lib.decDigits 5).length ≤ 2 := by decide +kernel
  have hix := ix_20
  have hixl := ixl_0
  go_enter Tryd.func28, Tryd.ntmps28
  go_wp2_with fail
  go_region_with (first
    | (go_at_call 38; refine (Tryd.strconv_FormatInt_10_small 5 (by omega) _).mono ?_; rintro e w1 ⟨rfl, rfl⟩))
  all_goals (try (exfalso; omega))
  all_goals go_wp2_with fail
  all_goals (try (exfalso; omega))
  all_goals go_returns
  all_goals exact ⟨rfl, by repeat' (first | (with_reducible exact Below.refl _ _) | (with_reducible refine Below.drew ?_))⟩
set_option maxRecDepth 100000 in
set_option maxHeartbeats 2000000 in
theorem cs_21 (w : World) : Calls Tryd.prog 28 #[.int .i8 22] w fun e w' => e = .returned (.string (ct 21)) ∧ Below w.heap.size w w' := by
  have l : (Lib.decDigits 5).length ≤ 2 := by decide +kernel
  have hix := ix_21
  have hixl := ixl_1
  go_enter Tryd.func28, Tryd.ntmps28
  go_wp2_with fail
  go_region_with (first
    | (go_at_call 38; refine (Tryd.strconv_FormatInt_10_small 5 (by omega) _).mono ?_; rintro e w1 ⟨rfl, rfl⟩))
  all_goals (try (exfalso; omega))
  all_goals go_wp2_with fail
  all_goals (try (exfalso; omega))
  all_goals go_returns
  all_goals exact ⟨rfl, by repeat' (first | (with_reducible exact Below.refl _ _) | (with_reducible refine Below.drew ?_))⟩
set_option maxRecDepth 100000 in
set_option maxHeartbeats 2000000 in
theorem cs_22 (w : World) : Calls Tryd.prog 28 #[.int .i8 23] w fun e w' => e = .returned (.string (ct 22)) ∧ Below w.heap.size w w' := by
  have l : (Lib.decDigits 5).length ≤ 2 := by decide +kernel
  have hix := ix_22
  have hixl := ixl_2
  go_enter Tryd.func28, Tryd.ntmps28
  go_wp2_with fail
  go_region_with (first
    | (go_at_call 38; refine (Tryd.strconv_FormatInt_10_small 5 (by omega) _).mono ?_; rintro e w1 ⟨rfl, rfl⟩))
  all_goals (try (exfalso; omega))
  all_goals go_wp2_with fail
  all_goals (try (exfalso; omega))
  all_goals go_returns
  all_goals exact ⟨rfl, by repeat' (first | (with_reducible exact Below.refl _ _) | (with_reducible refine Below.drew ?_))⟩
set_option maxRecDepth 100000 in
set_option maxHeartbeats 2000000 in
theorem cs_23 (w : World) : Calls Tryd.prog 28 #[.int .i8 24] w fun e w' => e = .returned (.string (ct 23)) ∧ Below w.heap.size w w' := by
  have l : (Lib.decDigits 5).length ≤ 2 := by decide +kernel
  have hix := ix_23
  have hixl := ixl_3
  go_enter Tryd.func28, Tryd.ntmps28
  go_wp2_with fail
  go_region_with (first
    | (go_at_call 38; refine (Tryd.strconv_FormatInt_10_small 5 (by omega) _).mono ?_; rintro e w1 ⟨rfl, rfl⟩))
  all_goals (try (exfalso; omega))
  all_goals go_wp2_with fail
  all_goals (try (exfalso; omega))
  all_goals go_returns
  all_goals exact ⟨rfl, by repeat' (first | (with_reducible exact Below.refl _ _) | (with_reducible refine Below.drew ?_))⟩
set_option maxRecDepth 100000 in
set_option maxHeartbeats 2000000 in
theorem cs_24 (w : World) : Calls Tryd.prog 28 #[.int .i8 25] w fun e w' => e = .returned (.string (ct 24)) ∧ Below w.heap.size w w' := by
  have l : (Lib.decDigits 6).length ≤ 2 := by decide +kernel
  have hix := ix_24
  have hixl := ixl_0
  go_enter Tryd.func28, Tryd.ntmps28
  go_wp2_with fail
  go_region_with (first
    | (go_at_call 38; refine (Tryd.strconv_FormatInt_10_small 6 (by omega) _).mono ?_; rintro e w1 ⟨rfl, rfl⟩))
  all_goals (try (exfalso; omega))
  all_goals go_wp2_with fail
  all_goals (try (exfalso; omega))
  all_goals go_returns
  all_goals exact ⟨rfl, by repeat' (first | (with_reducible exact Below.refl _ _) | (with_reducible refine Below.drew ?_))⟩
set_option maxRecDepth 100000 in
set_option maxHeartbeats 2000000 in
theorem cs_25 (w : World) : Calls Tryd.prog 28 #[.int .i8 26] w fun e w' => e = .returned (.string (ct 25)) ∧ Below w.heap.size w w' := by
  have l : (Lib.decDigits 6).length ≤ 2 := by decide +kernel
  have hix := ix_25
  have hixl := ixl_1
  go_enter Tryd.func28, Tryd.ntmps28
  go_wp2_with fail
  go_region_with (first
    | (go_at_call 38; refine (Tryd.strconv_FormatInt_10_small 6 (by omega) _).mono ?_; rintro e w1 ⟨rfl, rfl⟩))
  all_goals (try (exfalso; omega))
  all_goals go_wp2_with fail
  all_goals (try (exfalso; omega))
  all_goals go_returns
  all_goals exact ⟨rfl, by repeat' (first | (with_reducible exact Below.refl _ _) | (with_reducible refine Below.drew ?_))⟩
set_option maxRecDepth 100000 in
set_option maxHeartbeats 2000000 in
theorem cs_26 (w : World) : Calls Tryd.prog 28 #[.int .i8 27] w fun e w' => e = .returned (.string (ct 26)) ∧ Below w.heap.size w w' := by
  have l : (Lib.decDigits 6).length ≤ 2 := by decide +kernel
  have hix := ix_26
  have hixl := ixl_2
  go_enter Tryd.func28, Tryd.ntmps28
  go_wp2_with fail
  go_region_with (first
    | (go_at_call 38; refine (Tryd.strconv_FormatInt_10_small 6 (by omega) _).mono ?_; rintro e w1 ⟨rfl, rfl⟩))
  all_goals (try (exfalso; omega))
  all_goals go_wp2_with fail
  all_goals (try (exfalso; omega))
  all_goals go_returns
  all_goals exact ⟨rfl, by repeat' (first | (with_reducible exact Below.refl _ _) | (with_reducible refine Below.drew ?_))⟩
set_option maxRecDepth 100000 in
set_option maxHeartbeats 2000000 in
theorem cs_27 (w : World) : Calls Tryd.prog 28 #[.int .i8 28] w fun e w' => e = .returned (.string (ct 27)) ∧ Below w.heap.size w w' := by
  have l : (Lib.decDigits 6).length ≤ 2 := by decide +kernel
  have hix := ix_27
  have hixl := ixl_3
  go_enter Tryd.func28, Tryd.ntmps28
  go_wp2_with fail
  go_region_with (first
    | (go_at_call 38; refine (Tryd.strconv_FormatInt_10_small 6 (by omega) _).mono ?_; rintro e w1 ⟨rfl, rfl⟩))
  all_goals (try (exfalso; omega))
  all_goals go_wp2_with fail
  all_goals (try (exfalso; omega))
  all_goals go_returns
  all_goals exact ⟨rfl, by repeat' (first | (with_reducible exact Below.refl _ _) | (with_reducible refine Below.drew ?_))⟩
set_option maxRecDepth 100000 in
set_option maxHeartbeats 2000000 in
theorem cs_28 (w : World) : Calls Tryd.prog 28 #[.int .i8 29] w fun e w' => e = .returned (.string (ct 28)) ∧ Below w.heap.size w w' := by
  have l : (Lib.decDigits 7).length ≤ 2 := by decide +kernel
  have hix := ix_28
  have hixl := ixl_0
  go_enter Tryd.func28, Tryd.ntmps28
  go_wp2_with fail
  go_region_with (first
    | (go_at_call 38; refine (Tryd.strconv_FormatInt_10_small 7 (by omega) _).mono ?_; rintro e w1 ⟨rfl, rfl⟩))
  all_goals (try (exfalso; omega))
  all_goals go_wp2_with fail
  all_goals (try (exfalso; omega))
  all_goals go_returns
  all_goals exact ⟨rfl, by repeat' (first | (with_reducible exact Below.refl _ _) | (with_reducible refine Below.drew ?_))⟩
set_option maxRecDepth 100000 in
set_option maxHeartbeats 2000000 in
theorem cs_29 (w : World) : Calls Tryd.prog 28 #[.int .i8 30] w fun e w' => e = .returned (.string (ct 29)) ∧ Below w.heap.size w w' := by
  have l : (Lib.decDigits 7).length ≤ 2 := by decide +kernel
  have hix := ix_29
  have hixl := ixl_1
  go_enter Tryd.func28, Tryd.ntmps28
  go_wp2_with fail
  go_region_with (first
    | (go_at_call 38; refine (Tryd.strconv_FormatInt_10_small 7 (by omega) _).mono ?_; rintro e w1 ⟨rfl, rfl⟩))
  all_goals (try (exfalso; omega))
  all_goals go_wp2_with fail
  all_goals (try (exfalso; omega))
  all_goals go_returns
  all_goals exact ⟨rfl, by repeat' (first | (with_reducible exact Below.refl _ _) | (with_reducible refine Below.drew ?_))⟩
set_option maxRecDepth 100000 in
set_option maxHeartbeats 2000000 in
theorem cs_30 (w : World) : Calls Tryd.prog 28 #[.int .i8 31] w fun e w' => e = .returned (.string (ct 30)) ∧ Below w.heap.size w w' := by
  have l : (Lib.decDigits 7).length ≤ 2 := by decide +kernel
  have hix := ix_30
  have hixl := ixl_2
  go_enter Tryd.func28, Tryd.ntmps28
  go_wp2_with fail
  go_region_with (first
    | (go_at_call 38; refine (Tryd.strconv_FormatInt_10_small 7 (by omega) _).mono ?_; rintro e w1 ⟨rfl, rfl⟩))
  all_goals (try (exfalso; omega))
  all_goals go_wp2_with fail
  all_goals (try (exfalso; omega))
  all_goals go_returns
  all_goals exact ⟨rfl, by repeat' (first | (with_reducible exact Below.refl _ _) | (with_reducible refine Below.drew ?_))⟩
set_option maxRecDepth 100000 in
set_option maxHeartbeats 2000000 in
theorem cs_31 (w : World) : Calls Tryd.prog 28 #[.int .i8 32] w fun e w' => e = .returned (.string (ct 31)) ∧ Below w.heap.size w w' := by
  have l : (Lib.decDigits 7).length ≤ 2 := by decide +kernel
  have hix := ix_31
  have hixl := ixl_3
  go_enter Tryd.func28, Tryd.ntmps28
  go_wp2_with fail
  go_region_with (first
    | (go_at_call 38; refine (Tryd.strconv_FormatInt_10_small 7 (by omega) _).mono ?_; rintro e w1 ⟨rfl, rfl⟩))
  all_goals (try (exfalso; omega))
  all_goals go_wp2_with fail
  all_goals (try (exfalso; omega))
  all_goals go_returns
  all_goals exact ⟨rfl, by repeat' (first | (with_reducible exact Below.refl _ _) | (with_reducible refine Below.drew ?_))⟩
set_option maxRecDepth 100000 in
set_option maxHeartbeats 2000000 in
theorem cs_32 (w : World) : Calls Tryd.prog 28 #[.int .i8 33] w fun e w' => e = .returned (.string (ct 32)) ∧ Below w.heap.size w w' := by
  have l : (Lib.decDigits 0).length ≤ 2 := by decide +kernel
  go_enter Tryd.func28, Tryd.ntmps28
  go_wp2_with (first
    | (go_at_call 38; refine (Tryd.strconv_FormatInt_10_small 0 (by omega) _).mono ?_; rintro e w1 ⟨rfl, rfl⟩))
  all_goals (try (exfalso; omega))
  all_goals go_returns
  all_goals exact ⟨rfl, Below.refl _ _⟩
set_option maxRecDepth 100000 in
set_option maxHeartbeats 2000000 in
theorem cs_33 (w : World) : Calls Tryd.prog 28 #[.int .i8 34] w fun e w' => e = .returned (.string (ct 33)) ∧ Below w.heap.size w w' := by
  have l : (Lib.decDigits 1).length ≤ 2 := by decide +kernel
  go_enter Tryd.func28, Tryd.ntmps28
  go_wp2_with (first
    | (go_at_call 38; refine (Tryd.strconv_FormatInt_10_small 1 (by omega) _).mono ?_; rintro e w1 ⟨rfl, rfl⟩))
  all_goals (try (exfalso; omega))
  all_goals go_returns
  all_goals exact ⟨rfl, Below.refl _ _⟩
set_option maxRecDepth 100000 in
set_option maxHeartbeats 2000000 in
theorem cs_34 (w : World) : Calls Tryd.prog 28 #[.int .i8 35] w fun e w' => e = .returned (.string (ct 34)) ∧ Below w.heap.size w w' := by
  have l : (Lib.decDigits 2).length ≤ 2 := by decide +kernel
  go_enter Tryd.func28, Tryd.ntmps28
  go_wp2_with (first
    | (go_at_call 38; refine (Tryd.strconv_FormatInt_10_small 2 (by omega) _).mono ?_; rintro e w1 ⟨rfl, rfl⟩))
  all_goals (try (exfalso; omega))
  all_goals go_returns
  all_goals exact ⟨rfl, Below.refl _ _⟩
set_option maxRecDepth 100000 in
set_option maxHeartbeats 2000000 in
theorem cs_35 (w : World) : Calls Tryd.prog 28 #[.int .i8 36] w fun e w' => e = .returned (.string (ct 35)) ∧ Below w.heap.size w w' := by
  have l : (Lib.decDigits 3).length ≤ 2 := by decide +kernel
  go_enter Tryd.func28, Tryd.ntmps28
  go_wp2_with (first
    | (go_at_call 38; refine (Tryd.strconv_FormatInt_10_small 3 (by omega) _).mono ?_; rintro e w1 ⟨rfl, rfl⟩))
  all_goals (try (exfalso; omega))
  all_goals go_returns
  all_goals exact ⟨rfl, Below.refl _ _⟩
set_option maxRecDepth 100000 in
set_option maxHeartbeats 2000000 in
theorem cs_36 (w : World) : Calls Tryd.prog 28 #[.int .i8 37] w fun e w' => e = .returned (.string (ct 36)) ∧ Below w.heap.size w w' := by
  have l : (Lib.decDigits 4).length ≤ 2 := by decide +kernel
  go_enter Tryd.func28, Tryd.ntmps28
  go_wp2_with (first
    | (go_at_call 38; refine (Tryd.strconv_FormatInt_10_small 4 (by omega) _).mono ?_; rintro e w1 ⟨rfl, rfl⟩))
  all_goals (try (exfalso; omega))
  all_goals go_returns
  all_goals exact ⟨rfl, Below.refl _ _⟩
set_option maxRecDepth 100000 in
set_option maxHeartbeats 2000000 in
theorem cs_37 (w : World) : Calls Tryd.prog 28 #[.int .i8 38] w fun e w' => e = .returned (.string (ct 37)) ∧ Below w.heap.size w w' := by
  have l : (Lib.decDigits 5).length ≤ 2 := by decide +kernel
  go_enter Tryd.func28, Tryd.ntmps28
  go_wp2_with (first
    | (go_at_call 38; refine (Tryd.strconv_FormatInt_10_small 5 (by omega) _).mono ?_; rintro e w1 ⟨rfl, rfl⟩))
  all_goals (try (exfalso; omega))
  all_goals go_returns
  all_goals exact ⟨rfl, Below.refl _ _⟩
set_option maxRecDepth 100000 in
set_option maxHeartbeats 2000000 in
theorem cs_38 (w : World) : Calls Tryd.prog 28 #[.int .i8 39] w fun e w' => e = .returned (.string (ct 38)) ∧ Below w.heap.size w w' := by
  have l : (Lib.decDigits 6).length ≤ 2 := by decide +kernel
  go_enter Tryd.func28, Tryd.ntmps28
  go_wp2_with (first
    | (go_at_call 38; refine (Tryd.strconv_FormatInt_10_small 6 (by omega) _).mono ?_; rintro e w1 ⟨rfl, rfl⟩))
  all_goals (try (exfalso; omega))
  all_goals go_returns
  all_goals exact ⟨rfl, Below.refl _ _⟩
set_option maxRecDepth 100000 in
set_option maxHeartbeats 2000000 in
theorem cs_39 (w : World) : Calls Tryd.prog 28 #[.int .i8 40] w fun e w' => e = .returned (.string (ct 39)) ∧ Below w.heap.size w w' := by
  have l : (Lib.decDigits 7).length ≤ 2 := by decide +kernel
  go_enter Tryd.func28, Tryd.ntmps28
  go_wp2_with (first
    | (go_at_call 38; refine (Tryd.strconv_FormatInt_10_small 7 (by omega) _).mono ?_; rintro e w1 ⟨rfl, rfl⟩))
  all_goals (try (exfalso; omega))
  all_goals go_returns
  all_goals exact ⟨rfl, Below.refl _ _⟩
theorem cs_any (w : World) : ∀ n : Nat, n ≤ 39 → Calls Tryd.prog 28 #[.int .i8 ((n : Int) + 1)] w fun e w' => e = .returned (.string (ct n)) ∧ Below w.heap.size w w'
  | 0, _ => cs_0 w
  | 1, _ => cs_1 w
  | 2, _ => cs_2 w
  | 3, _ => cs_3 w
  | 4, _ => cs_4 w
  | 5, _ => cs_5 w
  | 6, _ => cs_6 w
  | 7, _ => cs_7 w
  | 8, _ => cs_8 w
  | 9, _ => cs_9 w
  | 10, _ => cs_10 w
  | 11, _ => cs_11 w
  | 12, _ => cs_12 w
  | 13, _ => cs_13 w
  | 14, _ => cs_14 w
  | 15, _ => cs_15 w
  | 16, _ => cs_16 w
  | 17, _ => cs_17 w
  | 18, _ => cs_18 w
  | 19, _ => cs_19 w
  | 20, _ => cs_20 w
  | 21, _ => cs_21 w
  | 22, _ => cs_22 w
  | 23, _ => cs_23 w
  | 24, _ => cs_24 w
  | 25, _ => cs_25 w
  | 26, _ => cs_26 w
  | 27, _ => cs_27 w
  | 28, _ => cs_28 w
  | 29, _ => cs_29 w
  | 30, _ => cs_30 w
  | 31, _ => cs_31 w
  | 32, _ => cs_32 w
  | 33, _ => cs_33 w
  | 34, _ => cs_34 w
  | 35, _ => cs_35 w
  | 36, _ => cs_36 w
  | 37, _ => cs_37 w
  | 38, _ => cs_38 w
  | 39, _ => cs_39 w
  | n + 40, h => by omega
theorem ct_any (n : Nat) (h : n ≤ 39) (w : World) : Calls Tryd.prog 14 #[.int .i64 (n + 1)] w fun e w' => e = .returned (.string (ct n)) ∧ Below w.heap.size w w' := by
  have e1 : IntKind.i8.wrap ((n : Int) + 1) = n + 1 := IntWalk.i8_in _ (by omega)
  have con := fun W => cs_any W n h
  generalize ct n = s at *
  go_enter Tryd.func14, Tryd.ntmps14
  go_wp2_with (first
    | (go_at_call 28; (try rw [e1]); refine (con _).mono ?_; rintro e w1 ⟨rfl, hb1⟩))
  go_returns
  exact ⟨rfl, hb1⟩
theorem ct_size (n : Nat) (h : n ≤ 39) : 0 < (ct n).size := by
  have h' : ∀ m : Fin 40, 0 < (ct m.1).size := by decide +kernel
  exact h' ⟨n, by omega⟩
theorem ct_inj (n m : Nat) (h1 : n ≤ 39) (h2 : m ≤ 39) : ((ct n).toList == (ct m).toList) = ((n : Int) == (m : Int)) := by
  have h' : ∀ i j : Fin 40, ((ct i.1).toList == (ct j.1).toList) = (i.1 == j.1) := by decide +kernel
  have t : ((ct n).toList == (ct m).toList) = (n == m) := h' ⟨n, by omega⟩ ⟨m, by omega⟩
  rw [t]
  rw [Bool.eq_iff_iff, beq_iff_eq, beq_iff_eq]
  omega
set_option maxRecDepth 100000 in
theorem condition_any (n : Nat) (h : n ≤ 39) (w : World) : Calls Tryd.prog 15 #[.int .i64 n] w fun e w' => e = .returned (.int .i64 (n + 1)) ∧ w' = w := by
  have h' : (n : Int) ≤ 39 := by omega
  have h0 : (0 : Int) ≤ n := by omega
  have hr : (n : Int) < 32 ∨ 32 ≤ (n : Int) := by omega
  rcases hr with h1 | h1
  all_goals go_enter Tryd.func15, Tryd.ntmps15
  all_goals go_wp2_with fail
  all_goals (try (exfalso; omega))
  all_goals go_returns
  all_goals refine ⟨?_, rfl⟩
  all_goals (simp; omega)
end Go.Proofs.YtmhlfipgomdiaaaDoor
