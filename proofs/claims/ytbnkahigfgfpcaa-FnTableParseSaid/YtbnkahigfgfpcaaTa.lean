/- What the thin package makes of an argument of the package: argOf. -/
import Derived.Test.YtbnkahigfgfpcaaCore
import Derived.WalkKit
import Derived.WalkSpells
import Derived.WalkLawsBesides
import Derived.Below
import Derived.Laws.Pointers
import Derived.Deep.RegionHeld3
import Derived.Handy
import Derived.Lib.Hide
namespace Go.Proofs.Ytbnkahigfgfpcaa
open Go.RowKit
set_option linter.unusedVariables false

theorem ta_Reg_Reg (n : Int) (w : World) : (Instr.typeAssert (.iface 56 (.int .u16 n)) 46 56 true).run Try.prog w = .ok (.tuple #[.int .u16 n, .bool true]) w := by kernel_rfl
theorem ta_CondReg_Reg (n : Int) (w : World) : (Instr.typeAssert (.iface 57 (.int .i8 n)) 46 56 true).run Try.prog w = .ok (.tuple #[.int .u16 0, .bool false]) w := by kernel_rfl
theorem ta_CondReg_CondReg (n : Int) (w : World) : (Instr.typeAssert (.iface 57 (.int .i8 n)) 46 57 true).run Try.prog w = .ok (.tuple #[.int .i8 n, .bool true]) w := by kernel_rfl
theorem ta_SpReg_Reg (n : Int) (w : World) : (Instr.typeAssert (.iface 58 (.int .u16 n)) 46 56 true).run Try.prog w = .ok (.tuple #[.int .u16 0, .bool false]) w := by kernel_rfl
theorem ta_SpReg_CondReg (n : Int) (w : World) : (Instr.typeAssert (.iface 58 (.int .u16 n)) 46 57 true).run Try.prog w = .ok (.tuple #[.int .i8 0, .bool false]) w := by kernel_rfl
theorem ta_SpReg_SpReg (n : Int) (w : World) : (Instr.typeAssert (.iface 58 (.int .u16 n)) 46 58 true).run Try.prog w = .ok (.tuple #[.int .u16 n, .bool true]) w := by kernel_rfl
theorem ta_Imm_Reg (n : Int) (w : World) : (Instr.typeAssert (.iface 59 (.int .i64 n)) 46 56 true).run Try.prog w = .ok (.tuple #[.int .u16 0, .bool false]) w := by kernel_rfl
theorem ta_Imm_CondReg (n : Int) (w : World) : (Instr.typeAssert (.iface 59 (.int .i64 n)) 46 57 true).run Try.prog w = .ok (.tuple #[.int .i8 0, .bool false]) w := by kernel_rfl
theorem ta_Imm_SpReg (n : Int) (w : World) : (Instr.typeAssert (.iface 59 (.int .i64 n)) 46 58 true).run Try.prog w = .ok (.tuple #[.int .u16 0, .bool false]) w := by kernel_rfl
theorem ta_Imm_Imm (n : Int) (w : World) : (Instr.typeAssert (.iface 59 (.int .i64 n)) 46 59 true).run Try.prog w = .ok (.tuple #[.int .i64 n, .bool true]) w := by kernel_rfl
theorem ta_PCRel_Reg (n : Int) (w : World) : (Instr.typeAssert (.iface 60 (.int .i32 n)) 46 56 true).run Try.prog w = .ok (.tuple #[.int .u16 0, .bool false]) w := by kernel_rfl
theorem ta_PCRel_CondReg (n : Int) (w : World) : (Instr.typeAssert (.iface 60 (.int .i32 n)) 46 57 true).run Try.prog w = .ok (.tuple #[.int .i8 0, .bool false]) w := by kernel_rfl
theorem ta_PCRel_SpReg (n : Int) (w : World) : (Instr.typeAssert (.iface 60 (.int .i32 n)) 46 58 true).run Try.prog w = .ok (.tuple #[.int .u16 0, .bool false]) w := by kernel_rfl
theorem ta_PCRel_Imm (n : Int) (w : World) : (Instr.typeAssert (.iface 60 (.int .i32 n)) 46 59 true).run Try.prog w = .ok (.tuple #[.int .i64 0, .bool false]) w := by kernel_rfl
theorem ta_PCRel_PCRel (n : Int) (w : World) : (Instr.typeAssert (.iface 60 (.int .i32 n)) 46 60 true).run Try.prog w = .ok (.tuple #[.int .i32 n, .bool true]) w := by kernel_rfl
theorem ta_Label_Reg (n : Int) (w : World) : (Instr.typeAssert (.iface 61 (.int .u32 n)) 46 56 true).run Try.prog w = .ok (.tuple #[.int .u16 0, .bool false]) w := by kernel_rfl
theorem ta_Label_CondReg (n : Int) (w : World) : (Instr.typeAssert (.iface 61 (.int .u32 n)) 46 57 true).run Try.prog w = .ok (.tuple #[.int .i8 0, .bool false]) w := by kernel_rfl
theorem ta_Label_SpReg (n : Int) (w : World) : (Instr.typeAssert (.iface 61 (.int .u32 n)) 46 58 true).run Try.prog w = .ok (.tuple #[.int .u16 0, .bool false]) w := by kernel_rfl
theorem ta_Label_Imm (n : Int) (w : World) : (Instr.typeAssert (.iface 61 (.int .u32 n)) 46 59 true).run Try.prog w = .ok (.tuple #[.int .i64 0, .bool false]) w := by kernel_rfl
theorem ta_Label_PCRel (n : Int) (w : World) : (Instr.typeAssert (.iface 61 (.int .u32 n)) 46 60 true).run Try.prog w = .ok (.tuple #[.int .i32 0, .bool false]) w := by kernel_rfl
theorem ta_Label_Label (n : Int) (w : World) : (Instr.typeAssert (.iface 61 (.int .u32 n)) 46 61 true).run Try.prog w = .ok (.tuple #[.int .u32 n, .bool true]) w := by kernel_rfl
theorem ta_Offset_Reg (n : Int) (w : World) : (Instr.typeAssert (.iface 62 (.int .i64 n)) 46 56 true).run Try.prog w = .ok (.tuple #[.int .u16 0, .bool false]) w := by kernel_rfl
theorem ta_Offset_CondReg (n : Int) (w : World) : (Instr.typeAssert (.iface 62 (.int .i64 n)) 46 57 true).run Try.prog w = .ok (.tuple #[.int .i8 0, .bool false]) w := by kernel_rfl
theorem ta_Offset_SpReg (n : Int) (w : World) : (Instr.typeAssert (.iface 62 (.int .i64 n)) 46 58 true).run Try.prog w = .ok (.tuple #[.int .u16 0, .bool false]) w := by kernel_rfl
theorem ta_Offset_Imm (n : Int) (w : World) : (Instr.typeAssert (.iface 62 (.int .i64 n)) 46 59 true).run Try.prog w = .ok (.tuple #[.int .i64 0, .bool false]) w := by kernel_rfl
theorem ta_Offset_PCRel (n : Int) (w : World) : (Instr.typeAssert (.iface 62 (.int .i64 n)) 46 60 true).run Try.prog w = .ok (.tuple #[.int .i32 0, .bool false]) w := by kernel_rfl
theorem ta_Offset_Label (n : Int) (w : World) : (Instr.typeAssert (.iface 62 (.int .i64 n)) 46 61 true).run Try.prog w = .ok (.tuple #[.int .u32 0, .bool false]) w := by kernel_rfl
theorem ta_Offset_Offset (n : Int) (w : World) : (Instr.typeAssert (.iface 62 (.int .i64 n)) 46 62 true).run Try.prog w = .ok (.tuple #[.int .i64 n, .bool true]) w := by kernel_rfl

theorem argOf_Reg (n : Int) (h0 : 0 ≤ n) (h1 : n ≤ 65535) (w : World) :
    Calls Try.prog 12 #[.iface 56 (.int .u16 n)] w fun e w' => e = .returned (.agg #[.int .i64 1, .int .i64 n]) ∧ Below w.heap.size w w' := by
  have eReg := ta_Reg_Reg
  go_enter Try.func12, Try.ntmps12
  go_wp2
  refine bodyPost_ret (v := .agg #[.int .i64 1, .int .i64 n]) (by simp [results, Try.results12, go_sem]) rfl ⟨rfl, ?_⟩
  go_grown

theorem argOf_CondReg (n : Int) (h0 : -128 ≤ n) (h1 : n ≤ 127) (w : World) :
    Calls Try.prog 12 #[.iface 57 (.int .i8 n)] w fun e w' => e = .returned (.agg #[.int .i64 2, .int .i64 n]) ∧ Below w.heap.size w w' := by
  have eReg := ta_CondReg_Reg
  have eCondReg := ta_CondReg_CondReg
  go_enter Try.func12, Try.ntmps12
  go_wp2
  refine bodyPost_ret (v := .agg #[.int .i64 2, .int .i64 n]) (by simp [results, Try.results12, go_sem]) rfl ⟨rfl, ?_⟩
  go_grown

theorem argOf_SpReg (n : Int) (h0 : 0 ≤ n) (h1 : n ≤ 65535) (w : World) :
    Calls Try.prog 12 #[.iface 58 (.int .u16 n)] w fun e w' => e = .returned (.agg #[.int .i64 3, .int .i64 n]) ∧ Below w.heap.size w w' := by
  have eReg := ta_SpReg_Reg
  have eCondReg := ta_SpReg_CondReg
  have eSpReg := ta_SpReg_SpReg
  go_enter Try.func12, Try.ntmps12
  go_wp2
  refine bodyPost_ret (v := .agg #[.int .i64 3, .int .i64 n]) (by simp [results, Try.results12, go_sem]) rfl ⟨rfl, ?_⟩
  go_grown

theorem argOf_Imm (n : Int) (h0 : -9223372036854775808 ≤ n) (h1 : n ≤ 9223372036854775807) (w : World) :
    Calls Try.prog 12 #[.iface 59 (.int .i64 n)] w fun e w' => e = .returned (.agg #[.int .i64 4, .int .i64 n]) ∧ Below w.heap.size w w' := by
  have eReg := ta_Imm_Reg
  have eCondReg := ta_Imm_CondReg
  have eSpReg := ta_Imm_SpReg
  have eImm := ta_Imm_Imm
  go_enter Try.func12, Try.ntmps12
  go_wp2
  refine bodyPost_ret (v := .agg #[.int .i64 4, .int .i64 n]) (by simp [results, Try.results12, go_sem]) rfl ⟨rfl, ?_⟩
  go_grown

theorem argOf_PCRel (n : Int) (h0 : -2147483648 ≤ n) (h1 : n ≤ 2147483647) (w : World) :
    Calls Try.prog 12 #[.iface 60 (.int .i32 n)] w fun e w' => e = .returned (.agg #[.int .i64 5, .int .i64 n]) ∧ Below w.heap.size w w' := by
  have eReg := ta_PCRel_Reg
  have eCondReg := ta_PCRel_CondReg
  have eSpReg := ta_PCRel_SpReg
  have eImm := ta_PCRel_Imm
  have ePCRel := ta_PCRel_PCRel
  go_enter Try.func12, Try.ntmps12
  go_wp2
  refine bodyPost_ret (v := .agg #[.int .i64 5, .int .i64 n]) (by simp [results, Try.results12, go_sem]) rfl ⟨rfl, ?_⟩
  go_grown

theorem argOf_Label (n : Int) (h0 : 0 ≤ n) (h1 : n ≤ 4294967295) (w : World) :
    Calls Try.prog 12 #[.iface 61 (.int .u32 n)] w fun e w' => e = .returned (.agg #[.int .i64 6, .int .i64 n]) ∧ Below w.heap.size w w' := by
  have eReg := ta_Label_Reg
  have eCondReg := ta_Label_CondReg
  have eSpReg := ta_Label_SpReg
  have eImm := ta_Label_Imm
  have ePCRel := ta_Label_PCRel
  have eLabel := ta_Label_Label
  go_enter Try.func12, Try.ntmps12
  go_wp2
  refine bodyPost_ret (v := .agg #[.int .i64 6, .int .i64 n]) (by simp [results, Try.results12, go_sem]) rfl ⟨rfl, ?_⟩
  go_grown

theorem argOf_Offset (n : Int) (h0 : -9223372036854775808 ≤ n) (h1 : n ≤ 9223372036854775807) (w : World) :
    Calls Try.prog 12 #[.iface 62 (.int .i64 n)] w fun e w' => e = .returned (.agg #[.int .i64 7, .int .i64 n]) ∧ Below w.heap.size w w' := by
  have eReg := ta_Offset_Reg
  have eCondReg := ta_Offset_CondReg
  have eSpReg := ta_Offset_SpReg
  have eImm := ta_Offset_Imm
  have ePCRel := ta_Offset_PCRel
  have eLabel := ta_Offset_Label
  have eOffset := ta_Offset_Offset
  go_enter Try.func12, Try.ntmps12
  go_wp2
  refine bodyPost_ret (v := .agg #[.int .i64 7, .int .i64 n]) (by simp [results, Try.results12, go_sem]) rfl ⟨rfl, ?_⟩
  go_grown

end Go.Proofs.Ytbnkahigfgfpcaa
