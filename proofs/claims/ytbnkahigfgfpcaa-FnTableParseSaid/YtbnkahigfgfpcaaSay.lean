/- What an argument of each kind is, of whatever words. -/
import Derived.Test.YtbnkahigfgfpcaaPb
import Derived.Test.YtbnkahigfgfpcaaArg
import Derived.Laws.BitsAllLaws
namespace Go.Proofs.Ytbnkahigfgfpcaa
open Go.RowKit

theorem rng_u16 (n : Int) : 0 ≤ IntKind.u16.wrap n ∧ IntKind.u16.wrap n ≤ 65535 := by rw [IntKind.wrap_u16]; omega
theorem rng_u32 (n : Int) : 0 ≤ IntKind.u32.wrap n ∧ IntKind.u32.wrap n ≤ 4294967295 := by rw [IntKind.wrap_u32]; omega
theorem rng_i32 (n : Int) : -2147483648 ≤ IntKind.i32.wrap n ∧ IntKind.i32.wrap n ≤ 2147483647 := by rw [IntKind.wrap_i32]; omega
theorem rng_i64 (n : Int) : -9223372036854775808 ≤ IntKind.i64.wrap n ∧ IntKind.i64.wrap n ≤ 9223372036854775807 := by rw [IntKind.wrap_i64]; omega
theorem rng_i8 (n : Int) : -128 ≤ IntKind.i8.wrap n ∧ IntKind.i8.wrap n ≤ 127 := by simp [IntKind.wrap, IntKind.bits, IntKind.signed]; omega
theorem rng_or (a b : Int) : -9223372036854775808 ≤ bits .or .i64 a b ∧ bits .or .i64 a b ≤ 9223372036854775807 := rng_i64 _

/-- What is told of an argument: its value, and how it is told as data. -/
def Told (K s : Int) (fs : List Fld) (x0 x1 : Int) : Prop :=
  ∃ r num v, ArgSays K s fs x0 x1 r ∧ OfSays r (.agg #[.int .i64 num, .int .i64 v]) ∧ 1 ≤ num ∧ num ≤ 7

theorem told_PCRel (fs : List Fld) (s x0 x1 : Int) (hn : fs.length ≤ 64) (hall : allR fs = true) (hS1 : 1 ≤ sumB fs) (hS : sumB fs ≤ 64) (hs0 : 0 ≤ s) (hs1 : s ≤ 32) (hx0 : 0 ≤ x0) (hx0' : x0 < 4294967296) (hx1 : 0 ≤ x1) (hx1' : x1 < 4294967296) : Told 1 s fs x0 x1 :=
  ⟨_, 5, _, fun A c W hr => arg_PCRel fs A c s x0 x1 W hn hr hall hS1 hS hs0 hs1 hx0 hx0' hx1 hx1', fun W => argOf_PCRel _ (rng_i32 _).1 (rng_i32 _).2 W, by decide, by decide⟩
theorem told_Label (fs : List Fld) (s x0 x1 : Int) (hn : fs.length ≤ 64) (hall : allR fs = true) (hS1 : 1 ≤ sumB fs) (hS : sumB fs ≤ 64) (hs0 : 0 ≤ s) (hs1 : s ≤ 32) (hx0 : 0 ≤ x0) (hx0' : x0 < 4294967296) (hx1 : 0 ≤ x1) (hx1' : x1 < 4294967296) : Told 2 s fs x0 x1 :=
  ⟨_, 6, _, fun A c W hr => arg_Label fs A c s x0 x1 W hn hr hall hS1 hS hs0 hs1 hx0 hx0' hx1 hx1', fun W => argOf_Label _ (rng_u32 _).1 (rng_u32 _).2 W, by decide, by decide⟩
theorem told_Reg (fs : List Fld) (s x0 x1 : Int) (hn : fs.length ≤ 64) (hall : allR fs = true) (hS1 : 1 ≤ sumB fs) (hS : sumB fs ≤ 64) (hs0 : 0 ≤ s) (hs1 : s ≤ 32) (hx0 : 0 ≤ x0) (hx0' : x0 < 4294967296) (hx1 : 0 ≤ x1) (hx1' : x1 < 4294967296) : Told 3 s fs x0 x1 :=
  ⟨_, 1, _, fun A c W hr => arg_Reg fs A c s x0 x1 W hn hr hall hS1 hS hs0 hs1 hx0 hx0' hx1 hx1', fun W => argOf_Reg _ (rng_u16 _).1 (rng_u16 _).2 W, by decide, by decide⟩
theorem told_CondRegBit (fs : List Fld) (s x0 x1 : Int) (hn : fs.length ≤ 64) (hall : allR fs = true) (hS1 : 1 ≤ sumB fs) (hS : sumB fs ≤ 64) (hs0 : 0 ≤ s) (hs1 : s ≤ 32) (hx0 : 0 ≤ x0) (hx0' : x0 < 4294967296) (hx1 : 0 ≤ x1) (hx1' : x1 < 4294967296) : Told 4 s fs x0 x1 :=
  ⟨_, 2, _, fun A c W hr => arg_CondRegBit fs A c s x0 x1 W hn hr hall hS1 hS hs0 hs1 hx0 hx0' hx1 hx1', fun W => argOf_CondReg _ (rng_i8 _).1 (rng_i8 _).2 W, by decide, by decide⟩
theorem told_CondRegField (fs : List Fld) (s x0 x1 : Int) (hn : fs.length ≤ 64) (hall : allR fs = true) (hS1 : 1 ≤ sumB fs) (hS : sumB fs ≤ 64) (hs0 : 0 ≤ s) (hs1 : s ≤ 32) (hx0 : 0 ≤ x0) (hx0' : x0 < 4294967296) (hx1 : 0 ≤ x1) (hx1' : x1 < 4294967296) : Told 5 s fs x0 x1 :=
  ⟨_, 2, _, fun A c W hr => arg_CondRegField fs A c s x0 x1 W hn hr hall hS1 hS hs0 hs1 hx0 hx0' hx1 hx1', fun W => argOf_CondReg _ (rng_i8 _).1 (rng_i8 _).2 W, by decide, by decide⟩
theorem told_FPReg (fs : List Fld) (s x0 x1 : Int) (hn : fs.length ≤ 64) (hall : allR fs = true) (hS1 : 1 ≤ sumB fs) (hS : sumB fs ≤ 64) (hs0 : 0 ≤ s) (hs1 : s ≤ 32) (hx0 : 0 ≤ x0) (hx0' : x0 < 4294967296) (hx1 : 0 ≤ x1) (hx1' : x1 < 4294967296) : Told 6 s fs x0 x1 :=
  ⟨_, 1, _, fun A c W hr => arg_FPReg fs A c s x0 x1 W hn hr hall hS1 hS hs0 hs1 hx0 hx0' hx1 hx1', fun W => argOf_Reg _ (rng_u16 _).1 (rng_u16 _).2 W, by decide, by decide⟩
theorem told_VecReg (fs : List Fld) (s x0 x1 : Int) (hn : fs.length ≤ 64) (hall : allR fs = true) (hS1 : 1 ≤ sumB fs) (hS : sumB fs ≤ 64) (hs0 : 0 ≤ s) (hs1 : s ≤ 32) (hx0 : 0 ≤ x0) (hx0' : x0 < 4294967296) (hx1 : 0 ≤ x1) (hx1' : x1 < 4294967296) : Told 7 s fs x0 x1 :=
  ⟨_, 1, _, fun A c W hr => arg_VecReg fs A c s x0 x1 W hn hr hall hS1 hS hs0 hs1 hx0 hx0' hx1 hx1', fun W => argOf_Reg _ (rng_u16 _).1 (rng_u16 _).2 W, by decide, by decide⟩
theorem told_VecSReg (fs : List Fld) (s x0 x1 : Int) (hn : fs.length ≤ 64) (hall : allR fs = true) (hS1 : 1 ≤ sumB fs) (hS : sumB fs ≤ 64) (hs0 : 0 ≤ s) (hs1 : s ≤ 32) (hx0 : 0 ≤ x0) (hx0' : x0 < 4294967296) (hx1 : 0 ≤ x1) (hx1' : x1 < 4294967296) : Told 8 s fs x0 x1 :=
  ⟨_, 1, _, fun A c W hr => arg_VecSReg fs A c s x0 x1 W hn hr hall hS1 hS hs0 hs1 hx0 hx0' hx1 hx1', fun W => argOf_Reg _ (rng_u16 _).1 (rng_u16 _).2 W, by decide, by decide⟩
theorem told_VecSpReg (fs : List Fld) (s x0 x1 : Int) (hn : fs.length ≤ 64) (hall : allR fs = true) (hS1 : 1 ≤ sumB fs) (hS : sumB fs ≤ 64) (hs0 : 0 ≤ s) (hs1 : s ≤ 32) (hx0 : 0 ≤ x0) (hx0' : x0 < 4294967296) (hx1 : 0 ≤ x1) (hx1' : x1 < 4294967296) : Told 9 s fs x0 x1 :=
  ⟨_, 1, _, fun A c W hr => arg_VecSpReg fs A c s x0 x1 W hn hr hall hS1 hS hs0 hs1 hx0 hx0' hx1 hx1', fun W => argOf_Reg _ (rng_u16 _).1 (rng_u16 _).2 W, by decide, by decide⟩
theorem told_MMAReg (fs : List Fld) (s x0 x1 : Int) (hn : fs.length ≤ 64) (hall : allR fs = true) (hS1 : 1 ≤ sumB fs) (hS : sumB fs ≤ 64) (hs0 : 0 ≤ s) (hs1 : s ≤ 32) (hx0 : 0 ≤ x0) (hx0' : x0 < 4294967296) (hx1 : 0 ≤ x1) (hx1' : x1 < 4294967296) : Told 10 s fs x0 x1 :=
  ⟨_, 1, _, fun A c W hr => arg_MMAReg fs A c s x0 x1 W hn hr hall hS1 hS hs0 hs1 hx0 hx0' hx1 hx1', fun W => argOf_Reg _ (rng_u16 _).1 (rng_u16 _).2 W, by decide, by decide⟩
theorem told_SpReg (fs : List Fld) (s x0 x1 : Int) (hn : fs.length ≤ 64) (hall : allR fs = true) (hS1 : 1 ≤ sumB fs) (hS : sumB fs ≤ 64) (hs0 : 0 ≤ s) (hs1 : s ≤ 32) (hx0 : 0 ≤ x0) (hx0' : x0 < 4294967296) (hx1 : 0 ≤ x1) (hx1' : x1 < 4294967296) : Told 11 s fs x0 x1 :=
  ⟨_, 3, _, fun A c W hr => arg_SpReg fs A c s x0 x1 W hn hr hall hS1 hS hs0 hs1 hx0 hx0' hx1 hx1', fun W => argOf_SpReg _ (rng_u16 _).1 (rng_u16 _).2 W, by decide, by decide⟩
theorem told_ImmSigned (fs : List Fld) (s x0 x1 : Int) (hn : fs.length ≤ 64) (hall : allR fs = true) (hS1 : 1 ≤ sumB fs) (hS : sumB fs ≤ 64) (hs0 : 0 ≤ s) (hs1 : s ≤ 32) (hx0 : 0 ≤ x0) (hx0' : x0 < 4294967296) (hx1 : 0 ≤ x1) (hx1' : x1 < 4294967296) : Told 12 s fs x0 x1 :=
  ⟨_, 4, _, fun A c W hr => arg_ImmSigned fs A c s x0 x1 W hn hr hall hS1 hS hs0 hs1 hx0 hx0' hx1 hx1', fun W => argOf_Imm _ (rng_i64 _).1 (rng_i64 _).2 W, by decide, by decide⟩
theorem told_ImmUnsigned (fs : List Fld) (s x0 x1 : Int) (hn : fs.length ≤ 64) (hall : allR fs = true) (hS1 : 1 ≤ sumB fs) (hS : sumB fs ≤ 64) (hs0 : 0 ≤ s) (hs1 : s ≤ 32) (hx0 : 0 ≤ x0) (hx0' : x0 < 4294967296) (hx1 : 0 ≤ x1) (hx1' : x1 < 4294967296) : Told 13 s fs x0 x1 :=
  ⟨_, 4, _, fun A c W hr => arg_ImmUnsigned fs A c s x0 x1 W hn hr hall hS1 hS hs0 hs1 hx0 hx0' hx1 hx1', fun W => argOf_Imm _ (rng_i64 _).1 (rng_i64 _).2 W, by decide, by decide⟩
theorem told_Offset (fs : List Fld) (s x0 x1 : Int) (hn : fs.length ≤ 64) (hall : allR fs = true) (hS1 : 1 ≤ sumB fs) (hS : sumB fs ≤ 64) (hs0 : 0 ≤ s) (hs1 : s ≤ 32) (hx0 : 0 ≤ x0) (hx0' : x0 < 4294967296) (hx1 : 0 ≤ x1) (hx1' : x1 < 4294967296) : Told 14 s fs x0 x1 :=
  ⟨_, 7, _, fun A c W hr => arg_Offset fs A c s x0 x1 W hn hr hall hS1 hS hs0 hs1 hx0 hx0' hx1 hx1', fun W => argOf_Offset _ (rng_i64 _).1 (rng_i64 _).2 W, by decide, by decide⟩
theorem told_NegOffset (fs : List Fld) (s x0 x1 : Int) (hn : fs.length ≤ 64) (hall : allR fs = true) (hS1 : 1 ≤ sumB fs) (hS : sumB fs ≤ 64) (hs0 : 0 ≤ s) (hs1 : s ≤ 32) (hx0 : 0 ≤ x0) (hx0' : x0 < 4294967296) (hx1 : 0 ≤ x1) (hx1' : x1 < 4294967296) (hss : s + sumB fs ≤ 63) : Told 15 s fs x0 x1 :=
  ⟨_, 7, _, fun A c W hr => arg_NegOffset fs A c s x0 x1 W hn hr hall hS1 hS hs0 hs1 hx0 hx0' hx1 hx1' hss, fun W => argOf_Offset _ (rng_or _ _).1 (rng_or _ _).2 W, by decide, by decide⟩
theorem told_any (fs : List Fld) (s x0 x1 : Int) (hn : fs.length ≤ 64) (hall : allR fs = true) (hS1 : 1 ≤ sumB fs) (hS : sumB fs ≤ 64) (hs0 : 0 ≤ s) (hs1 : s ≤ 32) (hx0 : 0 ≤ x0) (hx0' : x0 < 4294967296) (hx1 : 0 ≤ x1) (hx1' : x1 < 4294967296) (hss : s + sumB fs ≤ 63) (K : Int) (hK0 : 1 ≤ K) (hK1 : K < 16) : Told K s fs x0 x1 := by
  have h : K = 1 ∨ K = 2 ∨ K = 3 ∨ K = 4 ∨ K = 5 ∨ K = 6 ∨ K = 7 ∨ K = 8 ∨ K = 9 ∨ K = 10 ∨ K = 11 ∨ K = 12 ∨ K = 13 ∨ K = 14 ∨ K = 15 := by omega
  rcases h with rfl | rfl | rfl | rfl | rfl | rfl | rfl | rfl | rfl | rfl | rfl | rfl | rfl | rfl | rfl
  · exact told_PCRel fs s x0 x1 hn hall hS1 hS hs0 hs1 hx0 hx0' hx1 hx1'
  · exact told_Label fs s x0 x1 hn hall hS1 hS hs0 hs1 hx0 hx0' hx1 hx1'
  · exact told_Reg fs s x0 x1 hn hall hS1 hS hs0 hs1 hx0 hx0' hx1 hx1'
  · exact told_CondRegBit fs s x0 x1 hn hall hS1 hS hs0 hs1 hx0 hx0' hx1 hx1'
  · exact told_CondRegField fs s x0 x1 hn hall hS1 hS hs0 hs1 hx0 hx0' hx1 hx1'
  · exact told_FPReg fs s x0 x1 hn hall hS1 hS hs0 hs1 hx0 hx0' hx1 hx1'
  · exact told_VecReg fs s x0 x1 hn hall hS1 hS hs0 hs1 hx0 hx0' hx1 hx1'
  · exact told_VecSReg fs s x0 x1 hn hall hS1 hS hs0 hs1 hx0 hx0' hx1 hx1'
  · exact told_VecSpReg fs s x0 x1 hn hall hS1 hS hs0 hs1 hx0 hx0' hx1 hx1'
  · exact told_MMAReg fs s x0 x1 hn hall hS1 hS hs0 hs1 hx0 hx0' hx1 hx1'
  · exact told_SpReg fs s x0 x1 hn hall hS1 hS hs0 hs1 hx0 hx0' hx1 hx1'
  · exact told_ImmSigned fs s x0 x1 hn hall hS1 hS hs0 hs1 hx0 hx0' hx1 hx1'
  · exact told_ImmUnsigned fs s x0 x1 hn hall hS1 hS hs0 hs1 hx0 hx0' hx1 hx1'
  · exact told_Offset fs s x0 x1 hn hall hS1 hS hs0 hs1 hx0 hx0' hx1 hx1'
  · exact told_NegOffset fs s x0 x1 hn hall hS1 hS hs0 hs1 hx0 hx0' hx1 hx1' hss
end Go.Proofs.Ytbnkahigfgfpcaa
