/- What the package's argField.Parse tells, kind by kind. -/
import Derived.Test.YtdoibobhjcdcjaaBf
import Derived.WalkKit
import Derived.WalkSpells
import Derived.WalkLawsBesides
import Derived.Below
import Derived.Laws.Pointers
import Derived.Deep.RegionHeld3
import Derived.Handy
import Derived.Lib.Hide
namespace Go.Proofs.Ytdoibobhjcdcjaa
open Go.RowKit
set_option linter.unusedVariables false

set_option maxRecDepth 100000 in
set_option maxHeartbeats 2000000 in
theorem arg_Reg (fs : List Fld) (A : Option Addr) (c : Nat) (s x0 x1 : Int) (w : World) (hn : fs.length ≤ 64) (hr : FRow .u8 w A fs) (hall : allR fs = true) (hS1 : 1 ≤ sumB fs) (hS : sumB fs ≤ 64) (hs0 : 0 ≤ s) (hs1 : s ≤ 32)
    (hx0 : 0 ≤ x0) (hx0' : x0 < 4294967296) (hx1 : 0 ≤ x1) (hx1' : x1 < 4294967296) :
    Calls Try.prog 30 #[.agg #[.int .i8 3, .int .u8 s, .slice A fs.length c], .agg #[.int .u32 x0, .int .u32 x1]] w fun e w' => e = .returned (.iface 52 (.int .u16 (IntKind.u16.wrap (1 + IntKind.u16.wrap (jn x0 x1 fs))))) ∧ Below w.heap.size w w' := by
  have Hall := Lib.hid hall
  have Hrb := Lib.hid (show ∀ W, Below w.heap.size w W → FRow .u8 W A fs from fun W h => hr.below h)
  clear hall
  go_enter Try.func30, Try.ntmps30
  go_wp2_with (first
    | (go_at_call 32; refine (parseU_any fs A c x0 x1 _ hn (Hrb.out _ (by go_grown)) Hall.out hS hx0 hx0' hx1 hx1').mono ?_; rintro e w1 ⟨rfl, hbw1⟩; obtain ⟨hcw1, hfw1, hsw1, hlw1⟩ := bcellN (w.heap.size + 2) hbw1 (by first | assumption | (simp; done) | (simp; omega) | omega))
    | (go_at_call 33; refine (parseS_any fs A c x0 x1 _ hn (Hrb.out _ (by go_grown)) Hall.out hS1 hS hx0 hx0' hx1 hx1').mono ?_; rintro e w1 ⟨rfl, hbw1⟩; obtain ⟨hcw1, hfw1, hsw1, hlw1⟩ := bcellN (w.heap.size + 2) hbw1 (by first | assumption | (simp; done) | (simp; omega) | omega)))
  go_ret
  refine ⟨?_, Below.trans (by go_grown) (hbw1.mono (by simp; omega))⟩
  first | rfl | (simp; done)

set_option maxRecDepth 100000 in
set_option maxHeartbeats 2000000 in
theorem arg_CondRegBit (fs : List Fld) (A : Option Addr) (c : Nat) (s x0 x1 : Int) (w : World) (hn : fs.length ≤ 64) (hr : FRow .u8 w A fs) (hall : allR fs = true) (hS1 : 1 ≤ sumB fs) (hS : sumB fs ≤ 64) (hs0 : 0 ≤ s) (hs1 : s ≤ 32)
    (hx0 : 0 ≤ x0) (hx0' : x0 < 4294967296) (hx1 : 0 ≤ x1) (hx1' : x1 < 4294967296) :
    Calls Try.prog 30 #[.agg #[.int .i8 4, .int .u8 s, .slice A fs.length c], .agg #[.int .u32 x0, .int .u32 x1]] w fun e w' => e = .returned (.iface 53 (.int .i8 (IntKind.i8.wrap (1 + IntKind.i8.wrap (jn x0 x1 fs))))) ∧ Below w.heap.size w w' := by
  have Hall := Lib.hid hall
  have Hrb := Lib.hid (show ∀ W, Below w.heap.size w W → FRow .u8 W A fs from fun W h => hr.below h)
  clear hall
  go_enter Try.func30, Try.ntmps30
  go_wp2_with (first
    | (go_at_call 32; refine (parseU_any fs A c x0 x1 _ hn (Hrb.out _ (by go_grown)) Hall.out hS hx0 hx0' hx1 hx1').mono ?_; rintro e w1 ⟨rfl, hbw1⟩; obtain ⟨hcw1, hfw1, hsw1, hlw1⟩ := bcellN (w.heap.size + 2) hbw1 (by first | assumption | (simp; done) | (simp; omega) | omega))
    | (go_at_call 33; refine (parseS_any fs A c x0 x1 _ hn (Hrb.out _ (by go_grown)) Hall.out hS1 hS hx0 hx0' hx1 hx1').mono ?_; rintro e w1 ⟨rfl, hbw1⟩; obtain ⟨hcw1, hfw1, hsw1, hlw1⟩ := bcellN (w.heap.size + 2) hbw1 (by first | assumption | (simp; done) | (simp; omega) | omega)))
  go_ret
  refine ⟨?_, Below.trans (by go_grown) (hbw1.mono (by simp; omega))⟩
  first | rfl | (simp; done)

set_option maxRecDepth 100000 in
set_option maxHeartbeats 2000000 in
theorem arg_CondRegField (fs : List Fld) (A : Option Addr) (c : Nat) (s x0 x1 : Int) (w : World) (hn : fs.length ≤ 64) (hr : FRow .u8 w A fs) (hall : allR fs = true) (hS1 : 1 ≤ sumB fs) (hS : sumB fs ≤ 64) (hs0 : 0 ≤ s) (hs1 : s ≤ 32)
    (hx0 : 0 ≤ x0) (hx0' : x0 < 4294967296) (hx1 : 0 ≤ x1) (hx1' : x1 < 4294967296) :
    Calls Try.prog 30 #[.agg #[.int .i8 5, .int .u8 s, .slice A fs.length c], .agg #[.int .u32 x0, .int .u32 x1]] w fun e w' => e = .returned (.iface 53 (.int .i8 (IntKind.i8.wrap (33 + IntKind.i8.wrap (jn x0 x1 fs))))) ∧ Below w.heap.size w w' := by
  have Hall := Lib.hid hall
  have Hrb := Lib.hid (show ∀ W, Below w.heap.size w W → FRow .u8 W A fs from fun W h => hr.below h)
  clear hall
  go_enter Try.func30, Try.ntmps30
  go_wp2_with (first
    | (go_at_call 32; refine (parseU_any fs A c x0 x1 _ hn (Hrb.out _ (by go_grown)) Hall.out hS hx0 hx0' hx1 hx1').mono ?_; rintro e w1 ⟨rfl, hbw1⟩; obtain ⟨hcw1, hfw1, hsw1, hlw1⟩ := bcellN (w.heap.size + 2) hbw1 (by first | assumption | (simp; done) | (simp; omega) | omega))
    | (go_at_call 33; refine (parseS_any fs A c x0 x1 _ hn (Hrb.out _ (by go_grown)) Hall.out hS1 hS hx0 hx0' hx1 hx1').mono ?_; rintro e w1 ⟨rfl, hbw1⟩; obtain ⟨hcw1, hfw1, hsw1, hlw1⟩ := bcellN (w.heap.size + 2) hbw1 (by first | assumption | (simp; done) | (simp; omega) | omega)))
  go_ret
  refine ⟨?_, Below.trans (by go_grown) (hbw1.mono (by simp; omega))⟩
  first | rfl | (simp; done)

set_option maxRecDepth 100000 in
set_option maxHeartbeats 2000000 in
theorem arg_FPReg (fs : List Fld) (A : Option Addr) (c : Nat) (s x0 x1 : Int) (w : World) (hn : fs.length ≤ 64) (hr : FRow .u8 w A fs) (hall : allR fs = true) (hS1 : 1 ≤ sumB fs) (hS : sumB fs ≤ 64) (hs0 : 0 ≤ s) (hs1 : s ≤ 32)
    (hx0 : 0 ≤ x0) (hx0' : x0 < 4294967296) (hx1 : 0 ≤ x1) (hx1' : x1 < 4294967296) :
    Calls Try.prog 30 #[.agg #[.int .i8 6, .int .u8 s, .slice A fs.length c], .agg #[.int .u32 x0, .int .u32 x1]] w fun e w' => e = .returned (.iface 52 (.int .u16 (IntKind.u16.wrap (33 + IntKind.u16.wrap (jn x0 x1 fs))))) ∧ Below w.heap.size w w' := by
  have Hall := Lib.hid hall
  have Hrb := Lib.hid (show ∀ W, Below w.heap.size w W → FRow .u8 W A fs from fun W h => hr.below h)
  clear hall
  go_enter Try.func30, Try.ntmps30
  go_wp2_with (first
    | (go_at_call 32; refine (parseU_any fs A c x0 x1 _ hn (Hrb.out _ (by go_grown)) Hall.out hS hx0 hx0' hx1 hx1').mono ?_; rintro e w1 ⟨rfl, hbw1⟩; obtain ⟨hcw1, hfw1, hsw1, hlw1⟩ := bcellN (w.heap.size + 2) hbw1 (by first | assumption | (simp; done) | (simp; omega) | omega))
    | (go_at_call 33; refine (parseS_any fs A c x0 x1 _ hn (Hrb.out _ (by go_grown)) Hall.out hS1 hS hx0 hx0' hx1 hx1').mono ?_; rintro e w1 ⟨rfl, hbw1⟩; obtain ⟨hcw1, hfw1, hsw1, hlw1⟩ := bcellN (w.heap.size + 2) hbw1 (by first | assumption | (simp; done) | (simp; omega) | omega)))
  go_ret
  refine ⟨?_, Below.trans (by go_grown) (hbw1.mono (by simp; omega))⟩
  first | rfl | (simp; done)

set_option maxRecDepth 100000 in
set_option maxHeartbeats 2000000 in
theorem arg_VecReg (fs : List Fld) (A : Option Addr) (c : Nat) (s x0 x1 : Int) (w : World) (hn : fs.length ≤ 64) (hr : FRow .u8 w A fs) (hall : allR fs = true) (hS1 : 1 ≤ sumB fs) (hS : sumB fs ≤ 64) (hs0 : 0 ≤ s) (hs1 : s ≤ 32)
    (hx0 : 0 ≤ x0) (hx0' : x0 < 4294967296) (hx1 : 0 ≤ x1) (hx1' : x1 < 4294967296) :
    Calls Try.prog 30 #[.agg #[.int .i8 7, .int .u8 s, .slice A fs.length c], .agg #[.int .u32 x0, .int .u32 x1]] w fun e w' => e = .returned (.iface 52 (.int .u16 (IntKind.u16.wrap (65 + IntKind.u16.wrap (jn x0 x1 fs))))) ∧ Below w.heap.size w w' := by
  have Hall := Lib.hid hall
  have Hrb := Lib.hid (show ∀ W, Below w.heap.size w W → FRow .u8 W A fs from fun W h => hr.below h)
  clear hall
  go_enter Try.func30, Try.ntmps30
  go_wp2_with (first
    | (go_at_call 32; refine (parseU_any fs A c x0 x1 _ hn (Hrb.out _ (by go_grown)) Hall.out hS hx0 hx0' hx1 hx1').mono ?_; rintro e w1 ⟨rfl, hbw1⟩; obtain ⟨hcw1, hfw1, hsw1, hlw1⟩ := bcellN (w.heap.size + 2) hbw1 (by first | assumption | (simp; done) | (simp; omega) | omega))
    | (go_at_call 33; refine (parseS_any fs A c x0 x1 _ hn (Hrb.out _ (by go_grown)) Hall.out hS1 hS hx0 hx0' hx1 hx1').mono ?_; rintro e w1 ⟨rfl, hbw1⟩; obtain ⟨hcw1, hfw1, hsw1, hlw1⟩ := bcellN (w.heap.size + 2) hbw1 (by first | assumption | (simp; done) | (simp; omega) | omega)))
  go_ret
  refine ⟨?_, Below.trans (by go_grown) (hbw1.mono (by simp; omega))⟩
  first | rfl | (simp; done)

set_option maxRecDepth 100000 in
set_option maxHeartbeats 2000000 in
theorem arg_VecSReg (fs : List Fld) (A : Option Addr) (c : Nat) (s x0 x1 : Int) (w : World) (hn : fs.length ≤ 64) (hr : FRow .u8 w A fs) (hall : allR fs = true) (hS1 : 1 ≤ sumB fs) (hS : sumB fs ≤ 64) (hs0 : 0 ≤ s) (hs1 : s ≤ 32)
    (hx0 : 0 ≤ x0) (hx0' : x0 < 4294967296) (hx1 : 0 ≤ x1) (hx1' : x1 < 4294967296) :
    Calls Try.prog 30 #[.agg #[.int .i8 8, .int .u8 s, .slice A fs.length c], .agg #[.int .u32 x0, .int .u32 x1]] w fun e w' => e = .returned (.iface 52 (.int .u16 (IntKind.u16.wrap (97 + IntKind.u16.wrap (jn x0 x1 fs))))) ∧ Below w.heap.size w w' := by
  have Hall := Lib.hid hall
  have Hrb := Lib.hid (show ∀ W, Below w.heap.size w W → FRow .u8 W A fs from fun W h => hr.below h)
  clear hall
  go_enter Try.func30, Try.ntmps30
  go_wp2_with (first
    | (go_at_call 32; refine (parseU_any fs A c x0 x1 _ hn (Hrb.out _ (by go_grown)) Hall.out hS hx0 hx0' hx1 hx1').mono ?_; rintro e w1 ⟨rfl, hbw1⟩; obtain ⟨hcw1, hfw1, hsw1, hlw1⟩ := bcellN (w.heap.size + 2) hbw1 (by first | assumption | (simp; done) | (simp; omega) | omega))
    | (go_at_call 33; refine (parseS_any fs A c x0 x1 _ hn (Hrb.out _ (by go_grown)) Hall.out hS1 hS hx0 hx0' hx1 hx1').mono ?_; rintro e w1 ⟨rfl, hbw1⟩; obtain ⟨hcw1, hfw1, hsw1, hlw1⟩ := bcellN (w.heap.size + 2) hbw1 (by first | assumption | (simp; done) | (simp; omega) | omega)))
  go_ret
  refine ⟨?_, Below.trans (by go_grown) (hbw1.mono (by simp; omega))⟩
  first | rfl | (simp; done)

set_option maxRecDepth 100000 in
set_option maxHeartbeats 2000000 in
theorem arg_VecSpReg (fs : List Fld) (A : Option Addr) (c : Nat) (s x0 x1 : Int) (w : World) (hn : fs.length ≤ 64) (hr : FRow .u8 w A fs) (hall : allR fs = true) (hS1 : 1 ≤ sumB fs) (hS : sumB fs ≤ 64) (hs0 : 0 ≤ s) (hs1 : s ≤ 32)
    (hx0 : 0 ≤ x0) (hx0' : x0 < 4294967296) (hx1 : 0 ≤ x1) (hx1' : x1 < 4294967296) :
    Calls Try.prog 30 #[.agg #[.int .i8 9, .int .u8 s, .slice A fs.length c], .agg #[.int .u32 x0, .int .u32 x1]] w fun e w' => e = .returned (.iface 52 (.int .u16 (IntKind.u16.wrap (97 + IntKind.u16.wrap (IntKind.u16.wrap (jn x0 x1 fs) * 2))))) ∧ Below w.heap.size w w' := by
  have Hall := Lib.hid hall
  have Hrb := Lib.hid (show ∀ W, Below w.heap.size w W → FRow .u8 W A fs from fun W h => hr.below h)
  clear hall
  go_enter Try.func30, Try.ntmps30
  go_wp2_with (first
    | (go_at_call 32; refine (parseU_any fs A c x0 x1 _ hn (Hrb.out _ (by go_grown)) Hall.out hS hx0 hx0' hx1 hx1').mono ?_; rintro e w1 ⟨rfl, hbw1⟩; obtain ⟨hcw1, hfw1, hsw1, hlw1⟩ := bcellN (w.heap.size + 2) hbw1 (by first | assumption | (simp; done) | (simp; omega) | omega))
    | (go_at_call 33; refine (parseS_any fs A c x0 x1 _ hn (Hrb.out _ (by go_grown)) Hall.out hS1 hS hx0 hx0' hx1 hx1').mono ?_; rintro e w1 ⟨rfl, hbw1⟩; obtain ⟨hcw1, hfw1, hsw1, hlw1⟩ := bcellN (w.heap.size + 2) hbw1 (by first | assumption | (simp; done) | (simp; omega) | omega)))
  go_ret
  refine ⟨?_, Below.trans (by go_grown) (hbw1.mono (by simp; omega))⟩
  first | rfl | (simp; done)

set_option maxRecDepth 100000 in
set_option maxHeartbeats 2000000 in
theorem arg_MMAReg (fs : List Fld) (A : Option Addr) (c : Nat) (s x0 x1 : Int) (w : World) (hn : fs.length ≤ 64) (hr : FRow .u8 w A fs) (hall : allR fs = true) (hS1 : 1 ≤ sumB fs) (hS : sumB fs ≤ 64) (hs0 : 0 ≤ s) (hs1 : s ≤ 32)
    (hx0 : 0 ≤ x0) (hx0' : x0 < 4294967296) (hx1 : 0 ≤ x1) (hx1' : x1 < 4294967296) :
    Calls Try.prog 30 #[.agg #[.int .i8 10, .int .u8 s, .slice A fs.length c], .agg #[.int .u32 x0, .int .u32 x1]] w fun e w' => e = .returned (.iface 52 (.int .u16 (IntKind.u16.wrap (161 + IntKind.u16.wrap (jn x0 x1 fs))))) ∧ Below w.heap.size w w' := by
  have Hall := Lib.hid hall
  have Hrb := Lib.hid (show ∀ W, Below w.heap.size w W → FRow .u8 W A fs from fun W h => hr.below h)
  clear hall
  go_enter Try.func30, Try.ntmps30
  go_wp2_with (first
    | (go_at_call 32; refine (parseU_any fs A c x0 x1 _ hn (Hrb.out _ (by go_grown)) Hall.out hS hx0 hx0' hx1 hx1').mono ?_; rintro e w1 ⟨rfl, hbw1⟩; obtain ⟨hcw1, hfw1, hsw1, hlw1⟩ := bcellN (w.heap.size + 2) hbw1 (by first | assumption | (simp; done) | (simp; omega) | omega))
    | (go_at_call 33; refine (parseS_any fs A c x0 x1 _ hn (Hrb.out _ (by go_grown)) Hall.out hS1 hS hx0 hx0' hx1 hx1').mono ?_; rintro e w1 ⟨rfl, hbw1⟩; obtain ⟨hcw1, hfw1, hsw1, hlw1⟩ := bcellN (w.heap.size + 2) hbw1 (by first | assumption | (simp; done) | (simp; omega) | omega)))
  go_ret
  refine ⟨?_, Below.trans (by go_grown) (hbw1.mono (by simp; omega))⟩
  first | rfl | (simp; done)

set_option maxRecDepth 100000 in
set_option maxHeartbeats 2000000 in
theorem arg_SpReg (fs : List Fld) (A : Option Addr) (c : Nat) (s x0 x1 : Int) (w : World) (hn : fs.length ≤ 64) (hr : FRow .u8 w A fs) (hall : allR fs = true) (hS1 : 1 ≤ sumB fs) (hS : sumB fs ≤ 64) (hs0 : 0 ≤ s) (hs1 : s ≤ 32)
    (hx0 : 0 ≤ x0) (hx0' : x0 < 4294967296) (hx1 : 0 ≤ x1) (hx1' : x1 < 4294967296) :
    Calls Try.prog 30 #[.agg #[.int .i8 11, .int .u8 s, .slice A fs.length c], .agg #[.int .u32 x0, .int .u32 x1]] w fun e w' => e = .returned (.iface 54 (.int .u16 (IntKind.u16.wrap (jn x0 x1 fs)))) ∧ Below w.heap.size w w' := by
  have Hall := Lib.hid hall
  have Hrb := Lib.hid (show ∀ W, Below w.heap.size w W → FRow .u8 W A fs from fun W h => hr.below h)
  clear hall
  go_enter Try.func30, Try.ntmps30
  go_wp2_with (first
    | (go_at_call 32; refine (parseU_any fs A c x0 x1 _ hn (Hrb.out _ (by go_grown)) Hall.out hS hx0 hx0' hx1 hx1').mono ?_; rintro e w1 ⟨rfl, hbw1⟩; obtain ⟨hcw1, hfw1, hsw1, hlw1⟩ := bcellN (w.heap.size + 2) hbw1 (by first | assumption | (simp; done) | (simp; omega) | omega))
    | (go_at_call 33; refine (parseS_any fs A c x0 x1 _ hn (Hrb.out _ (by go_grown)) Hall.out hS1 hS hx0 hx0' hx1 hx1').mono ?_; rintro e w1 ⟨rfl, hbw1⟩; obtain ⟨hcw1, hfw1, hsw1, hlw1⟩ := bcellN (w.heap.size + 2) hbw1 (by first | assumption | (simp; done) | (simp; omega) | omega)))
  go_ret
  refine ⟨?_, Below.trans (by go_grown) (hbw1.mono (by simp; omega))⟩
  first | rfl | (simp; done)

set_option maxRecDepth 100000 in
set_option maxHeartbeats 2000000 in
theorem arg_ImmSigned (fs : List Fld) (A : Option Addr) (c : Nat) (s x0 x1 : Int) (w : World) (hn : fs.length ≤ 64) (hr : FRow .u8 w A fs) (hall : allR fs = true) (hS1 : 1 ≤ sumB fs) (hS : sumB fs ≤ 64) (hs0 : 0 ≤ s) (hs1 : s ≤ 32)
    (hx0 : 0 ≤ x0) (hx0' : x0 < 4294967296) (hx1 : 0 ≤ x1) (hx1' : x1 < 4294967296) :
    Calls Try.prog 30 #[.agg #[.int .i8 12, .int .u8 s, .slice A fs.length c], .agg #[.int .u32 x0, .int .u32 x1]] w fun e w' => e = .returned (.iface 55 (.int .i64 (IntKind.i64.wrap (sgn (jn x0 x1 fs) (sumB fs) * 2 ^ s.toNat)))) ∧ Below w.heap.size w w' := by
  have Hall := Lib.hid hall
  have Hrb := Lib.hid (show ∀ W, Below w.heap.size w W → FRow .u8 W A fs from fun W h => hr.below h)
  clear hall
  go_enter Try.func30, Try.ntmps30
  go_wp2_with fail
  go_region_held3 (fun w' => w'.cell? ⟨w.heap.size, 0, none⟩ = some (.int .i8 12) ∧ w'.cell? ⟨w.heap.size, 1, none⟩ = some (.int .u8 s) ∧ w'.cell? ⟨w.heap.size, 2, none⟩ = some (.slice A fs.length c) ∧ w'.cell? ⟨w.heap.size + 1, 0, none⟩ = some (.int .u32 x0) ∧ w'.cell? ⟨w.heap.size + 1, 1, none⟩ = some (.int .u32 x1)) (go_keep) (first
    | (go_at_call 32; refine (parseU_any fs A c x0 x1 _ hn (Hrb.out _ (by go_grown)) Hall.out hS hx0 hx0' hx1 hx1').mono ?_; rintro e w1 ⟨rfl, hbw1⟩; obtain ⟨hcw1, hfw1, hsw1, hlw1⟩ := bcellN (w.heap.size + 2) hbw1 (by first | assumption | (simp; done) | (simp; omega) | omega))
    | (go_at_call 33; refine (parseS_any fs A c x0 x1 _ hn (Hrb.out _ (by go_grown)) Hall.out hS1 hS hx0 hx0' hx1 hx1').mono ?_; rintro e w1 ⟨rfl, hbw1⟩; obtain ⟨hcw1, hfw1, hsw1, hlw1⟩ := bcellN (w.heap.size + 2) hbw1 (by first | assumption | (simp; done) | (simp; omega) | omega)))
  go_wp2
  go_ret
  refine ⟨?_, Below.trans (by go_grown) (hbw1.mono (by simp; omega))⟩
  first | rfl | (simp; done)

set_option maxRecDepth 100000 in
set_option maxHeartbeats 2000000 in
theorem arg_ImmUnsigned (fs : List Fld) (A : Option Addr) (c : Nat) (s x0 x1 : Int) (w : World) (hn : fs.length ≤ 64) (hr : FRow .u8 w A fs) (hall : allR fs = true) (hS1 : 1 ≤ sumB fs) (hS : sumB fs ≤ 64) (hs0 : 0 ≤ s) (hs1 : s ≤ 32)
    (hx0 : 0 ≤ x0) (hx0' : x0 < 4294967296) (hx1 : 0 ≤ x1) (hx1' : x1 < 4294967296) :
    Calls Try.prog 30 #[.agg #[.int .i8 13, .int .u8 s, .slice A fs.length c], .agg #[.int .u32 x0, .int .u32 x1]] w fun e w' => e = .returned (.iface 55 (.int .i64 (IntKind.i64.wrap (IntKind.u64.wrap (jn x0 x1 fs * 2 ^ s.toNat))))) ∧ Below w.heap.size w w' := by
  have Hall := Lib.hid hall
  have Hrb := Lib.hid (show ∀ W, Below w.heap.size w W → FRow .u8 W A fs from fun W h => hr.below h)
  clear hall
  go_enter Try.func30, Try.ntmps30
  go_wp2_with fail
  go_region_held3 (fun w' => w'.cell? ⟨w.heap.size, 0, none⟩ = some (.int .i8 13) ∧ w'.cell? ⟨w.heap.size, 1, none⟩ = some (.int .u8 s) ∧ w'.cell? ⟨w.heap.size, 2, none⟩ = some (.slice A fs.length c) ∧ w'.cell? ⟨w.heap.size + 1, 0, none⟩ = some (.int .u32 x0) ∧ w'.cell? ⟨w.heap.size + 1, 1, none⟩ = some (.int .u32 x1)) (go_keep) (first
    | (go_at_call 32; refine (parseU_any fs A c x0 x1 _ hn (Hrb.out _ (by go_grown)) Hall.out hS hx0 hx0' hx1 hx1').mono ?_; rintro e w1 ⟨rfl, hbw1⟩; obtain ⟨hcw1, hfw1, hsw1, hlw1⟩ := bcellN (w.heap.size + 2) hbw1 (by first | assumption | (simp; done) | (simp; omega) | omega))
    | (go_at_call 33; refine (parseS_any fs A c x0 x1 _ hn (Hrb.out _ (by go_grown)) Hall.out hS1 hS hx0 hx0' hx1 hx1').mono ?_; rintro e w1 ⟨rfl, hbw1⟩; obtain ⟨hcw1, hfw1, hsw1, hlw1⟩ := bcellN (w.heap.size + 2) hbw1 (by first | assumption | (simp; done) | (simp; omega) | omega)))
  go_wp2
  go_ret
  refine ⟨?_, Below.trans (by go_grown) (hbw1.mono (by simp; omega))⟩
  first | rfl | (simp; done)

set_option maxRecDepth 100000 in
set_option maxHeartbeats 2000000 in
theorem arg_PCRel (fs : List Fld) (A : Option Addr) (c : Nat) (s x0 x1 : Int) (w : World) (hn : fs.length ≤ 64) (hr : FRow .u8 w A fs) (hall : allR fs = true) (hS1 : 1 ≤ sumB fs) (hS : sumB fs ≤ 64) (hs0 : 0 ≤ s) (hs1 : s ≤ 32)
    (hx0 : 0 ≤ x0) (hx0' : x0 < 4294967296) (hx1 : 0 ≤ x1) (hx1' : x1 < 4294967296) :
    Calls Try.prog 30 #[.agg #[.int .i8 1, .int .u8 s, .slice A fs.length c], .agg #[.int .u32 x0, .int .u32 x1]] w fun e w' => e = .returned (.iface 56 (.int .i32 (IntKind.i32.wrap (IntKind.i64.wrap (sgn (jn x0 x1 fs) (sumB fs) * 2 ^ s.toNat))))) ∧ Below w.heap.size w w' := by
  have Hall := Lib.hid hall
  have Hrb := Lib.hid (show ∀ W, Below w.heap.size w W → FRow .u8 W A fs from fun W h => hr.below h)
  clear hall
  go_enter Try.func30, Try.ntmps30
  go_wp2_with fail
  go_region_held3 (fun w' => w'.cell? ⟨w.heap.size, 0, none⟩ = some (.int .i8 1) ∧ w'.cell? ⟨w.heap.size, 1, none⟩ = some (.int .u8 s) ∧ w'.cell? ⟨w.heap.size, 2, none⟩ = some (.slice A fs.length c) ∧ w'.cell? ⟨w.heap.size + 1, 0, none⟩ = some (.int .u32 x0) ∧ w'.cell? ⟨w.heap.size + 1, 1, none⟩ = some (.int .u32 x1)) (go_keep) (first
    | (go_at_call 32; refine (parseU_any fs A c x0 x1 _ hn (Hrb.out _ (by go_grown)) Hall.out hS hx0 hx0' hx1 hx1').mono ?_; rintro e w1 ⟨rfl, hbw1⟩; obtain ⟨hcw1, hfw1, hsw1, hlw1⟩ := bcellN (w.heap.size + 2) hbw1 (by first | assumption | (simp; done) | (simp; omega) | omega))
    | (go_at_call 33; refine (parseS_any fs A c x0 x1 _ hn (Hrb.out _ (by go_grown)) Hall.out hS1 hS hx0 hx0' hx1 hx1').mono ?_; rintro e w1 ⟨rfl, hbw1⟩; obtain ⟨hcw1, hfw1, hsw1, hlw1⟩ := bcellN (w.heap.size + 2) hbw1 (by first | assumption | (simp; done) | (simp; omega) | omega)))
  go_wp2
  go_ret
  refine ⟨?_, Below.trans (by go_grown) (hbw1.mono (by simp; omega))⟩
  first | rfl | (simp; done)

set_option maxRecDepth 100000 in
set_option maxHeartbeats 2000000 in
theorem arg_Label (fs : List Fld) (A : Option Addr) (c : Nat) (s x0 x1 : Int) (w : World) (hn : fs.length ≤ 64) (hr : FRow .u8 w A fs) (hall : allR fs = true) (hS1 : 1 ≤ sumB fs) (hS : sumB fs ≤ 64) (hs0 : 0 ≤ s) (hs1 : s ≤ 32)
    (hx0 : 0 ≤ x0) (hx0' : x0 < 4294967296) (hx1 : 0 ≤ x1) (hx1' : x1 < 4294967296) :
    Calls Try.prog 30 #[.agg #[.int .i8 2, .int .u8 s, .slice A fs.length c], .agg #[.int .u32 x0, .int .u32 x1]] w fun e w' => e = .returned (.iface 57 (.int .u32 (IntKind.u32.wrap (IntKind.i64.wrap (sgn (jn x0 x1 fs) (sumB fs) * 2 ^ s.toNat))))) ∧ Below w.heap.size w w' := by
  have Hall := Lib.hid hall
  have Hrb := Lib.hid (show ∀ W, Below w.heap.size w W → FRow .u8 W A fs from fun W h => hr.below h)
  clear hall
  go_enter Try.func30, Try.ntmps30
  go_wp2_with fail
  go_region_held3 (fun w' => w'.cell? ⟨w.heap.size, 0, none⟩ = some (.int .i8 2) ∧ w'.cell? ⟨w.heap.size, 1, none⟩ = some (.int .u8 s) ∧ w'.cell? ⟨w.heap.size, 2, none⟩ = some (.slice A fs.length c) ∧ w'.cell? ⟨w.heap.size + 1, 0, none⟩ = some (.int .u32 x0) ∧ w'.cell? ⟨w.heap.size + 1, 1, none⟩ = some (.int .u32 x1)) (go_keep) (first
    | (go_at_call 32; refine (parseU_any fs A c x0 x1 _ hn (Hrb.out _ (by go_grown)) Hall.out hS hx0 hx0' hx1 hx1').mono ?_; rintro e w1 ⟨rfl, hbw1⟩; obtain ⟨hcw1, hfw1, hsw1, hlw1⟩ := bcellN (w.heap.size + 2) hbw1 (by first | assumption | (simp; done) | (simp; omega) | omega))
    | (go_at_call 33; refine (parseS_any fs A c x0 x1 _ hn (Hrb.out _ (by go_grown)) Hall.out hS1 hS hx0 hx0' hx1 hx1').mono ?_; rintro e w1 ⟨rfl, hbw1⟩; obtain ⟨hcw1, hfw1, hsw1, hlw1⟩ := bcellN (w.heap.size + 2) hbw1 (by first | assumption | (simp; done) | (simp; omega) | omega)))
  go_wp2
  go_ret
  refine ⟨?_, Below.trans (by go_grown) (hbw1.mono (by simp; omega))⟩
  first | rfl | (simp; done)

set_option maxRecDepth 100000 in
set_option maxHeartbeats 2000000 in
theorem arg_Offset (fs : List Fld) (A : Option Addr) (c : Nat) (s x0 x1 : Int) (w : World) (hn : fs.length ≤ 64) (hr : FRow .u8 w A fs) (hall : allR fs = true) (hS1 : 1 ≤ sumB fs) (hS : sumB fs ≤ 64) (hs0 : 0 ≤ s) (hs1 : s ≤ 32)
    (hx0 : 0 ≤ x0) (hx0' : x0 < 4294967296) (hx1 : 0 ≤ x1) (hx1' : x1 < 4294967296) :
    Calls Try.prog 30 #[.agg #[.int .i8 14, .int .u8 s, .slice A fs.length c], .agg #[.int .u32 x0, .int .u32 x1]] w fun e w' => e = .returned (.iface 58 (.int .i64 (IntKind.i64.wrap (sgn (jn x0 x1 fs) (sumB fs) * 2 ^ s.toNat)))) ∧ Below w.heap.size w w' := by
  have Hall := Lib.hid hall
  have Hrb := Lib.hid (show ∀ W, Below w.heap.size w W → FRow .u8 W A fs from fun W h => hr.below h)
  clear hall
  go_enter Try.func30, Try.ntmps30
  go_wp2_with fail
  go_region_held3 (fun w' => w'.cell? ⟨w.heap.size, 0, none⟩ = some (.int .i8 14) ∧ w'.cell? ⟨w.heap.size, 1, none⟩ = some (.int .u8 s) ∧ w'.cell? ⟨w.heap.size, 2, none⟩ = some (.slice A fs.length c) ∧ w'.cell? ⟨w.heap.size + 1, 0, none⟩ = some (.int .u32 x0) ∧ w'.cell? ⟨w.heap.size + 1, 1, none⟩ = some (.int .u32 x1)) (go_keep) (first
    | (go_at_call 32; refine (parseU_any fs A c x0 x1 _ hn (Hrb.out _ (by go_grown)) Hall.out hS hx0 hx0' hx1 hx1').mono ?_; rintro e w1 ⟨rfl, hbw1⟩; obtain ⟨hcw1, hfw1, hsw1, hlw1⟩ := bcellN (w.heap.size + 2) hbw1 (by first | assumption | (simp; done) | (simp; omega) | omega))
    | (go_at_call 33; refine (parseS_any fs A c x0 x1 _ hn (Hrb.out _ (by go_grown)) Hall.out hS1 hS hx0 hx0' hx1 hx1').mono ?_; rintro e w1 ⟨rfl, hbw1⟩; obtain ⟨hcw1, hfw1, hsw1, hlw1⟩ := bcellN (w.heap.size + 2) hbw1 (by first | assumption | (simp; done) | (simp; omega) | omega)))
  go_wp2
  go_ret
  refine ⟨?_, Below.trans (by go_grown) (hbw1.mono (by simp; omega))⟩
  first | rfl | (simp; done)

set_option maxRecDepth 100000 in
set_option maxHeartbeats 4000000 in
theorem arg_NegOffset (fs : List Fld) (A : Option Addr) (c : Nat) (s x0 x1 : Int) (w : World) (hn : fs.length ≤ 64) (hr : FRow .u8 w A fs) (hall : allR fs = true) (hS1 : 1 ≤ sumB fs) (hS : sumB fs ≤ 64) (hs0 : 0 ≤ s) (hs1 : s ≤ 32)
    (hx0 : 0 ≤ x0) (hx0' : x0 < 4294967296) (hx1 : 0 ≤ x1) (hx1' : x1 < 4294967296) (hss : s + sumB fs ≤ 63) :
    Calls Try.prog 30 #[.agg #[.int .i8 15, .int .u8 s, .slice A fs.length c], .agg #[.int .u32 x0, .int .u32 x1]] w fun e w' => e = .returned (.iface 58 (.int .i64 (bits .or .i64 (wrap64 (-2 ^ (s + sumB fs).toNat)) (wrap64 (sgn (jn x0 x1 fs) (sumB fs) * 2 ^ s.toNat))))) ∧ Below w.heap.size w w' := by
  have Hall := Lib.hid hall
  have Hrb := Lib.hid (show ∀ W, Below w.heap.size w W → FRow .u8 W A fs from fun W h => hr.below h)
  clear hall
  have Hsum := Lib.hid (show IntKind.i64.wrap (s + sumB fs) = s + sumB fs from IntWalk.i64_in _ (by omega))
  have hsum0 : 0 ≤ s + sumB fs := by omega
  go_enter Try.func30, Try.ntmps30
  go_wp2_with fail
  go_region_held3 (fun w' => w'.cell? ⟨w.heap.size, 0, none⟩ = some (.int .i8 15) ∧ w'.cell? ⟨w.heap.size, 1, none⟩ = some (.int .u8 s) ∧ w'.cell? ⟨w.heap.size, 2, none⟩ = some (.slice A fs.length c) ∧ w'.cell? ⟨w.heap.size + 1, 0, none⟩ = some (.int .u32 x0) ∧ w'.cell? ⟨w.heap.size + 1, 1, none⟩ = some (.int .u32 x1)) (go_keep) (first
    | (go_at_call 32; refine (parseU_any fs A c x0 x1 _ hn (Hrb.out _ (by go_grown)) Hall.out hS hx0 hx0' hx1 hx1').mono ?_; rintro e w1 ⟨rfl, hbw1⟩; obtain ⟨hcw1, hfw1, hsw1, hlw1⟩ := bcellN (w.heap.size + 2) hbw1 (by first | assumption | (simp; done) | (simp; omega) | omega))
    | (go_at_call 33; refine (parseS_any fs A c x0 x1 _ hn (Hrb.out _ (by go_grown)) Hall.out hS1 hS hx0 hx0' hx1 hx1').mono ?_; rintro e w1 ⟨rfl, hbw1⟩; obtain ⟨hcw1, hfw1, hsw1, hlw1⟩ := bcellN (w.heap.size + 2) hbw1 (by first | assumption | (simp; done) | (simp; omega) | omega)))
  go_wp2_with fail
  have z0 : w.heap.size < w1.heap.size := by omega
  have hsum := Hsum.out
  have hws : IntKind.i64.wrap s = s := IntWalk.i64_in _ (by omega)
  go_region_held3 (fun w' => w'.cell? ⟨w.heap.size, 0, none⟩ = some (.int .i8 15) ∧ w'.cell? ⟨w.heap.size, 1, none⟩ = some (.int .u8 s) ∧ w'.cell? ⟨w.heap.size, 2, none⟩ = some (.slice A fs.length c) ∧ w'.cell? ⟨w.heap.size + 1, 0, none⟩ = some (.int .u32 x0) ∧ w'.cell? ⟨w.heap.size + 1, 1, none⟩ = some (.int .u32 x1)) (go_keep) (first
    | (go_at_call 34; refine (numBits_any fs A c _ hn (Hrb.out _ (by repeat' (first | (with_reducible exact Below.refl _ _) | (with_reducible refine Below.drew ?_) | (with_reducible refine Below.alloc ?_ ?_ _) | (with_reducible refine Below.setCell ?_ ?_ _) | (with_reducible refine Below.trans ?_ (hbw1.mono ?_)) | (simp; done) | (simp; omega) | omega | (have zz1 := hbw1.size; simp at zz1 ⊢; omega)))) Hall.out).mono ?_; rintro e w2 ⟨rfl, hbw2⟩; obtain ⟨hcw2, hfw2, hsw2, hlw2⟩ := bcellN (w.heap.size + 2) hbw2 (by first | assumption | (simp; done) | (simp; omega) | omega)))
  go_wp2
  go_ret
  refine ⟨?_, (by repeat' (first | (with_reducible exact Below.refl _ _) | (with_reducible refine Below.drew ?_) | (with_reducible refine Below.alloc ?_ ?_ _) | (with_reducible refine Below.setCell ?_ ?_ _) | (with_reducible refine Below.trans ?_ (hbw2.mono ?_)) | (with_reducible refine Below.trans ?_ (hbw1.mono ?_)) | (simp; done) | (simp; omega) | omega | (have zz1 := hbw1.size; simp at zz1 ⊢; omega)))⟩
  first | rfl | (simp; done)

end Go.Proofs.Ytdoibobhjcdcjaa
