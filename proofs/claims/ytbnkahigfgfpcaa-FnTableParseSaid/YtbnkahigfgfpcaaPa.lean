/- The thin package's Parse: an argument of a kind out of two words. -/
import Derived.Test.YtbnkahigfgfpcaaBf
import Derived.Test.YtbnkahigfgfpcaaTa
import Derived.Defers
import Derived.Recover
import Derived.Deep.RegionWith
import Derived.WalkKit
import Derived.WalkSpells
import Derived.WalkLawsBesides
import Derived.Below
import Derived.Laws.Pointers
import Derived.Deep.RegionHeld3
import Derived.Handy
import Derived.Lib.Hide
namespace Go.Proofs.Ytbnkahigfgfpcaa
open Go.RowKit
set_option linter.unusedVariables false

theorem ne_of_sum {fs : List Fld} (h : 1 ≤ sumB fs) : fs ≠ [] := by
  rintro rfl
  simp [sumB] at h
/-- The call ends with a slice that holds these fields. -/
def ManyRow (fs : List Fld) (w : World) (e : Ending) (w' : World) : Prop :=
  ∃ g cap, e = .returned (.slice (some ⟨g, 0, none⟩) fs.length cap) ∧ FRow .u8 w' (some ⟨g, 0, none⟩) fs ∧ Below w.heap.size w w'
theorem many_ne (fs : List Fld) (A : Option Addr) (c : Nat) (w : World) (hn : fs.length ≤ 64) (hr : FRow .i64 w A fs) (hall : allR fs = true) (hne : fs ≠ []) :
    Calls Try.prog 14 #[.slice A fs.length c] w (ManyRow fs w) :=
  (many_any fs A c w hn hr hall).mono fun e w' ⟨v, he, hown, hb⟩ => by
    obtain ⟨g, cap, hv, _, _⟩ := hown.form (List.length_pos_iff.2 hne)
    subst hv
    exact ⟨g, cap, he, FRow.of_own rfl hown, hb⟩

/-- What the package's Parse of an argument's field tells of these fields, wherever they lie. -/
def ArgSays (K s : Int) (fs : List Fld) (x0 x1 : Int) (r : Value) : Prop :=
  ∀ (A : Option Addr) (c : Nat) (W : World), FRow .u8 W A fs → Calls Try.prog 16 #[.agg #[.int .i8 K, .int .u8 s, .slice A fs.length c], .agg #[.int .u32 x0, .int .u32 x1]] W fun e w' => e = .returned r ∧ Below W.heap.size W w'
def OfSays (r a : Value) : Prop := ∀ W : World, Calls Try.prog 12 #[r] W fun e w' => e = .returned a ∧ Below W.heap.size W w'

set_option maxHeartbeats 2000000 in
theorem zz_of {K s : Int} {fs : List Fld} {x0 x1 : Int} {r : Value} (h : ArgSays K s fs x0 x1 r) (A : Option Addr) (c : Nat) (w : World) (hr : FRow .u8 w A fs) :
    Calls Try.prog 13 #[.int .i8 K, .int .u8 s, .slice A fs.length c, .agg #[.int .u32 x0, .int .u32 x1]] w fun e w' => e = .returned r ∧ Below w.heap.size w w' := by
  have Hh := Lib.hid h
  clear h
  have Hrb := Lib.hid (show ∀ W, Below w.heap.size w W → FRow .u8 W A fs from fun W h => hr.below h)
  go_enter Try.func13, Try.ntmps13
  go_wp2_with fail
  refine (Hh.out A c _ (Hrb.out _ (by go_grown))).mono ?_
  rintro e w1 ⟨rfl, hb1⟩
  go_wp2
  go_ret
  exact ⟨rfl, Below.trans (by go_grown) (hb1.mono (by simp))⟩

theorem catch_Parse_idle (p q : Addr) (w : World) :
    CallsD Try.prog 11 #[.pointer (some p), .pointer (some q)] .returning w fun e u' w' => e = .returned (.tuple #[]) ∧ u' = .returning ∧ w' = w := by
  refine callsD_of_wpS Try.func11 rfl fun c₀ cs hu => ?_
  apply wpS_seq
  apply wpS_region
  simp [wpOpsS, go_sem, recoverD, hu, Try.ntmps11, Exit.thenS]
  refine wpS_cond (t := false) (by simp [Act.eval, Array.replicate]) ?_
  simp only [Bool.false_eq_true, if_false]
  refine wpS_of_wp (wp_skip ?_)
  cases c₀
  simp_all [bodyPostS, results, Try.results11]

end Go.Proofs.Ytbnkahigfgfpcaa
