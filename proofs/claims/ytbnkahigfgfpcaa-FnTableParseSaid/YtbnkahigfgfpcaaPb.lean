/- The thin package's Parse: an argument of a kind out of two words. -/
import Derived.Test.YtbnkahigfgfpcaaPa
import Derived.Test.YtbnkahigfgfpcaaTa
import Derived.Defers
import Derived.Recover
import Derived.Deep.RegionWith
import Derived.WalkKit
import Derived.WalkSpells
import Derived.WalkLawsBesides
import Derived.Below
import Derived.Laws.Pointers
import Derived.Deep.RegionHeld3
import Derived.Handy
import Derived.Lib.Hide
namespace Go.Proofs.Ytbnkahigfgfpcaa
open Go.RowKit
set_option linter.unusedVariables false

set_option maxRecDepth 100000 in
set_option maxHeartbeats 4000000 in
theorem parse_of {K s : Int} {fs : List Fld} {x0 x1 : Int} {r : Value} {num v : Int} (h : ArgSays K s fs x0 x1 r) (ho : OfSays r (.agg #[.int .i64 num, .int .i64 v])) (A : Option Addr) (c : Nat) (w : World)
    (hK0 : 0 ≤ K) (hK1 : K ≤ 127) (hs0 : 0 ≤ s) (hs1 : s ≤ 255) (hn : fs.length ≤ 64) (hr : FRow .i64 w A fs) (hall : allR fs = true) (hS1 : 1 ≤ sumB fs) :
    Calls Try.prog 7 #[.int .i64 K, .int .i64 s, .slice A fs.length c, .agg #[.int .u32 x0, .int .u32 x1]] w fun e w' => e = .returned (.tuple #[.agg #[.int .i64 num, .int .i64 v], .bool true]) ∧ Below w.heap.size w w' := by
  have HwK := Lib.hid (show IntKind.i8.wrap K = K from IntWalk.i8_in _ (by omega))
  have Hws := Lib.hid (show IntKind.u8.wrap s = s from IntWalk.u8_in _ (by omega))
  have Hne := Lib.hid (ne_of_sum hS1)
  have Hall := Lib.hid hall
  have Hh := Lib.hid h
  have Ho := Lib.hid ho
  clear hall h ho
  have Hrb := Lib.hid (show ∀ W, Below w.heap.size w W → FRow .i64 W A fs from fun W h => hr.below h)
  have hmf : ∀ (fn : Fn) (first cap : Array Value) (w : World), (Instr.makeFunc fn first cap).run Try.prog w = .ok (.func fn first cap) w := fun _ _ _ _ => rfl
  go_enter_defers Try.func7, Try.ntmps7
  go_wp2_with fail
  refine wp_region_noPanic ?_
  go_region_with (first
    | (go_at_call 14; refine (many_ne fs A c _ hn (Hrb.out _ (by go_grown)) Hall.out Hne.out).mono ?_; rintro e w1 ⟨g, cap, rfl, hrow, hbw1⟩; obtain ⟨hcw1, hfw1, hsw1, hlw1⟩ := bcellN (w.heap.size + 3) hbw1 (by first | assumption | (simp; done) | (simp; omega) | omega))
    | (go_at_call 13; rw [HwK.out, Hws.out]; refine (zz_of Hh.out _ _ _ hrow).mono ?_; rintro e w2 ⟨rfl, hbw2⟩; obtain ⟨hcw2, hfw2, hsw2, hlw2⟩ := bcellN (w.heap.size + 3) hbw2 (by first | assumption | (simp; done) | (simp; omega) | omega))
    | (go_at_call 12; refine (Ho.out _).mono ?_; rintro e w3 ⟨rfl, hbw3⟩; obtain ⟨hcw3, hfw3, hsw3, hlw3⟩ := bcellN (w.heap.size + 3) hbw3 (by first | assumption | (simp; done) | (simp; omega) | omega)))
  all_goals
    refine NoPanic.normal ?_
    go_wp2
    refine leaves_cons (f := 11) (args := #[.pointer (some ⟨w.heap.size + 1, 0, none⟩), .pointer (some ⟨w.heap.size + 2, 0, none⟩)]) (by simp) (by simp [go_sem]) ?_
    refine (catch_Parse_idle _ _ _).mono ?_
    rintro e u' w'' ⟨rfl, rfl, rfl⟩
    simp [Leaves, settle, results, Try.results7, go_sem, hcw1, hcw2, hcw3]
  all_goals
    repeat' (first | (with_reducible exact Below.refl _ _) | (with_reducible refine Below.drew ?_) | (with_reducible refine Below.alloc ?_ ?_ _) | (with_reducible refine Below.setCell ?_ ?_ _) | (with_reducible refine Below.trans ?_ (hbw3.mono ?_)) | (with_reducible refine Below.trans ?_ (hbw2.mono ?_)) | (with_reducible refine Below.trans ?_ (hbw1.mono ?_)) | (simp; done) | (simp; omega) | omega)
end Go.Proofs.Ytbnkahigfgfpcaa
