/- The thin package's FieldsBits, FieldsParse and FieldsSigned. -/
import Derived.Test.YtcijejfekeedlaaBf
import Derived.WalkKit
import Derived.WalkSpells
import Derived.WalkLawsBesides
import Derived.Below
import Derived.Defers
import Derived.Recover
import Derived.Deep.RegionWith
import Derived.Deep.RegionHeld3
import Derived.Laws.Pointers
import Derived.Handy
import Derived.Lib.Hide
namespace Go.Proofs.Ytcijejfekeedlaa
open Go.RowKit

theorem ne_of_sum {fs : List Fld} (h : 1 ≤ sumB fs) : fs ≠ [] := by
  rintro rfl
  simp [sumB] at h
/-- The call ends with a slice that holds these fields. -/
def ManyRow (fs : List Fld) (w : World) (e : Ending) (w' : World) : Prop :=
  ∃ g cap, e = .returned (.slice (some ⟨g, 0, none⟩) fs.length cap) ∧ FRow .u8 w' (some ⟨g, 0, none⟩) fs ∧ Below w.heap.size w w'
theorem many_ne (fs : List Fld) (A : Option Addr) (c : Nat) (w : World) (hn : fs.length ≤ 64) (hr : FRow .i64 w A fs) (hall : allR fs = true) (hne : fs ≠ []) :
    Calls Try.prog 30 #[.slice A fs.length c] w (ManyRow fs w) :=
  (many_any fs A c w hn hr hall).mono fun e w' ⟨v, he, hown, hb⟩ => by
    obtain ⟨g, cap, hv, _, _⟩ := hown.form (List.length_pos_iff.2 hne)
    subst hv
    exact ⟨g, cap, he, FRow.of_own rfl hown, hb⟩

set_option maxHeartbeats 1000000 in
theorem fieldsBits_any (fs : List Fld) (A : Option Addr) (c : Nat) (w : World) (hn : fs.length ≤ 64) (hr : FRow .i64 w A fs) (hall : allR fs = true) (hS1 : 1 ≤ sumB fs) :
    Calls Try.prog 18 #[.slice A fs.length c] w fun e w' => e = .returned (.int .i64 (sumB fs)) ∧ Below w.heap.size w w' := by
  have Hne := Lib.hid (ne_of_sum hS1)
  have Hall := Lib.hid hall
  clear hall
  go_enter Try.func18, Try.ntmps18
  go_wp2_with fail
  refine (many_ne fs A c _ hn hr Hall.out Hne.out).mono ?_
  rintro e w1 ⟨g, cap, rfl, hrow, hb1⟩
  go_wp2_with fail
  refine (numBits_any fs _ _ _ hn hrow Hall.out).mono ?_
  rintro e w2 ⟨rfl, hb2⟩
  go_wp2
  go_ret
  exact ⟨rfl, hb1.trans (hb2.mono hb1.size)⟩

theorem sgn_b64 (n b : Int) (hb : 1 ≤ b) (hb' : b ≤ 64) (h0 : 0 ≤ n) (h1 : n < 2 ^ b.toNat) : -9223372036854775808 ≤ sgn n b ∧ sgn n b ≤ 9223372036854775807 := by
  have h := sgn_bounds n b hb h0 h1
  have h2 : (2 : Int) ^ (b - 1).toNat ≤ 9223372036854775808 := two_le (n := 63) (by omega)
  omega

theorem catch_fieldsParse_idle (p q : Addr) (w : World) :
    CallsD Try.prog 37 #[.pointer (some p), .pointer (some q)] .returning w fun e u' w' => e = .returned (.tuple #[]) ∧ u' = .returning ∧ w' = w := by
  refine callsD_of_wpS Try.func37 rfl fun c₀ cs hu => ?_
  apply wpS_seq
  apply wpS_region
  simp [wpOpsS, go_sem, recoverD, hu, Try.ntmps37, Exit.thenS]
  refine wpS_cond (t := false) (by simp [Act.eval, Array.replicate]) ?_
  simp only [Bool.false_eq_true, if_false]
  refine wpS_of_wp (wp_skip ?_)
  cases c₀
  simp_all [bodyPostS, results, Try.results37]

set_option maxHeartbeats 2000000 in
theorem fieldsParse_any (fs : List Fld) (A : Option Addr) (c : Nat) (x0 x1 : Int) (w : World) (hn : fs.length ≤ 64) (hr : FRow .i64 w A fs) (hall : allR fs = true) (hS1 : 1 ≤ sumB fs) (hS : sumB fs ≤ 64)
    (hx0 : 0 ≤ x0) (hx0' : x0 < 4294967296) (hx1 : 0 ≤ x1) (hx1' : x1 < 4294967296) :
    Calls Try.prog 24 #[.slice A fs.length c, .agg #[.int .u32 x0, .int .u32 x1]] w fun e w' => e = .returned (.tuple #[.int .u64 (jn x0 x1 fs), .bool true]) ∧ Below w.heap.size w w' := by
  have Hne := Lib.hid (ne_of_sum hS1)
  have Hall := Lib.hid hall
  clear hall
  have Hrb := Lib.hid (show ∀ W, Below w.heap.size w W → FRow .i64 W A fs from fun W h => hr.below h)
  have hmf : ∀ (fn : Fn) (first cap : Array Value) (w : World), (Instr.makeFunc fn first cap).run Try.prog w = .ok (.func fn first cap) w := fun _ _ _ _ => rfl
  go_enter_defers Try.func24, Try.ntmps24
  go_wp2_with fail
  refine wp_region_noPanic ?_
  go_region_with (first
    | (go_at_call 30; refine (many_ne fs A c _ hn (Hrb.out _ (by go_grown)) Hall.out Hne.out).mono ?_; rintro e w1 ⟨g, cap, rfl, hrow, hbel⟩; obtain ⟨hc, hf, hs, hl⟩ := bcellN (w.heap.size + 3) hbel (by first | assumption | (simp; done) | (simp; omega) | omega))
    | (go_at_call 38; refine (parseU_any fs _ _ x0 x1 _ hn hrow Hall.out hS hx0 hx0' hx1 hx1').mono ?_; rintro e w2 ⟨rfl, hbel'⟩; obtain ⟨hc', hf', hs', hl'⟩ := bcellN (w.heap.size + 3) hbel' (by first | assumption | (simp; done) | (simp; omega) | omega)))
  all_goals
    refine NoPanic.normal ?_
    go_wp2
    refine leaves_cons (f := 37) (args := #[.pointer (some ⟨w.heap.size + 1, 0, none⟩), .pointer (some ⟨w.heap.size + 2, 0, none⟩)]) (by simp) (by simp [go_sem]) ?_
    refine (catch_fieldsParse_idle _ _ _).mono ?_
    rintro e u' w'' ⟨rfl, rfl, rfl⟩
    simp [Leaves, settle, results, Try.results24, go_sem, hc, hc']
  all_goals
    repeat' (first | (with_reducible exact Below.refl _ _) | (with_reducible refine Below.setCell ?_ ?_ _) | (with_reducible refine Below.drew ?_) | (with_reducible refine Below.alloc ?_ ?_ _) | (with_reducible refine Below.trans ?_ (hbel'.mono ?_)) | (with_reducible refine Below.trans ?_ (hbel.mono ?_)) | (simp; done) | (simp; omega) | omega)

theorem catch_fieldsSigned_idle (p q : Addr) (w : World) :
    CallsD Try.prog 39 #[.pointer (some p), .pointer (some q)] .returning w fun e u' w' => e = .returned (.tuple #[]) ∧ u' = .returning ∧ w' = w := by
  refine callsD_of_wpS Try.func39 rfl fun c₀ cs hu => ?_
  apply wpS_seq
  apply wpS_region
  simp [wpOpsS, go_sem, recoverD, hu, Try.ntmps39, Exit.thenS]
  refine wpS_cond (t := false) (by simp [Act.eval, Array.replicate]) ?_
  simp only [Bool.false_eq_true, if_false]
  refine wpS_of_wp (wp_skip ?_)
  cases c₀
  simp_all [bodyPostS, results, Try.results39]

set_option maxHeartbeats 2000000 in
theorem fieldsSigned_any (fs : List Fld) (A : Option Addr) (c : Nat) (x0 x1 : Int) (w : World) (hn : fs.length ≤ 64) (hr : FRow .i64 w A fs) (hall : allR fs = true) (hS1 : 1 ≤ sumB fs) (hS : sumB fs ≤ 64)
    (hx0 : 0 ≤ x0) (hx0' : x0 < 4294967296) (hx1 : 0 ≤ x1) (hx1' : x1 < 4294967296) :
    Calls Try.prog 25 #[.slice A fs.length c, .agg #[.int .u32 x0, .int .u32 x1]] w fun e w' => e = .returned (.tuple #[.int .i64 (sgn (jn x0 x1 fs) (sumB fs)), .bool true]) ∧ Below w.heap.size w w' := by
  obtain ⟨s0, s1⟩ := sgn_b64 (jn x0 x1 fs) (sumB fs) hS1 hS (jn_bounds x0 x1 fs hall).1 (jn_bounds x0 x1 fs hall).2
  have Hne := Lib.hid (ne_of_sum hS1)
  have Hall := Lib.hid hall
  clear hall
  have Hrb := Lib.hid (show ∀ W, Below w.heap.size w W → FRow .i64 W A fs from fun W h => hr.below h)
  have hmf : ∀ (fn : Fn) (first cap : Array Value) (w : World), (Instr.makeFunc fn first cap).run Try.prog w = .ok (.func fn first cap) w := fun _ _ _ _ => rfl
  go_enter_defers Try.func25, Try.ntmps25
  go_wp2_with fail
  refine wp_region_noPanic ?_
  go_region_with (first
    | (go_at_call 30; refine (many_ne fs A c _ hn (Hrb.out _ (by go_grown)) Hall.out Hne.out).mono ?_; rintro e w1 ⟨g, cap, rfl, hrow, hbel⟩; obtain ⟨hc, hf, hs, hl⟩ := bcellN (w.heap.size + 3) hbel (by first | assumption | (simp; done) | (simp; omega) | omega))
    | (go_at_call 40; refine (parseS_any fs _ _ x0 x1 _ hn hrow Hall.out hS1 hS hx0 hx0' hx1 hx1').mono ?_; rintro e w2 ⟨rfl, hbel'⟩; obtain ⟨hc', hf', hs', hl'⟩ := bcellN (w.heap.size + 3) hbel' (by first | assumption | (simp; done) | (simp; omega) | omega)))
  all_goals
    refine NoPanic.normal ?_
    go_wp2
    refine leaves_cons (f := 39) (args := #[.pointer (some ⟨w.heap.size + 1, 0, none⟩), .pointer (some ⟨w.heap.size + 2, 0, none⟩)]) (by simp) (by simp [go_sem]) ?_
    refine (catch_fieldsSigned_idle _ _ _).mono ?_
    rintro e u' w'' ⟨rfl, rfl, rfl⟩
    simp [Leaves, settle, results, Try.results25, go_sem, hc, hc']
  all_goals
    repeat' (first | (with_reducible exact Below.refl _ _) | (with_reducible refine Below.setCell ?_ ?_ _) | (with_reducible refine Below.drew ?_) | (with_reducible refine Below.alloc ?_ ?_ _) | (with_reducible refine Below.trans ?_ (hbel'.mono ?_)) | (with_reducible refine Below.trans ?_ (hbel.mono ?_)) | (simp; done) | (simp; omega) | omega)

end Go.Proofs.Ytcijejfekeedlaa
