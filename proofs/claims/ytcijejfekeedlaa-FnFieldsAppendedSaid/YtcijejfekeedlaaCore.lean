/- The contracts of the functions of one field: what each computes, walked once. -/
import Derived.Test.YtcijejfekeedlaaRows
import Derived.Test.YtcijejfekeedlaaPlain
import Derived.WalkKit
import Derived.WalkSpells
import Derived.WalkLawsBesides
import Derived.Below
import Derived.Defers
import Derived.Recover
import Derived.BigQuiet
import Derived.Deep.QuietTactic
import Derived.Deep.RegionHeld3
import Derived.Deep.RegionWith
import Derived.Laws.Pointers
import Derived.OpenShut
import Derived.Handy
namespace Go.Proofs.Ytcijejfekeedlaa
open Go.RowKit

theorem bcell {W w1 : World} (hb : Below W.heap.size W w1) : (∀ b o, b < W.heap.size → w1.cell? ⟨b, o, none⟩ = W.cell? ⟨b, o, none⟩) ∧ (∀ b o, b < W.heap.size → w1.frozen? ⟨b, o, none⟩ = W.frozen? ⟨b, o, none⟩) :=
  ⟨fun b o h => hb.cell (p := ⟨b, o, none⟩) h, fun b o h => hb.frozen (p := ⟨b, o, none⟩) h⟩

theorem bcellN {W w1 : World} (n : Nat) (hb : Below W.heap.size W w1) (hn : n ≤ W.heap.size) : (∀ b o, b < n → w1.cell? ⟨b, o, none⟩ = W.cell? ⟨b, o, none⟩) ∧ (∀ b o, b < n → w1.frozen? ⟨b, o, none⟩ = W.frozen? ⟨b, o, none⟩) ∧ n ≤ w1.heap.size ∧ (∀ b, b < n → b < w1.heap.size) :=
  ⟨fun b o h => hb.cell (p := ⟨b, o, none⟩) (Nat.lt_of_lt_of_le h hn), fun b o h => hb.frozen (p := ⟨b, o, none⟩) (Nat.lt_of_lt_of_le h hn), Nat.le_trans hn hb.size, fun _ h => Nat.lt_of_lt_of_le h (Nat.le_trans hn hb.size)⟩
theorem below_drewN {B : Nat} {a w : World} (h : Below B a w) (n : Nat) : Below B a (w.drewN n) := ⟨h.os, h.tape, h.output, h.size, h.block⟩
theorem ret_int {k : IntKind} {a b : Int} (h : a = b) : Ending.returned (.int k a) = .returned (.int k b) := by rw [h]

theorem bits_any (o b wd : Int) (ho : 0 ≤ o) (ho' : o ≤ 255) (hb : 0 ≤ b) (hb' : b ≤ 255) (hw : 0 ≤ wd) (hw' : wd ≤ 255) (w : World) :
    Calls Try.prog 27 #[.agg #[.int .i64 o, .int .i64 b, .int .i64 wd]] w fun e w' => e = .returned (.agg #[.int .u8 o, .int .u8 b, .int .u8 wd]) ∧ Below w.heap.size w w' := by
  have e1 : IntKind.u8.wrap o = o := IntWalk.u8_in _ (by omega)
  have e2 : IntKind.u8.wrap b = b := IntWalk.u8_in _ (by omega)
  have e3 : IntKind.u8.wrap wd = wd := IntWalk.u8_in _ (by omega)
  go_enter Try.func27, Try.ntmps27
  go_wp2
  refine bodyPost_ret (v := .agg #[.int .u8 o, .int .u8 b, .int .u8 wd]) (by simp [results, Try.results27, go_sem]) rfl ⟨rfl, ?_⟩
  go_grown

theorem bit_any (x k : Int) (hx : 0 ≤ x) (hx' : x < 4294967296) (hk : 0 ≤ k) (hk' : k ≤ 31) (w : World) :
    Calls Try.prog 29 #[.int .u32 x, .int .i64 k] w fun e w' => e = .returned (.int .u64 (x / 2 ^ (31 - k).toNat % 2)) ∧ w' = w := by
  have hd0 : 0 ≤ x / 2 ^ (31 - k).toNat := Int.ediv_nonneg hx (Int.le_of_lt (two_pos _))
  have hd1 : x / 2 ^ (31 - k).toNat < 4294967296 := Int.lt_of_le_of_lt (Int.ediv_le_self _ hx) hx'
  go_enter Try.func29, Try.ntmps29
  go_wp2
  go_ret
  exact ⟨rfl, rfl⟩

theorem parse_ok (o b wd x0 x1 : Int) (ho : 0 ≤ o) (hb : 1 ≤ b) (hob : o + b ≤ 32) (hw : 0 ≤ wd) (hw' : wd ≤ 1) (hx0 : 0 ≤ x0) (hx0' : x0 < 4294967296) (hx1 : 0 ≤ x1) (hx1' : x1 < 4294967296) (w : World) :
    Calls Try.prog 28 #[.agg #[.int .u8 o, .int .u8 b, .int .u8 wd], .agg #[.int .u32 x0, .int .u32 x1]] w fun e w' => e = .returned (.int .u32 (fv (ws x0 x1 wd) o b)) ∧ Below w.heap.size w w' := by
  have t1 : (b == 0) = false := beq_eq_false_iff_ne.2 (by omega)
  rcases (by omega : wd = 0 ∨ wd = 1) with rfl | rfl
  all_goals
    go_enter Try.func28, Try.ntmps28
    go_wp2_with fail
    go_quiet (fail)
    go_wp2
    go_ret
    refine ⟨ret_int ?_, below_drewN (by go_grown) _⟩
    first
    | exact fv_mask x0 o b hx0 hx0' (by omega)
    | exact fv_mask x1 o b hx1 hx1' (by omega)

theorem parse_panic (o b wd x0 x1 : Int) (ho : 0 ≤ o) (ho' : o ≤ 31) (hb : 1 ≤ b) (hb' : b ≤ 32) (hob : 32 < o + b) (w : World) :
    Calls Try.prog 28 #[.agg #[.int .u8 o, .int .u8 b, .int .u8 wd], .agg #[.int .u32 x0, .int .u32 x1]] w fun e w' => (∃ v, e = .panicked [{ v := .iface 9 v, recovered := false }]) ∧ Below w.heap.size w w' := by
  have t1 : (b == 0) = false := beq_eq_false_iff_ne.2 (by omega)
  go_enter Try.func28, Try.ntmps28
  go_wp2
  exact ⟨rfl, ⟨_, rfl⟩, by go_grown⟩

/-- Does a field lie within a word? -/
def frb (o b wd : Int) : Bool := decide (1 ≤ b ∧ b ≤ 32 ∧ 0 ≤ o ∧ o ≤ 31 ∧ o + b ≤ 32 ∧ 0 ≤ wd ∧ wd ≤ 1)
theorem ret_bool {a b : Bool} (h : a = b) : Ending.returned (.bool a) = .returned (.bool b) := by rw [h]

theorem right_any (o b wd : Int) (w : World) :
    Calls Try.prog 15 #[.agg #[.int .i64 o, .int .i64 b, .int .i64 wd]] w fun e w' => e = .returned (.bool (frb o b wd)) ∧ Below w.heap.size w w' := by
  go_enter Try.func15, Try.ntmps15
  go_wp2
  all_goals go_ret
  all_goals refine ⟨ret_bool ?_, by go_grown⟩
  all_goals (rw [Bool.eq_iff_iff]; simp [frb]; omega)
end Go.Proofs.Ytcijejfekeedlaa
