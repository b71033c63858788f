/- The texts of the condition register. -/
import Derived.Test.YtmhlfipgomdiaaaDoorLaid
import Derived.WalkKit
import Derived.WalkSpells
import Derived.WalkLawsBesides
import Derived.Below
import Derived.Laws.Pointers
import Derived.OwnWalk
import Derived.Handy
import Derived.Lib.Hide
import Derived.Test.YtmhlfipgomdiaaaDoorShelf
import Derived.Laws.BitsAllLaws
import Derived.IntWalk
namespace Go.Proofs.YtmhlfipgomdiaaaDoor
open Go.RowKit

/-- The digits of a number below 100. -/
def dg (k : Nat) : ByteArray := ⟨(Lib.decDigits k).toArray⟩
theorem dg_len (k : Nat) (h : k < 100) : (Lib.decDigits k).length ≤ 2 := by
  have h' : ∀ m : Fin 100, (Lib.decDigits m.1).length ≤ 2 := by decide +kernel
  exact h' ⟨k, h⟩
def sf (k : Nat) : ByteArray := (["LT", "GT", "EQ", "SO"].getD k "").toUTF8
def ct (n : Nat) : ByteArray := if n < 32 then "Cond".toUTF8 ++ dg (n / 4) ++ sf (n % 4) else "CR".toUTF8 ++ dg (n - 32)
theorem ixl_0 (W : World) : Sem.run Tryd.prog (Instr.index 54 (.agg #[.string ⟨#[76, 84]⟩, .string ⟨#[71, 84]⟩, .string ⟨#[69, 81]⟩, .string ⟨#[83, 79]⟩]) (.int .i8 0)) W = .ok (.string ⟨#[76, 84]⟩) W := by kernel_rfl
set_option maxRecDepth 100000 in
set_option maxHeartbeats 2000000 in
theorem cs_0 (d : Nat) (hd : d < 8) (c m : Int) (hc1 : 1 ≤ c) (hc2 : c < 33) (e1 : IntKind.i8.wrap (c - 1) = m) (e2 : IntKind.i8.wrap (m.tdiv 4) = (d : Int)) (e3 : IntKind.i64.wrap (d : Int) = (d : Int)) (e4 : m.tmod 4 = 0) (w : World) :
    Calls Tryd.prog 28 #[.int .i8 c] w fun e w' => e = .returned (.string ("Cond".toUTF8 ++ dg d ++ sf 0)) ∧ Below w.heap.size w w' := by
  have l := dg_len d (by omega)
  have hixl := ixl_0
  go_enter Tryd.func28, Tryd.ntmps28
  go_wp2_with fail
  go_region_with (first
    | (go_at_call 38; (try rw [e3]); refine (Tryd.strconv_FormatInt_10_small d (by omega) _).mono ?_; rintro e w1 ⟨rfl, rfl⟩))
  all_goals (try (exfalso; omega))
  all_goals go_wp2_with fail
  all_goals (try (exfalso; omega))
  all_goals go_returns
  all_goals exact ⟨rfl, by repeat' (first | (with_reducible exact Below.refl _ _) | (with_reducible refine Below.drew ?_))⟩
theorem ixl_1 (W : World) : Sem.run Tryd.prog (Instr.index 54 (.agg #[.string ⟨#[76, 84]⟩, .string ⟨#[71, 84]⟩, .string ⟨#[69, 81]⟩, .string ⟨#[83, 79]⟩]) (.int .i8 1)) W = .ok (.string ⟨#[71, 84]⟩) W := by kernel_rfl
set_option maxRecDepth 100000 in
set_option maxHeartbeats 2000000 in
theorem cs_1 (d : Nat) (hd : d < 8) (c m : Int) (hc1 : 1 ≤ c) (hc2 : c < 33) (e1 : IntKind.i8.wrap (c - 1) = m) (e2 : IntKind.i8.wrap (m.tdiv 4) = (d : Int)) (e3 : IntKind.i64.wrap (d : Int) = (d : Int)) (e4 : m.tmod 4 = 1) (w : World) :
    Calls Tryd.prog 28 #[.int .i8 c] w fun e w' => e = .returned (.string ("Cond".toUTF8 ++ dg d ++ sf 1)) ∧ Below w.heap.size w w' := by
  have l := dg_len d (by omega)
  have hixl := ixl_1
  go_enter Tryd.func28, Tryd.ntmps28
  go_wp2_with fail
  go_region_with (first
    | (go_at_call 38; (try rw [e3]); refine (Tryd.strconv_FormatInt_10_small d (by omega) _).mono ?_; rintro e w1 ⟨rfl, rfl⟩))
  all_goals (try (exfalso; omega))
  all_goals go_wp2_with fail
  all_goals (try (exfalso; omega))
  all_goals go_returns
  all_goals exact ⟨rfl, by repeat' (first | (with_reducible exact Below.refl _ _) | (with_reducible refine Below.drew ?_))⟩
theorem ixl_2 (W : World) : Sem.run Tryd.prog (Instr.index 54 (.agg #[.string ⟨#[76, 84]⟩, .string ⟨#[71, 84]⟩, .string ⟨#[69, 81]⟩, .string ⟨#[83, 79]⟩]) (.int .i8 2)) W = .ok (.string ⟨#[69, 81]⟩) W := by kernel_rfl
set_option maxRecDepth 100000 in
set_option maxHeartbeats 2000000 in
theorem cs_2 (d : Nat) (hd : d < 8) (c m : Int) (hc1 : 1 ≤ c) (hc2 : c < 33) (e1 : IntKind.i8.wrap (c - 1) = m) (e2 : IntKind.i8.wrap (m.tdiv 4) = (d : Int)) (e3 : IntKind.i64.wrap (d : Int) = (d : Int)) (e4 : m.tmod 4 = 2) (w : World) :
    Calls Tryd.prog 28 #[.int .i8 c] w fun e w' => e = .returned (.string ("Cond".toUTF8 ++ dg d ++ sf 2)) ∧ Below w.heap.size w w' := by
  have l := dg_len d (by omega)
  have hixl := ixl_2
  go_enter Tryd.func28, Tryd.ntmps28
  go_wp2_with fail
  go_region_with (first
    | (go_at_call 38; (try rw [e3]); refine (Tryd.strconv_FormatInt_10_small d (by omega) _).mono ?_; rintro e w1 ⟨rfl, rfl⟩))
  all_goals (try (exfalso; omega))
  all_goals go_wp2_with fail
  all_goals (try (exfalso; omega))
  all_goals go_returns
  all_goals exact ⟨rfl, by repeat' (first | (with_reducible exact Below.refl _ _) | (with_reducible refine Below.drew ?_))⟩
theorem ixl_3 (W : World) : Sem.run Tryd.prog (Instr.index 54 (.agg #[.string ⟨#[76, 84]⟩, .string ⟨#[71, 84]⟩, .string ⟨#[69, 81]⟩, .string ⟨#[83, 79]⟩]) (.int .i8 3)) W = .ok (.string ⟨#[83, 79]⟩) W := by kernel_rfl
set_option maxRecDepth 100000 in
set_option maxHeartbeats 2000000 in
theorem cs_3 (d : Nat) (hd : d < 8) (c m : Int) (hc1 : 1 ≤ c) (hc2 : c < 33) (e1 : IntKind.i8.wrap (c - 1) = m) (e2 : IntKind.i8.wrap (m.tdiv 4) = (d : Int)) (e3 : IntKind.i64.wrap (d : Int) = (d : Int)) (e4 : m.tmod 4 = 3) (w : World) :
    Calls Tryd.prog 28 #[.int .i8 c] w fun e w' => e = .returned (.string ("Cond".toUTF8 ++ dg d ++ sf 3)) ∧ Below w.heap.size w w' := by
  have l := dg_len d (by omega)
  have hixl := ixl_3
  go_enter Tryd.func28, Tryd.ntmps28
  go_wp2_with fail
  go_region_with (first
    | (go_at_call 38; (try rw [e3]); refine (Tryd.strconv_FormatInt_10_small d (by omega) _).mono ?_; rintro e w1 ⟨rfl, rfl⟩))
  all_goals (try (exfalso; omega))
  all_goals go_wp2_with fail
  all_goals (try (exfalso; omega))
  all_goals go_returns
  all_goals exact ⟨rfl, by repeat' (first | (with_reducible exact Below.refl _ _) | (with_reducible refine Below.drew ?_))⟩
set_option maxRecDepth 100000 in
theorem cs_f (d : Nat) (hd : d < 8) (c : Int) (hc2 : 33 ≤ c) (e1 : IntKind.i8.wrap (c - 33) = (d : Int)) (e3 : IntKind.i64.wrap (d : Int) = (d : Int)) (w : World) :
    Calls Tryd.prog 28 #[.int .i8 c] w fun e w' => e = .returned (.string ("CR".toUTF8 ++ dg d)) ∧ Below w.heap.size w w' := by
  have l := dg_len d (by omega)
  go_enter Tryd.func28, Tryd.ntmps28
  go_wp2_with (first
    | (go_at_call 38; (try rw [e3]); refine (Tryd.strconv_FormatInt_10_small d (by omega) _).mono ?_; rintro e w1 ⟨rfl, rfl⟩))
  all_goals (try (exfalso; omega))
  all_goals go_returns
  all_goals exact ⟨rfl, Below.refl _ _⟩
theorem cs_any (w : World) (n : Nat) (h : n ≤ 39) : Calls Tryd.prog 28 #[.int .i8 ((n : Int) + 1)] w fun e w' => e = .returned (.string (ct n)) ∧ Below w.heap.size w w' := by
  unfold ct
  by_cases h32 : n < 32
  · rw [if_pos h32]
    have e1 : IntKind.i8.wrap ((n : Int) + 1 - 1) = (n : Int) := by
      rw [show (n : Int) + 1 - 1 = (n : Int) from by omega]
      exact IntWalk.i8_in _ (by omega)
    have e2 : IntKind.i8.wrap ((n : Int).tdiv 4) = ((n / 4 : Nat) : Int) := by
      rw [show (n : Int).tdiv 4 = ((n / 4 : Nat) : Int) from by rw [Int.tdiv_eq_ediv_of_nonneg (by omega)]; omega]
      exact IntWalk.i8_in _ (by omega)
    have e3 : IntKind.i64.wrap ((n / 4 : Nat) : Int) = ((n / 4 : Nat) : Int) := IntWalk.i64_in _ (by omega)
    have e4 : (n : Int).tmod 4 = ((n % 4 : Nat) : Int) := by rw [Int.tmod_eq_emod_of_nonneg (by omega)]; omega
    have hk : n % 4 = 0 ∨ n % 4 = 1 ∨ n % 4 = 2 ∨ n % 4 = 3 := by omega
    rcases hk with hk | hk | hk | hk
    · rw [hk] at e4 ⊢; exact cs_0 (n / 4) (by omega) _ _ (by omega) (by omega) e1 e2 e3 e4 w
    · rw [hk] at e4 ⊢; exact cs_1 (n / 4) (by omega) _ _ (by omega) (by omega) e1 e2 e3 e4 w
    · rw [hk] at e4 ⊢; exact cs_2 (n / 4) (by omega) _ _ (by omega) (by omega) e1 e2 e3 e4 w
    · rw [hk] at e4 ⊢; exact cs_3 (n / 4) (by omega) _ _ (by omega) (by omega) e1 e2 e3 e4 w
  · rw [if_neg h32]
    have e1 : IntKind.i8.wrap ((n : Int) + 1 - 33) = ((n - 32 : Nat) : Int) := by
      rw [show (n : Int) + 1 - 33 = ((n - 32 : Nat) : Int) from by omega]
      exact IntWalk.i8_in _ (by omega)
    exact cs_f (n - 32) (by omega) _ (by omega) e1 (IntWalk.i64_in _ (by omega)) w
theorem ct_any (n : Nat) (h : n ≤ 39) (w : World) : Calls Tryd.prog 14 #[.int .i64 (n + 1)] w fun e w' => e = .returned (.string (ct n)) ∧ Below w.heap.size w w' := by
  have e1 : IntKind.i8.wrap ((n : Int) + 1) = n + 1 := IntWalk.i8_in _ (by omega)
  have con := fun W => cs_any W n h
  generalize ct n = s at *
  go_enter Tryd.func14, Tryd.ntmps14
  go_wp2_with (first
    | (go_at_call 28; (try rw [e1]); refine (con _).mono ?_; rintro e w1 ⟨rfl, hb1⟩))
  go_returns
  exact ⟨rfl, hb1⟩
theorem ct_size (n : Nat) (h : n ≤ 39) : 0 < (ct n).size := by
  have h' : ∀ m : Fin 40, 0 < (ct m.1).size := by decide +kernel
  exact h' ⟨n, by omega⟩
theorem ct_inj (n m : Nat) (h1 : n ≤ 39) (h2 : m ≤ 39) : ((ct n).toList == (ct m).toList) = ((n : Int) == (m : Int)) := by
  have h' : ∀ i j : Fin 40, ((ct i.1).toList == (ct j.1).toList) = (i.1 == j.1) := by decide +kernel
  have t : ((ct n).toList == (ct m).toList) = (n == m) := h' ⟨n, by omega⟩ ⟨m, by omega⟩
  rw [t]
  rw [Bool.eq_iff_iff, beq_iff_eq, beq_iff_eq]
  omega
set_option maxRecDepth 100000 in
theorem condition_any (n : Nat) (h : n ≤ 39) (w : World) : Calls Tryd.prog 15 #[.int .i64 n] w fun e w' => e = .returned (.int .i64 (n + 1)) ∧ w' = w := by
  have h' : (n : Int) ≤ 39 := by omega
  have h0 : (0 : Int) ≤ n := by omega
  have hr : (n : Int) < 32 ∨ 32 ≤ (n : Int) := by omega
  rcases hr with h1 | h1
  all_goals go_enter Tryd.func15, Tryd.ntmps15
  all_goals go_wp2_with fail
  all_goals (try (exfalso; omega))
  all_goals go_returns
  all_goals refine ⟨?_, rfl⟩
  all_goals (simp; omega)
end Go.Proofs.YtmhlfipgomdiaaaDoor
