/- The texts of the registers. -/
import Derived.Test.YtmhlfipgomdiaaaDoorLaid
import Derived.WalkKit
import Derived.WalkSpells
import Derived.WalkLawsBesides
import Derived.Below
import Derived.Laws.Pointers
import Derived.OwnWalk
import Derived.Handy
import Derived.Lib.Hide
import Derived.Test.YtmhlfipgomdiaaaDoorShelf
import Derived.Laws.BitsAllLaws
namespace Go.Proofs.YtmhlfipgomdiaaaDoor
open Go.RowKit

/-- The digits of a number below 100. -/
def dg (k : Nat) : ByteArray := ⟨(Lib.decDigits k).toArray⟩
theorem dg_len (k : Nat) (h : k < 100) : (Lib.decDigits k).length ≤ 2 := by
  have h' : ∀ m : Fin 100, (Lib.decDigits m.1).length ≤ 2 := by decide +kernel
  exact h' ⟨k, h⟩
set_option maxRecDepth 100000 in
set_option maxHeartbeats 1000000 in
theorem rs_r (k : Nat) (hk : k < 32) (w : World) : Calls Tryd.prog 29 #[.int .u16 (1 + k)] w fun e w' => e = .returned (.string ("r".toUTF8 ++ dg k)) ∧ w' = w := by
  have e1 : IntKind.u16.wrap (1 + (k : Int)) = 1 + k := by rw [IntKind.wrap_u16]; omega
  have e2 : IntKind.u16.wrap (1 + (k : Int) - 1) = k := by rw [IntKind.wrap_u16]; omega
  have e3 : IntKind.i64.wrap (k : Int) = k := by rw [IntKind.wrap_i64]; omega
  have e4 : (k : Int) < 32 := by omega
  have e5 := dg_len k (by omega)
  go_enter Tryd.func29, Tryd.ntmps29
  go_wp2_with (first
    | (go_at_call 38; (try rw [e2]); refine (Tryd.strconv_FormatInt_10_small k (by omega) _).mono ?_; rintro e w1 ⟨rfl, rfl⟩))
  all_goals (try (exfalso; omega))
  all_goals go_returns
  all_goals exact ⟨rfl, rfl⟩
set_option maxRecDepth 100000 in
set_option maxHeartbeats 1000000 in
theorem rs_f (k : Nat) (hk : k < 32) (w : World) : Calls Tryd.prog 29 #[.int .u16 (33 + k)] w fun e w' => e = .returned (.string ("f".toUTF8 ++ dg k)) ∧ w' = w := by
  have e1 : IntKind.u16.wrap (33 + (k : Int)) = 33 + k := by rw [IntKind.wrap_u16]; omega
  have e2 : IntKind.u16.wrap (33 + (k : Int) - 33) = k := by rw [IntKind.wrap_u16]; omega
  have e3 : IntKind.i64.wrap (k : Int) = k := by rw [IntKind.wrap_i64]; omega
  have e4 : (k : Int) < 32 := by omega
  have e5 := dg_len k (by omega)
  go_enter Tryd.func29, Tryd.ntmps29
  go_wp2_with (first
    | (go_at_call 38; (try rw [e2]); refine (Tryd.strconv_FormatInt_10_small k (by omega) _).mono ?_; rintro e w1 ⟨rfl, rfl⟩))
  all_goals (try (exfalso; omega))
  all_goals go_returns
  all_goals exact ⟨rfl, rfl⟩
set_option maxRecDepth 100000 in
set_option maxHeartbeats 1000000 in
theorem rs_v (k : Nat) (hk : k < 32) (w : World) : Calls Tryd.prog 29 #[.int .u16 (65 + k)] w fun e w' => e = .returned (.string ("v".toUTF8 ++ dg k)) ∧ w' = w := by
  have e1 : IntKind.u16.wrap (65 + (k : Int)) = 65 + k := by rw [IntKind.wrap_u16]; omega
  have e2 : IntKind.u16.wrap (65 + (k : Int) - 65) = k := by rw [IntKind.wrap_u16]; omega
  have e3 : IntKind.i64.wrap (k : Int) = k := by rw [IntKind.wrap_i64]; omega
  have e4 : (k : Int) < 32 := by omega
  have e5 := dg_len k (by omega)
  go_enter Tryd.func29, Tryd.ntmps29
  go_wp2_with (first
    | (go_at_call 38; (try rw [e2]); refine (Tryd.strconv_FormatInt_10_small k (by omega) _).mono ?_; rintro e w1 ⟨rfl, rfl⟩))
  all_goals (try (exfalso; omega))
  all_goals go_returns
  all_goals exact ⟨rfl, rfl⟩
set_option maxRecDepth 100000 in
set_option maxHeartbeats 1000000 in
theorem rs_vs (k : Nat) (hk : k < 64) (w : World) : Calls Tryd.prog 29 #[.int .u16 (97 + k)] w fun e w' => e = .returned (.string ("vs".toUTF8 ++ dg k)) ∧ w' = w := by
  have e1 : IntKind.u16.wrap (97 + (k : Int)) = 97 + k := by rw [IntKind.wrap_u16]; omega
  have e2 : IntKind.u16.wrap (97 + (k : Int) - 97) = k := by rw [IntKind.wrap_u16]; omega
  have e3 : IntKind.i64.wrap (k : Int) = k := by rw [IntKind.wrap_i64]; omega
  have e4 : (k : Int) < 64 := by omega
  have e5 := dg_len k (by omega)
  go_enter Tryd.func29, Tryd.ntmps29
  go_wp2_with (first
    | (go_at_call 38; (try rw [e2]); refine (Tryd.strconv_FormatInt_10_small k (by omega) _).mono ?_; rintro e w1 ⟨rfl, rfl⟩))
  all_goals (try (exfalso; omega))
  all_goals go_returns
  all_goals exact ⟨rfl, rfl⟩
set_option maxRecDepth 100000 in
set_option maxHeartbeats 1000000 in
theorem rs_a (k : Nat) (hk : k < 8) (w : World) : Calls Tryd.prog 29 #[.int .u16 (161 + k)] w fun e w' => e = .returned (.string ("a".toUTF8 ++ dg k)) ∧ w' = w := by
  have e1 : IntKind.u16.wrap (161 + (k : Int)) = 161 + k := by rw [IntKind.wrap_u16]; omega
  have e2 : IntKind.u16.wrap (161 + (k : Int) - 161) = k := by rw [IntKind.wrap_u16]; omega
  have e3 : IntKind.i64.wrap (k : Int) = k := by rw [IntKind.wrap_i64]; omega
  have e4 : (k : Int) < 8 := by omega
  have e5 := dg_len k (by omega)
  go_enter Tryd.func29, Tryd.ntmps29
  go_wp2_with (first
    | (go_at_call 38; (try rw [e2]); refine (Tryd.strconv_FormatInt_10_small k (by omega) _).mono ?_; rintro e w1 ⟨rfl, rfl⟩))
  all_goals (try (exfalso; omega))
  all_goals go_returns
  all_goals exact ⟨rfl, rfl⟩
def rt (n : Nat) : ByteArray := if n < 32 then "r".toUTF8 ++ dg n else if n < 64 then "f".toUTF8 ++ dg (n - 32) else if n < 96 then "v".toUTF8 ++ dg (n - 64) else if n < 160 then "vs".toUTF8 ++ dg (n - 96) else "a".toUTF8 ++ dg (n - 160)
theorem rs_any (n : Nat) (h : n ≤ 167) (w : World) : Calls Tryd.prog 29 #[.int .u16 (n + 1)] w fun e w' => e = .returned (.string (rt n)) ∧ w' = w := by
  unfold rt
  by_cases h1 : n < 32
  · rw [if_pos h1, show (n : Int) + 1 = 1 + (n : Int) from by omega]; exact rs_r n h1 w
  · rw [if_neg h1]
    by_cases h2 : n < 64
    · rw [if_pos h2, show (n : Int) + 1 = 33 + ((n - 32 : Nat) : Int) from by omega]; exact rs_f _ (by omega) w
    · rw [if_neg h2]
      by_cases h3 : n < 96
      · rw [if_pos h3, show (n : Int) + 1 = 65 + ((n - 64 : Nat) : Int) from by omega]; exact rs_v _ (by omega) w
      · rw [if_neg h3]
        by_cases h4 : n < 160
        · rw [if_pos h4, show (n : Int) + 1 = 97 + ((n - 96 : Nat) : Int) from by omega]; exact rs_vs _ (by omega) w
        · rw [if_neg h4, show (n : Int) + 1 = 161 + ((n - 160 : Nat) : Int) from by omega]; exact rs_a _ (by omega) w
theorem rt_any (n : Nat) (h : n ≤ 167) (w : World) : Calls Tryd.prog 17 #[.int .i64 (n + 1)] w fun e w' => e = .returned (.string (rt n)) ∧ Below w.heap.size w w' := by
  have e1 : IntKind.u16.wrap ((n : Int) + 1) = n + 1 := by rw [IntKind.wrap_u16]; omega
  have con := fun W => rs_any n h W
  generalize rt n = s at *
  go_enter Tryd.func17, Tryd.ntmps17
  go_wp2_with (first
    | (go_at_call 29; (try rw [e1]); refine (con _).mono ?_; rintro e w1 ⟨rfl, rfl⟩))
  go_returns
  exact ⟨rfl, Below.refl _ _⟩
theorem rt_size (n : Nat) (h : n ≤ 167) : 0 < (rt n).size := by
  have h' : ∀ m : Fin 168, 0 < (rt m.1).size := by decide +kernel
  exact h' ⟨n, by omega⟩
theorem rt_inj (n m : Nat) (h1 : n ≤ 167) (h2 : m ≤ 167) : ((rt n).toList == (rt m).toList) = ((n : Int) == (m : Int)) := by
  have h' : ∀ i j : Fin 168, ((rt i.1).toList == (rt j.1).toList) = (i.1 == j.1) := by decide +kernel
  have t : ((rt n).toList == (rt m).toList) = (n == m) := h' ⟨n, by omega⟩ ⟨m, by omega⟩
  rw [t]
  rw [Bool.eq_iff_iff, beq_iff_eq, beq_iff_eq]
  omega
set_option maxRecDepth 100000 in
theorem register_any (n : Nat) (h : n ≤ 167) (w : World) : Calls Tryd.prog 16 #[.int .i64 n] w fun e w' => e = .returned (.tuple #[.int .i64 (n + 1), .bool true]) ∧ w' = w := by
  have h' : (n : Int) ≤ 167 := by omega
  have h0 : (0 : Int) ≤ n := by omega
  have hr : (n : Int) < 32 ∨ (32 ≤ (n : Int) ∧ (n : Int) < 64) ∨ (64 ≤ (n : Int) ∧ (n : Int) < 96) ∨ (96 ≤ (n : Int) ∧ (n : Int) < 160) ∨ 160 ≤ (n : Int) := by omega
  rcases hr with h1 | ⟨h1, h2⟩ | ⟨h1, h2⟩ | ⟨h1, h2⟩ | h1
  all_goals go_enter Tryd.func16, Tryd.ntmps16
  all_goals go_wp2_with fail
  all_goals (try (exfalso; omega))
  all_goals go_returns
  all_goals refine ⟨?_, rfl⟩
  all_goals (simp; omega)
set_option maxRecDepth 100000 in
theorem register_out (a : Int) (h : a < 0 ∨ 167 < a) (w : World) : Calls Tryd.prog 16 #[.int .i64 a] w fun e w' => e = .returned (.tuple #[.int .i64 0, .bool false]) ∧ w' = w := by
  rcases h with h | h
  all_goals go_enter Tryd.func16, Tryd.ntmps16
  all_goals go_wp2_with fail
  all_goals (try (exfalso; omega))
  all_goals go_returns
  all_goals exact ⟨rfl, rfl⟩
end Go.Proofs.YtmhlfipgomdiaaaDoor
