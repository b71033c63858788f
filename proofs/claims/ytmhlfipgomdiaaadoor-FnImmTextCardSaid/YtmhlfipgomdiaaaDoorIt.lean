/- The texts of numbers. -/
import Derived.Test.YtmhlfipgomdiaaaDoorDec
import Derived.WalkKit
import Derived.WalkSpells
import Derived.WalkLawsBesides
import Derived.Below
import Derived.Laws.Pointers
import Derived.OwnWalk
import Derived.Handy
import Derived.Lib.Hide
import Derived.Test.YtmhlfipgomdiaaaDoorShelf
import Derived.Laws.BitsAllLaws
namespace Go.Proofs.YtmhlfipgomdiaaaDoor
open Go.RowKit

def ddg (u : Nat) : ByteArray := ⟨(Lib.decDigits u).toArray⟩
theorem ddg_len (u : Nat) (h : u ≤ 2147483648) : (ddg u).size ≤ 21 := by
  have := Lib.itoa_length_le u (by omega) (by omega)
  rw [Lib.itoa_nonneg] at this
  simpa [ddg, ByteArray.size] using this
set_option maxRecDepth 100000 in
theorem digits_small (u : Nat) (h : u < 10) (w : World) : Calls Tryd.prog 26 #[.int .i64 u] w fun e w' => e = .returned (.string (ddg u)) ∧ Below w.heap.size w w' := by
  have hu : u = 0 ∨ u = 1 ∨ u = 2 ∨ u = 3 ∨ u = 4 ∨ u = 5 ∨ u = 6 ∨ u = 7 ∨ u = 8 ∨ u = 9 := by omega
  rcases hu with rfl | rfl | rfl | rfl | rfl | rfl | rfl | rfl | rfl | rfl
  all_goals go_enter Tryd.func26, Tryd.ntmps26
  all_goals go_wp2_with fail
  all_goals go_returns
  all_goals refine ⟨?_, Below.refl _ _⟩
  all_goals (unfold ddg; rw [Lib.decDigits_one (by omega)]; rfl)
set_option maxRecDepth 100000 in
theorem digits_any : ∀ (u : Nat), u ≤ 2147483648 → ∀ (w : World), Calls Tryd.prog 26 #[.int .i64 u] w fun e w' => e = .returned (.string (ddg u)) ∧ Below w.heap.size w w' := by
  intro u
  induction u using Nat.strongRecOn with
  | _ u ih =>
    intro h w
    by_cases hs : u < 10
    · exact digits_small u hs w
    · have h1 : (10 : Int) ≤ u := by omega
      have h2 : (u : Int) ≤ 2147483648 := by omega
      have c1 : ∀ W, Calls Tryd.prog 26 #[.int .i64 ((u : Int) / 10)] W fun e w' => e = .returned (.string (ddg (u / 10))) ∧ Below W.heap.size W w' := fun W => by
        have := ih (u / 10) (by omega) (by omega) W
        rwa [show ((u / 10 : Nat) : Int) = (u : Int) / 10 from by omega] at this
      have c2 : ∀ W, Calls Tryd.prog 26 #[.int .i64 ((u : Int) % 10)] W fun e w' => e = .returned (.string (ddg (u % 10))) ∧ Below W.heap.size W w' := fun W => by
        have := ih (u % 10) (by omega) (by omega) W
        rwa [show ((u % 10 : Nat) : Int) = (u : Int) % 10 from by omega] at this
      have l1 := ddg_len (u / 10) (by omega)
      have l2 := ddg_len (u % 10) (by omega)
      have hcat : ddg u = ddg (u / 10) ++ ddg (u % 10) := by
        unfold ddg
        rw [Lib.decDigits, dif_neg hs, Lib.decDigits_one (i := u % 10) (by omega)]
        apply ByteArray.ext
        simp [ByteArray.data_append]
      rw [hcat]
      generalize ddg (u / 10) = s at *
      generalize ddg (u % 10) = t at *
      clear ih
      have tok : True := trivial
      go_enter Tryd.func26, Tryd.ntmps26
      go_wp2_with (first
        | (go_at_call 26; have _t := tok; refine (c1 _).mono ?_; rintro e w1 ⟨rfl, hb1⟩; clear tok)
        | (go_at_call 26; refine (c2 _).mono ?_; rintro e w2 ⟨rfl, hb2⟩))
      all_goals (try (exfalso; omega))
      all_goals go_returns
      all_goals exact ⟨rfl, Below.trans hb1 (hb2.mono hb1.size)⟩

theorem num_nonneg (n : Int) (h : 0 ≤ n) : num n = ddg n.toNat := by
  unfold num ddg Lib.itoa
  rw [if_neg (by omega)]
theorem num_below (n : Int) (h : n < 0) : num n = "-".toUTF8 ++ ddg (-n).toNat := by
  unfold num ddg Lib.itoa
  rw [if_pos h, show n.natAbs = (-n).toNat from by omega]
  apply ByteArray.ext
  rw [ByteArray.data_append, show "-".toUTF8.data = #[45] from by decide +kernel]
  simp
set_option maxRecDepth 100000 in
theorem decimal_any (n : Int) (h0 : -2147483648 ≤ n) (h1 : n < 2147483648) (w : World) : Calls Tryd.prog 12 #[.int .i64 n] w fun e w' => e = .returned (.string (num n)) ∧ Below w.heap.size w w' := by
  by_cases h : n < 0
  · rw [num_below n h]
    have l := ddg_len (-n).toNat (by omega)
    have con : ∀ W, Calls Tryd.prog 26 #[.int .i64 (-n)] W fun e w' => e = .returned (.string (ddg (-n).toNat)) ∧ Below W.heap.size W w' := fun W => by
      have := digits_any (-n).toNat (by omega) W
      rwa [show (((-n).toNat : Nat) : Int) = -n from by omega] at this
    generalize ddg (-n).toNat = s at *
    go_enter Tryd.func12, Tryd.ntmps12
    go_wp2_with (first
      | (go_at_call 26; refine (con _).mono ?_; rintro e w1 ⟨rfl, hb1⟩))
    all_goals (try (exfalso; omega))
    all_goals go_returns
    all_goals exact ⟨rfl, hb1⟩
  · have h' : 0 ≤ n := by omega
    rw [num_nonneg n h']
    have con : ∀ W, Calls Tryd.prog 26 #[.int .i64 n] W fun e w' => e = .returned (.string (ddg n.toNat)) ∧ Below W.heap.size W w' := fun W => by
      have := digits_any n.toNat (by omega) W
      rwa [show ((n.toNat : Nat) : Int) = n from by omega] at this
    generalize ddg n.toNat = s at *
    go_enter Tryd.func12, Tryd.ntmps12
    go_wp2_with (first
      | (go_at_call 26; refine (con _).mono ?_; rintro e w1 ⟨rfl, hb1⟩))
    all_goals (try (exfalso; omega))
    all_goals go_returns
    all_goals exact ⟨rfl, hb1⟩
theorem is_any (n : Int) (h0 : -2147483648 ≤ n) (h1 : n < 2147483648) (w : World) (ht : Tab w) : Calls Tryd.prog 25 #[.int .i64 n] w fun e w' => e = .returned (.string (num n)) ∧ Below w.heap.size w w' := by
  have e1 : IntKind.i64.wrap n = n := by rw [IntKind.wrap_i64]; omega
  have e2 : IntKind.i32.wrap n = n := by rw [IntKind.wrap_i32]; omega
  have con := fun W hW => fi_any n (by omega) (by omega) W hW
  generalize num n = s at *
  go_enter Tryd.func25, Tryd.ntmps25
  go_wp2_with (first
    | (go_at_call 38; (try rw [e2]); (try rw [e1]); refine (con _ ht).mono ?_; rintro e w1 ⟨rfl, hb1⟩))
  go_returns
  exact ⟨rfl, hb1⟩
theorem it_any (n : Int) (h0 : -2147483648 ≤ n) (h1 : n < 2147483648) (w : World) (ht : Tab w) : Calls Tryd.prog 11 #[.int .i64 n] w fun e w' => e = .returned (.string (num n)) ∧ Below w.heap.size w w' := by
  have e1 : IntKind.i64.wrap n = n := by rw [IntKind.wrap_i64]; omega
  have con := fun W hW => is_any n h0 h1 W hW
  generalize num n = s at *
  go_enter Tryd.func11, Tryd.ntmps11
  go_wp2_with (first
    | (go_at_call 25; (try rw [e1]); refine (con _ ht).mono ?_; rintro e w1 ⟨rfl, hb1⟩))
  go_returns
  exact ⟨rfl, hb1⟩
end Go.Proofs.YtmhlfipgomdiaaaDoor
