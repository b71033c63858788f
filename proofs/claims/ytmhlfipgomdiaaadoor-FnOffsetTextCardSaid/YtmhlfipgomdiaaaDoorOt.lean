/- The texts of offsets. -/
import Derived.Test.YtmhlfipgomdiaaaDoorDec
import Derived.WalkKit
import Derived.WalkSpells
import Derived.WalkLawsBesides
import Derived.Below
import Derived.Laws.Pointers
import Derived.OwnWalk
import Derived.Handy
import Derived.Lib.Hide
import Derived.Test.YtmhlfipgomdiaaaDoorShelf
import Derived.Laws.BitsAllLaws
namespace Go.Proofs.YtmhlfipgomdiaaaDoor
open Go.RowKit


def otL (n : Int) : List UInt8 := if n < 0 then 45 :: Lib.decDigits n.natAbs else 43 :: Lib.decDigits n.toNat
def ot (n : Int) : ByteArray := if n < 0 then "-".toUTF8 ++ (num n).extract 1 (num n).size else "+".toUTF8 ++ num n
theorem ot_list (n : Int) : (ot n).toList = otL n := by
  unfold ot otL
  split
  · rename_i h
    rw [ByteArray.toList_eq]
    have : ((num n).extract 1 (num n).size).data.toList = Lib.decDigits n.natAbs := by
      rw [← ByteArray.toList_eq, Lib.extract_toList]
      simp [num, Lib.itoa, h, ByteArray.size]
    rw [ByteArray.data_append, Array.toList_append, this]
    rfl
  · rename_i h
    rw [ByteArray.toList_eq, ByteArray.data_append, Array.toList_append]
    simp [num, Lib.itoa, h]
    rfl
theorem ot_inj (n m : Int) : ((ot n).toList == (ot m).toList) = (n == m) := by
  rw [ot_list, ot_list, Bool.eq_iff_iff, beq_iff_eq, beq_iff_eq]
  refine ⟨fun h => ?_, fun h => by rw [h]⟩
  unfold otL at h
  split at h <;> split at h
  · have := dec_inj (List.cons.inj h).2
    omega
  · exact absurd (List.cons.inj h).1 (by decide)
  · exact absurd (List.cons.inj h).1 (by decide)
  · have := dec_inj (List.cons.inj h).2
    omega
theorem num_neg (n : Int) (h : n < 0) : 1 ≤ (num n).size := by
  simp [num, Lib.itoa, h, ByteArray.size]
theorem ot_size (n : Int) : 0 < (ot n).size := by
  unfold ot
  split
  · rw [ByteArray.size_append, show "-".toUTF8.size = 1 from by decide +kernel]; omega
  · rw [ByteArray.size_append, show "+".toUTF8.size = 1 from by decide +kernel]; omega
set_option maxRecDepth 100000 in
theorem sg_any (n : Int) (h0 : -2147483648 ≤ n) (h1 : n < 2147483648) (w : World) (ht : Tab w) : Calls Tryd.prog 39 #[.int .i64 n, .int .i64 10] w fun e w' => e = .returned (.string (ot n)) ∧ Below w.heap.size w w' := by
  have hl := num_len n (by omega) (by omega)
  have con := fun W hW => fi_any n (by omega) (by omega) W hW
  have hn := num_neg n
  unfold ot
  by_cases h : n < 0
  · have h2 := hn h
    clear hn
    rw [if_pos h]
    generalize num n = s at *
    go_enter Tryd.func39, Tryd.ntmps39
    go_wp2_with (first
      | (go_at_call 38; refine (con _ ht).mono ?_; rintro e w1 ⟨rfl, hb1⟩))
    all_goals (try (exfalso; omega))
    all_goals go_returns
    all_goals exact ⟨rfl, hb1⟩
  · clear hn
    rw [if_neg h]
    have h' : 0 ≤ n := by omega
    generalize num n = s at *
    go_enter Tryd.func39, Tryd.ntmps39
    go_wp2_with (first
      | (go_at_call 38; refine (con _ ht).mono ?_; rintro e w1 ⟨rfl, hb1⟩))
    all_goals (try (exfalso; omega))
    all_goals go_returns
    all_goals exact ⟨rfl, hb1⟩
theorem os_any (n : Int) (h0 : -2147483648 ≤ n) (h1 : n < 2147483648) (w : World) (ht : Tab w) : Calls Tryd.prog 30 #[.int .i64 n] w fun e w' => e = .returned (.string (ot n)) ∧ Below w.heap.size w w' := by
  have e1 : IntKind.i64.wrap n = n := by rw [IntKind.wrap_i64]; omega
  have e2 : IntKind.i32.wrap n = n := by rw [IntKind.wrap_i32]; omega
  have con := fun W hW => sg_any n h0 h1 W hW
  generalize ot n = s at *
  go_enter Tryd.func30, Tryd.ntmps30
  go_wp2_with (first
    | (go_at_call 39; (try rw [e2]); (try rw [e1]); refine (con _ ht).mono ?_; rintro e w1 ⟨rfl, hb1⟩))
  go_returns
  exact ⟨rfl, hb1⟩
theorem ot_any (n : Int) (h0 : -2147483648 ≤ n) (h1 : n < 2147483648) (w : World) (ht : Tab w) : Calls Tryd.prog 18 #[.int .i64 n] w fun e w' => e = .returned (.string (ot n)) ∧ Below w.heap.size w w' := by
  have e1 : IntKind.i64.wrap n = n := by rw [IntKind.wrap_i64]; omega
  have con := fun W hW => os_any n h0 h1 W hW
  generalize ot n = s at *
  go_enter Tryd.func18, Tryd.ntmps18
  go_wp2_with (first
    | (go_at_call 30; (try rw [e1]); refine (con _ ht).mono ?_; rintro e w1 ⟨rfl, hb1⟩))
  go_returns
  exact ⟨rfl, hb1⟩
end Go.Proofs.YtmhlfipgomdiaaaDoor
