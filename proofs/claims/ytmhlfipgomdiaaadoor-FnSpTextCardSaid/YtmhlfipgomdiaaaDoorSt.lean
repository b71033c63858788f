/- The texts of special registers and of offsets. -/
import Derived.Test.YtmhlfipgomdiaaaDoorDec
import Derived.WalkKit
import Derived.WalkSpells
import Derived.WalkLawsBesides
import Derived.Below
import Derived.Laws.Pointers
import Derived.OwnWalk
import Derived.Handy
import Derived.Lib.Hide
import Derived.Test.YtmhlfipgomdiaaaDoorShelf
import Derived.Laws.BitsAllLaws
namespace Go.Proofs.YtmhlfipgomdiaaaDoor
open Go.RowKit


theorem cat_inj (p q : ByteArray) (a b : List UInt8) : ((p ++ ⟨a.toArray⟩ ++ q).toList == (p ++ ⟨b.toArray⟩ ++ q).toList) = (a == b) := by
  rw [ByteArray.toList_eq, ByteArray.toList_eq, Bool.eq_iff_iff, beq_iff_eq, beq_iff_eq]
  simp [ByteArray.data_append]
def st (n : Nat) : ByteArray := "SpReg(".toUTF8 ++ num n ++ ")".toUTF8
theorem st_size (n : Nat) : 0 < (st n).size := by
  have : (6 : Nat) ≤ (st n).size := by
    unfold st
    rw [ByteArray.size_append, ByteArray.size_append, show "SpReg(".toUTF8.size = 6 from by decide +kernel]
    omega
  omega
theorem st_inj (n m : Nat) : ((st n).toList == (st m).toList) = ((n : Int) == (m : Int)) := by
  unfold st num
  rw [cat_inj, Lib.itoa_nonneg, Lib.itoa_nonneg, Bool.eq_iff_iff, beq_iff_eq, beq_iff_eq]
  exact ⟨fun h => by rw [dec_inj h], fun h => by rw [show n = m from by omega]⟩
set_option maxRecDepth 100000 in
theorem ss_any (n : Nat) (h : n ≤ 1023) (w : World) (ht : Tab w) : Calls Tryd.prog 27 #[.int .u16 n] w fun e w' => e = .returned (.string (st n)) ∧ Below w.heap.size w w' := by
  have e1 : IntKind.i64.wrap (n : Int) = n := by rw [IntKind.wrap_i64]; omega
  have hl := num_len n (by omega) (by omega)
  have con := fun W hW => fi_any n (by omega) (by omega) W hW
  unfold st
  generalize num n = s at *
  go_enter Tryd.func27, Tryd.ntmps27
  go_wp2_with (first
    | (go_at_call 38; (try rw [e1]); refine (con _ ht).mono ?_; rintro e w1 ⟨rfl, hb1⟩))
  all_goals (try (exfalso; omega))
  all_goals go_returns
  all_goals exact ⟨rfl, hb1⟩
theorem st_any (n : Nat) (h : n ≤ 1023) (w : World) (ht : Tab w) : Calls Tryd.prog 13 #[.int .i64 n] w fun e w' => e = .returned (.string (st n)) ∧ Below w.heap.size w w' := by
  have e1 : IntKind.u16.wrap (n : Int) = n := by rw [IntKind.wrap_u16]; omega
  have con := fun W hW => ss_any n h W hW
  generalize st n = s at *
  go_enter Tryd.func13, Tryd.ntmps13
  go_wp2_with (first
    | (go_at_call 27; (try rw [e1]); refine (con _ ht).mono ?_; rintro e w1 ⟨rfl, hb1⟩))
  go_returns
  exact ⟨rfl, hb1⟩
end Go.Proofs.YtmhlfipgomdiaaaDoor
