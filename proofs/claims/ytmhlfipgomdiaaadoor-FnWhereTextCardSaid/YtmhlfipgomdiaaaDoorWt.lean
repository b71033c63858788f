/- The texts of places to go. -/
import Derived.Test.YtmhlfipgomdiaaaDoorHx
import Derived.WalkKit
import Derived.WalkSpells
import Derived.WalkLawsBesides
import Derived.Below
import Derived.Laws.Pointers
import Derived.OwnWalk
import Derived.Handy
import Derived.Lib.Hide
import Derived.Test.YtmhlfipgomdiaaaDoorShelf
import Derived.Laws.BitsAllLaws
namespace Go.Proofs.YtmhlfipgomdiaaaDoor
open Go.RowKit


/-- A place from here: its text. -/
def pcL (n : Int) : List UInt8 := [80, 67] ++ ((if n < 0 then [45] else [43]) ++ ([48, 120] ++ hexd n.natAbs))
def hx0 (n : Int) : ByteArray := "0x".toUTF8 ++ (if n < 0 then (hnum n).extract 1 (hnum n).size else hnum n)
def sx (n : Int) : ByteArray := (if n < 0 then "-".toUTF8 else "+".toUTF8) ++ hx0 n
def pc (n : Int) : ByteArray := "PC".toUTF8 ++ sx n
theorem hx0_list (n : Int) : (hx0 n).data.toList = [48, 120] ++ hexd n.natAbs := by
  unfold hx0
  rw [ByteArray.data_append, Array.toList_append, show "0x".toUTF8.data.toList = [48, 120] from by decide +kernel]
  congr 1
  split
  · rename_i h
    rw [← ByteArray.toList_eq, Lib.extract_toList]
    simp [hnum, h, ByteArray.size]
  · rename_i h
    simp [hnum, h]
theorem pc_list (n : Int) : (pc n).toList = pcL n := by
  unfold pc sx pcL
  rw [ByteArray.toList_eq, ByteArray.data_append, Array.toList_append, ByteArray.data_append, Array.toList_append, hx0_list, show "PC".toUTF8.data.toList = [80, 67] from by decide +kernel]
  congr 2
  split
  · decide +kernel
  · decide +kernel
theorem pc_inj (n m : Int) (hn : -2147483648 ≤ n ∧ n < 2147483648) (hm : -2147483648 ≤ m ∧ m < 2147483648) : ((pc n).toList == (pc m).toList) = (n == m) := by
  rw [pc_list, pc_list, Bool.eq_iff_iff, beq_iff_eq, beq_iff_eq]
  refine ⟨fun h => ?_, fun h => by rw [h]⟩
  unfold pcL at h
  have h' := List.append_cancel_left h
  split at h' <;> split at h'
  · have := hex_inj (by omega) (by omega) (List.append_cancel_left (List.append_cancel_left h'))
    omega
  · exact absurd (List.cons.inj h').1 (by decide)
  · exact absurd (List.cons.inj h').1 (by decide)
  · have := hex_inj (by omega) (by omega) (List.append_cancel_left (List.append_cancel_left h'))
    omega
theorem pc_size (n : Int) : 0 < (pc n).size := by
  unfold pc
  rw [ByteArray.size_append, show "PC".toUTF8.size = 2 from by decide +kernel]
  omega
theorem hnum_neg (n : Int) (h : n < 0) : 1 ≤ (hnum n).size := by
  simp [hnum, h, ByteArray.size]
/-- A place: its text. -/
def lb (n : Int) : ByteArray := "0x".toUTF8 ++ hnum n
theorem lb_size (n : Int) : 0 < (lb n).size := by
  unfold lb
  rw [ByteArray.size_append, show "0x".toUTF8.size = 2 from by decide +kernel]
  omega
theorem lb_list (n : Int) (h : 0 ≤ n) : (lb n).toList = [48, 120] ++ hexd n.natAbs := by
  have := hx0_list n
  rw [ByteArray.toList_eq]
  unfold hx0 at this
  rw [if_neg (by omega)] at this
  exact this
theorem lb_inj (n m : Int) (hn : -2147483648 ≤ n ∧ n < 2147483648) (hm : -2147483648 ≤ m ∧ m < 2147483648) : ((lb (n % 4294967296)).toList == (lb (m % 4294967296)).toList) = (n == m) := by
  rw [lb_list _ (by omega), lb_list _ (by omega), Bool.eq_iff_iff, beq_iff_eq, beq_iff_eq]
  refine ⟨fun h => ?_, fun h => by rw [h]⟩
  have := hex_inj (by omega) (by omega) (List.append_cancel_left h)
  omega
set_option maxRecDepth 100000 in
theorem sx_any (n : Int) (h0 : -2147483648 ≤ n) (h1 : n < 2147483648) (w : World) (ht : TabB w) : Calls Tryd.prog 39 #[.int .i64 n, .int .i64 16] w fun e w' => e = .returned (.string (sx n)) ∧ Below w.heap.size w w' := by
  have hl := hnum_len n
  have con := sfi16 n (by omega) (by omega) w ht
  have hn := hnum_neg n
  unfold sx hx0
  by_cases h : n < 0
  · have h2 := hn h
    clear hn
    rw [if_pos h, if_pos h]
    generalize hnum n = s at *
    go_enter Tryd.func39, Tryd.ntmps39
    go_wp2_with (first
      | (go_at_call 38; refine con.mono ?_; rintro e w1 ⟨rfl, hb1⟩))
    all_goals (try (exfalso; omega))
    all_goals go_returns
    all_goals exact ⟨rfl, hb1⟩
  · clear hn
    rw [if_neg h, if_neg h]
    have h' : 0 ≤ n := by omega
    generalize hnum n = s at *
    go_enter Tryd.func39, Tryd.ntmps39
    go_wp2_with (first
      | (go_at_call 38; refine con.mono ?_; rintro e w1 ⟨rfl, hb1⟩))
    all_goals (try (exfalso; omega))
    all_goals go_returns
    all_goals exact ⟨rfl, hb1⟩
theorem sx_len (n : Int) : (sx n).size ≤ 30 := by
  have h := hnum_len n
  have h2 : (hx0 n).size ≤ 20 := by
    unfold hx0
    rw [ByteArray.size_append, show "0x".toUTF8.size = 2 from by decide +kernel]
    split
    · rw [ByteArray.size_extract]; omega
    · omega
  unfold sx
  rw [ByteArray.size_append]
  split
  · rw [show "-".toUTF8.size = 1 from by decide +kernel]; omega
  · rw [show "+".toUTF8.size = 1 from by decide +kernel]; omega
theorem ps_any (n : Int) (h0 : -2147483648 ≤ n) (h1 : n < 2147483648) (w : World) (ht : TabB w) : Calls Tryd.prog 31 #[.int .i32 n] w fun e w' => e = .returned (.string (pc n)) ∧ Below w.heap.size w w' := by
  have e1 : IntKind.i64.wrap n = n := by rw [IntKind.wrap_i64]; omega
  have hl := sx_len n
  have con := sx_any n h0 h1 w ht
  unfold pc
  generalize sx n = s at *
  go_enter Tryd.func31, Tryd.ntmps31
  go_wp2_with (first
    | (go_at_call 39; (try rw [e1]); refine con.mono ?_; rintro e w1 ⟨rfl, hb1⟩))
  all_goals (try (exfalso; omega))
  all_goals go_returns
  all_goals exact ⟨rfl, hb1⟩
theorem pc_any (n : Int) (h0 : -2147483648 ≤ n) (h1 : n < 2147483648) (w : World) (ht : TabB w) : Calls Tryd.prog 19 #[.int .i64 n] w fun e w' => e = .returned (.string (pc n)) ∧ Below w.heap.size w w' := by
  have e1 : IntKind.i32.wrap n = n := by rw [IntKind.wrap_i32]; omega
  have con := ps_any n h0 h1 w ht
  generalize pc n = s at *
  go_enter Tryd.func19, Tryd.ntmps19
  go_wp2_with (first
    | (go_at_call 31; (try rw [e1]); refine con.mono ?_; rintro e w1 ⟨rfl, hb1⟩))
  all_goals go_returns
  all_goals exact ⟨rfl, hb1⟩
theorem ht_any (n : Int) (h0 : 0 ≤ n) (h1 : n < 4294967296) (w : World) (ht : TabB w) : Calls Tryd.prog 40 #[.int .i64 n] w fun e w' => e = .returned (.string (lb n)) ∧ Below w.heap.size w w' := by
  have hl := hnum_len n
  have con := sfi16 n (by omega) (by omega) w ht
  unfold lb
  generalize hnum n = s at *
  go_enter Tryd.func40, Tryd.ntmps40
  go_wp2_with (first
    | (go_at_call 38; refine con.mono ?_; rintro e w1 ⟨rfl, hb1⟩))
  all_goals (try (exfalso; omega))
  all_goals go_returns
  all_goals exact ⟨rfl, hb1⟩
theorem ls_any (n : Int) (h0 : 0 ≤ n) (h1 : n < 4294967296) (w : World) (ht : TabB w) : Calls Tryd.prog 32 #[.int .u32 n] w fun e w' => e = .returned (.string (lb n)) ∧ Below w.heap.size w w' := by
  have e1 : IntKind.i64.wrap n = n := by rw [IntKind.wrap_i64]; omega
  have con := ht_any n h0 h1 w ht
  generalize lb n = s at *
  go_enter Tryd.func32, Tryd.ntmps32
  go_wp2_with (first
    | (go_at_call 40; (try rw [e1]); refine con.mono ?_; rintro e w1 ⟨rfl, hb1⟩))
  all_goals go_returns
  all_goals exact ⟨rfl, hb1⟩
theorem lb_any (n : Int) (h0 : 0 ≤ n) (h1 : n < 4294967296) (w : World) (ht : TabB w) : Calls Tryd.prog 20 #[.int .i64 n] w fun e w' => e = .returned (.string (lb n)) ∧ Below w.heap.size w w' := by
  have e1 : IntKind.u32.wrap n = n := by rw [IntKind.wrap_u32']; omega
  have con := ls_any n h0 h1 w ht
  generalize lb n = s at *
  go_enter Tryd.func20, Tryd.ntmps20
  go_wp2_with (first
    | (go_at_call 32; (try rw [e1]); refine con.mono ?_; rintro e w1 ⟨rfl, hb1⟩))
  all_goals go_returns
  all_goals exact ⟨rfl, hb1⟩
/-- The lowest 32 bits of a whole number. -/
theorem and32 (n : Int) (h0 : -2147483648 ≤ n) (h1 : n < 2147483648) : bits .and .i64 n 4294967295 = n % 4294967296 := by
  have hb : (BitVec.ofInt 64 n &&& BitVec.ofInt 64 4294967295).toNat = (n % 4294967296).toNat := by
    rw [BitVec.toNat_and]
    rw [show (BitVec.ofInt 64 4294967295).toNat = 2 ^ 32 - 1 from by decide +kernel, Nat.and_two_pow_sub_one_eq_mod, BitVec.toNat_ofInt]
    omega
  show IntKind.i64.wrap ((BitVec.ofInt 64 n &&& BitVec.ofInt 64 4294967295).toNat : Int) = _
  rw [hb, IntKind.wrap_i64]
  omega
end Go.Proofs.YtmhlfipgomdiaaaDoor
