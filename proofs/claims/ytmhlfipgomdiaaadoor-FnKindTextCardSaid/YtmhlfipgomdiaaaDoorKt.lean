/- The texts of the kinds. -/
import Derived.Test.YtmhlfipgomdiaaaDoorLaid
import Derived.WalkKit
import Derived.WalkSpells
import Derived.WalkLawsBesides
import Derived.Below
import Derived.Laws.Pointers
import Derived.OwnWalk
import Derived.Handy
import Derived.Lib.Hide
namespace Go.Proofs.YtmhlfipgomdiaaaDoor
open Go.RowKit

def ktL : List String := ["PCRel", "Label", "Reg", "CondRegBit", "CondRegField", "FPReg", "VecReg", "VecSReg", "VecSpReg", "MMAReg", "SpReg", "ImmSigned", "ImmUnsigned", "Offset", "NegOffset"]
def kt (n : Nat) : ByteArray := (ktL.getD (n - 1) "").toUTF8
theorem kt_1 (w : World) : Calls Tryd.prog 21 #[.int .i64 1] w fun e w' => e = .returned (.string (kt 1)) ∧ Below w.heap.size w w' := by
  go_enter Tryd.func21, Tryd.ntmps21
  go_wp2
  go_returns
  exact ⟨rfl, Below.refl _ _⟩
theorem kt_2 (w : World) : Calls Tryd.prog 21 #[.int .i64 2] w fun e w' => e = .returned (.string (kt 2)) ∧ Below w.heap.size w w' := by
  go_enter Tryd.func21, Tryd.ntmps21
  go_wp2
  go_returns
  exact ⟨rfl, Below.refl _ _⟩
theorem kt_3 (w : World) : Calls Tryd.prog 21 #[.int .i64 3] w fun e w' => e = .returned (.string (kt 3)) ∧ Below w.heap.size w w' := by
  go_enter Tryd.func21, Tryd.ntmps21
  go_wp2
  go_returns
  exact ⟨rfl, Below.refl _ _⟩
theorem kt_4 (w : World) : Calls Tryd.prog 21 #[.int .i64 4] w fun e w' => e = .returned (.string (kt 4)) ∧ Below w.heap.size w w' := by
  go_enter Tryd.func21, Tryd.ntmps21
  go_wp2
  go_returns
  exact ⟨rfl, Below.refl _ _⟩
theorem kt_5 (w : World) : Calls Tryd.prog 21 #[.int .i64 5] w fun e w' => e = .returned (.string (kt 5)) ∧ Below w.heap.size w w' := by
  go_enter Tryd.func21, Tryd.ntmps21
  go_wp2
  go_returns
  exact ⟨rfl, Below.refl _ _⟩
theorem kt_6 (w : World) : Calls Tryd.prog 21 #[.int .i64 6] w fun e w' => e = .returned (.string (kt 6)) ∧ Below w.heap.size w w' := by
  go_enter Tryd.func21, Tryd.ntmps21
  go_wp2
  go_returns
  exact ⟨rfl, Below.refl _ _⟩
theorem kt_7 (w : World) : Calls Tryd.prog 21 #[.int .i64 7] w fun e w' => e = .returned (.string (kt 7)) ∧ Below w.heap.size w w' := by
  go_enter Tryd.func21, Tryd.ntmps21
  go_wp2
  go_returns
  exact ⟨rfl, Below.refl _ _⟩
theorem kt_8 (w : World) : Calls Tryd.prog 21 #[.int .i64 8] w fun e w' => e = .returned (.string (kt 8)) ∧ Below w.heap.size w w' := by
  go_enter Tryd.func21, Tryd.ntmps21
  go_wp2
  go_returns
  exact ⟨rfl, Below.refl _ _⟩
theorem kt_9 (w : World) : Calls Tryd.prog 21 #[.int .i64 9] w fun e w' => e = .returned (.string (kt 9)) ∧ Below w.heap.size w w' := by
  go_enter Tryd.func21, Tryd.ntmps21
  go_wp2
  go_returns
  exact ⟨rfl, Below.refl _ _⟩
theorem kt_10 (w : World) : Calls Tryd.prog 21 #[.int .i64 10] w fun e w' => e = .returned (.string (kt 10)) ∧ Below w.heap.size w w' := by
  go_enter Tryd.func21, Tryd.ntmps21
  go_wp2
  go_returns
  exact ⟨rfl, Below.refl _ _⟩
theorem kt_11 (w : World) : Calls Tryd.prog 21 #[.int .i64 11] w fun e w' => e = .returned (.string (kt 11)) ∧ Below w.heap.size w w' := by
  go_enter Tryd.func21, Tryd.ntmps21
  go_wp2
  go_returns
  exact ⟨rfl, Below.refl _ _⟩
theorem kt_12 (w : World) : Calls Tryd.prog 21 #[.int .i64 12] w fun e w' => e = .returned (.string (kt 12)) ∧ Below w.heap.size w w' := by
  go_enter Tryd.func21, Tryd.ntmps21
  go_wp2
  go_returns
  exact ⟨rfl, Below.refl _ _⟩
theorem kt_13 (w : World) : Calls Tryd.prog 21 #[.int .i64 13] w fun e w' => e = .returned (.string (kt 13)) ∧ Below w.heap.size w w' := by
  go_enter Tryd.func21, Tryd.ntmps21
  go_wp2
  go_returns
  exact ⟨rfl, Below.refl _ _⟩
theorem kt_14 (w : World) : Calls Tryd.prog 21 #[.int .i64 14] w fun e w' => e = .returned (.string (kt 14)) ∧ Below w.heap.size w w' := by
  go_enter Tryd.func21, Tryd.ntmps21
  go_wp2
  go_returns
  exact ⟨rfl, Below.refl _ _⟩
theorem kt_15 (w : World) : Calls Tryd.prog 21 #[.int .i64 15] w fun e w' => e = .returned (.string (kt 15)) ∧ Below w.heap.size w w' := by
  go_enter Tryd.func21, Tryd.ntmps21
  go_wp2
  go_returns
  exact ⟨rfl, Below.refl _ _⟩
theorem kt_any (w : World) : ∀ n : Nat, 1 ≤ n → n ≤ 15 → Calls Tryd.prog 21 #[.int .i64 n] w fun e w' => e = .returned (.string (kt n)) ∧ Below w.heap.size w w'
  | 0, h, _ => by omega
  | 1, _, _ => kt_1 w
  | 2, _, _ => kt_2 w
  | 3, _, _ => kt_3 w
  | 4, _, _ => kt_4 w
  | 5, _, _ => kt_5 w
  | 6, _, _ => kt_6 w
  | 7, _, _ => kt_7 w
  | 8, _, _ => kt_8 w
  | 9, _, _ => kt_9 w
  | 10, _, _ => kt_10 w
  | 11, _, _ => kt_11 w
  | 12, _, _ => kt_12 w
  | 13, _, _ => kt_13 w
  | 14, _, _ => kt_14 w
  | 15, _, _ => kt_15 w
  | n + 16, _, h => by omega
theorem kt_size (n : Nat) (h1 : 1 ≤ n) (h2 : n ≤ 15) : 0 < (kt n).size := by
  have h : ∀ m : Fin 15, 0 < (kt (m.1 + 1)).size := by decide +kernel
  have := h ⟨n - 1, by omega⟩
  rwa [show n - 1 + 1 = n from by omega] at this
theorem kt_inj (n m : Nat) (h1 : 1 ≤ n) (h2 : n ≤ 15) (h3 : 1 ≤ m) (h4 : m ≤ 15) : ((kt n).toList == (kt m).toList) = ((n : Int) == (m : Int)) := by
  have h : ∀ i j : Fin 15, ((kt (i.1 + 1)).toList == (kt (j.1 + 1)).toList) = (((i.1 + 1 : Nat) : Int) == ((j.1 + 1 : Nat) : Int)) := by decide +kernel
  have := h ⟨n - 1, by omega⟩ ⟨m - 1, by omega⟩
  rwa [show n - 1 + 1 = n from by omega, show m - 1 + 1 = m from by omega] at this
end Go.Proofs.YtmhlfipgomdiaaaDoor
