/- The decimal numeral at the program, and what a text of it tells. -/
import Derived.Test.YtmhlfipgomdiaaaDoorLaid
import Derived.Lib.ItoaLen
import Derived.Lib.ItoaMem
import Derived.Lib.Strings
import Derived.Lib.SmallJoins
import Derived.WalkKit
import Derived.WalkSpells
import Derived.WalkLawsBesides
import Derived.Below
import Derived.Laws.Pointers
import Derived.OwnWalk
import Derived.Handy
import Derived.Lib.Hide
import Derived.Test.YtmhlfipgomdiaaaDoorShelf
import Derived.Laws.BitsAllLaws
namespace Go.Proofs.YtmhlfipgomdiaaaDoor
open Go.RowKit


abbrev Tab (w : World) : Prop := Lib.TabIs Tryd.prog w "internal/strconv.uint64pow10" .u64 Lib.pow10Tab
theorem gTab : Tryd.prog.globalNamed "internal/strconv.uint64pow10" = some 0 := by kernel_rfl
theorem gTabType : (Tryd.prog.globals[0]?).map (·.type) = some 75 := by kernel_rfl
theorem cellsTab : Tryd.prog.cellsOf 75 = 20 := by kernel_rfl
theorem cellsU64 : Tryd.prog.cellsOf 68 = 1 := by kernel_rfl
theorem laid_is : (Rows.laid_internal_strconv_uint64pow10 : DataW Unit) = Lib.tabData .u64 Lib.pow10Tab := by kernel_rfl
/-- The rows' list gives the table of powers of ten. -/
theorem tab_of {W : World} (h : laidMetH Tryd.prog [("math/bits.deBruijn32tab", Rows.laid_math_bits_deBruijn32tab), ("math/bits.deBruijn64tab", Rows.laid_math_bits_deBruijn64tab), ("internal/strconv.uint64pow10", Rows.laid_internal_strconv_uint64pow10)] W) : Tab W := by
  have h' : laidMet Tryd.prog [("math/bits.deBruijn32tab", Rows.laid_math_bits_deBruijn32tab), ("math/bits.deBruijn64tab", Rows.laid_math_bits_deBruijn64tab), ("internal/strconv.uint64pow10", Rows.laid_internal_strconv_uint64pow10)] W := h
  obtain ⟨ps, ⟨_, _, _, _, _, _, _, _, _, _, h1, _⟩, _⟩ := h'
  obtain ⟨_, _, _, _, _, _, _, _, _, _, h2, _⟩ := h1
  obtain ⟨g', t', cs, fuel, p, q, hg', ht', hvar, hd, _, _⟩ := h2
  obtain rfl := Option.some.inj (gTab.symm.trans hg')
  obtain rfl := Option.some.inj (gTabType.symm.trans ht')
  rw [laid_is] at hd
  unfold Tab Lib.TabIs
  rw [hvar, ← Lib.cells_of_tab Tryd.underlying75 Tryd.underlying68 cellsU64 cellsTab hd]
theorem tab_below {w w' : World} (h : Tab w) (hb : Below w.heap.size w w') : Tab w' := by
  unfold Tab Lib.TabIs World.var? at h ⊢
  rw [gTab] at h ⊢
  simp only [Option.bind_some] at h ⊢
  have hp : 0 < w.heap.size := by
    rcases Nat.lt_or_ge 0 w.heap.size with h' | h'
    · exact h'
    · simp [Array.getElem?_eq_none h'] at h
  rw [hb.block 0 hp]
  exact h
/-- The decimal numeral of a number. -/
def num (n : Int) : ByteArray := ⟨(Lib.itoa n).toArray⟩
theorem num_len (n : Int) (h0 : -9223372036854775808 ≤ n) (h1 : n ≤ 9223372036854775807) : (num n).size ≤ 21 := by
  have := Lib.itoa_length_le n h0 h1
  simpa [num, ByteArray.size] using this
theorem fi_any (n : Int) (h0 : -9223372036854775808 ≤ n) (h1 : n ≤ 9223372036854775807) (w : World) (h : Tab w) : Calls Tryd.prog 38 #[.int .i64 n, .int .i64 10] w fun e w' => e = .returned (.string (num n)) ∧ Below w.heap.size w w' :=
  (Tryd.strconv_FormatInt_10 n h0 h1 w h).mono fun e w' ⟨he, k, os, hw⟩ => by
    subst hw
    refine ⟨he, ⟨rfl, rfl, rfl, by simp [Sort.grow], fun j hj => ?_⟩⟩
    simp [Sort.grow, Array.getElem?_append, hj]
/-- A numeral's number. -/
def dval (l : List UInt8) : Nat := l.foldl (fun a d => a * 10 + (d.toNat - 48)) 0
theorem dval_dec : ∀ u : Nat, dval (Lib.decDigits u) = u := by
  intro u
  induction u using Nat.strongRecOn with
  | _ u ih =>
    rw [Lib.decDigits]
    split
    · rename_i h
      simp [dval, UInt8.toNat_ofNat]
      omega
    · rename_i h
      have := ih (u / 10) (by omega)
      unfold dval at this ⊢
      rw [List.foldl_append, this]
      simp [UInt8.toNat_ofNat]
      omega
theorem dec_inj {u v : Nat} (h : Lib.decDigits u = Lib.decDigits v) : u = v := by
  have := congrArg dval h
  rwa [dval_dec, dval_dec] at this
end Go.Proofs.YtmhlfipgomdiaaaDoor
