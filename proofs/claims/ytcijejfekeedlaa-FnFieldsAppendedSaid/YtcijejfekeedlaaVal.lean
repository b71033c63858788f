/- The reference's Bits, Signed and Value. -/
import Derived.Test.YtcijejfekeedlaaJn
import Derived.WalkKit
import Derived.WalkSpells
import Derived.WalkLawsBesides
import Derived.Below
import Derived.Laws.Pointers
import Derived.Handy
import Derived.Lib.Hide
import Derived.LoopTactic
namespace Go.Proofs.Ytcijejfekeedlaa
open Go.RowKit

set_option maxHeartbeats 1000000 in
theorem sum_any (fs : List Fld) (A : Option Addr) (c : Nat) (w : World) (hn : fs.length ≤ 2147483647) (hr : FRow .i64 w A fs) (hall : allR fs = true) :
    Calls Try.prog 19 #[.slice A fs.length c] w fun e w' => e = .returned (.int .i64 (sumB fs)) ∧ w' = w := by
  have Hall := Lib.hid hall
  clear hall
  go_enter Try.func19, Try.ntmps19
  go_wp2
  go_loop [3, 4] (fun n i => ∃ k : Nat, k ≤ fs.length ∧ i = .int .i64 k ∧ n = .int .i64 (sumB (fs.take k))) (fun _ i => fs.length - (intOf i).toNat)
  case atStart => exact ⟨0, Nat.zero_le _, rfl, by simp [sumB]⟩
  case round =>
    obtain ⟨k, hk, rfl, rfl⟩ := hrel
    have hb := sumB_bounds _ (allR_take Hall.out k)
    rw [List.length_take] at hb
    by_cases hlt : k < fs.length
    · obtain ⟨f, hf⟩ : ∃ f, fs[k]? = some f := ⟨_, List.getElem?_eq_getElem hlt⟩
      obtain ⟨bl, off, rfl, hbl, hcell⟩ := hr (by rintro rfl; simp at hlt)
      obtain ⟨h0, h1, h2⟩ := hcell k f hf
      clear hcell
      have hb3 := frb_spec (allR_get Hall.out hf)
      go_wp2
      go_round
      case rel => exact ⟨k + 1, by omega, by go_num, by rw [take_snoc fs k f hf, sumB_snoc]⟩
      case measure => simp [intOf]; omega
    · obtain rfl : k = fs.length := by omega
      rw [List.take_length]
      go_wp2
      go_ret
      exact ⟨rfl, rfl⟩

theorem top_bit (n b : Int) (hb : 1 ≤ b) (h1 : n < 2 ^ b.toNat) : (n / 2 ^ (b - 1).toNat = 1) ↔ 2 ^ (b - 1).toNat ≤ n := by
  have e := two_half b hb
  have p := two_pos (b - 1).toNat
  rw [e] at h1
  generalize (2 : Int) ^ (b - 1).toNat = H at *
  constructor
  · intro h
    have := Int.mul_ediv_add_emod n H
    have := Int.emod_nonneg n (Int.ne_of_gt p)
    rw [h] at *
    omega
  · intro h
    have h2 : n = (n - H) + H * 1 := by omega
    rw [h2, Int.add_mul_ediv_left _ _ (by omega), Int.ediv_eq_zero_of_lt (by omega) (by omega)]
    rfl
theorem wrap_neg (n X : Int) (h0 : X ≤ 2 * n) (h1 : n < X) (hX : X ≤ 9223372036854775808) : wrap64 (n - wrap64 X) = n - X := by
  unfold wrap64
  omega
theorem sgn_64 (n : Int) (h0 : 0 ≤ n) (h1 : n < 18446744073709551616) : wrap64 n = sgn n 64 := by
  have e1 : (2 : Int) ^ ((64 : Int) - 1).toNat = 9223372036854775808 := by decide
  have e2 : (2 : Int) ^ (64 : Int).toNat = 18446744073709551616 := by decide
  unfold sgn
  rw [e1, e2]
  unfold wrap64
  split <;> omega

set_option maxHeartbeats 1000000 in
theorem signed_any (n b : Int) (hb : 1 ≤ b) (hb' : b ≤ 64) (h0 : 0 ≤ n) (h1 : n < 2 ^ b.toNat) (w : World) :
    Calls Try.prog 34 #[.int .u64 n, .int .i64 b] w fun e w' => e = .returned (.int .i64 (sgn n b)) ∧ w' = w := by
  have hle : n < 18446744073709551616 := Int.lt_of_lt_of_le h1 (two_le (n := 64) (by omega))
  by_cases h64 : b < 64
  · have hle2 : n < 9223372036854775808 := Int.lt_of_lt_of_le h1 (two_le (n := 63) (by omega))
    have ep : (b - 1).toNat = b.toNat - 1 := by omega
    by_cases ht : 2 ^ (b - 1).toNat ≤ n
    · have t1 : (n / 2 ^ (b.toNat - 1) == 1) = true := beq_iff_eq.2 (ep ▸ (top_bit n b hb h1).2 ht)
      have Hs := Lib.hid (show sgn n b = n - 2 ^ b.toNat from if_pos ht)
      have Hw := Lib.hid (wrap_neg n (2 ^ b.toNat) (by rw [two_half b hb]; omega) h1 (two_le (n := 63) (by omega)))
      clear ht h1 ep
      go_enter Try.func34, Try.ntmps34
      go_wp2
      go_ret
      exact ⟨ret_int (Hw.out.trans Hs.out.symm), rfl⟩
    · have t1 : (n / 2 ^ (b.toNat - 1) == 1) = false := beq_eq_false_iff_ne.2 (fun h => ht ((top_bit n b hb h1).1 (ep ▸ h)))
      have Hs := Lib.hid (show sgn n b = n from if_neg ht)
      clear ht h1 ep
      go_enter Try.func34, Try.ntmps34
      go_wp2
      go_ret
      exact ⟨ret_int Hs.out.symm, rfl⟩
  · obtain rfl : b = 64 := by omega
    go_enter Try.func34, Try.ntmps34
    go_wp2
    go_ret
    exact ⟨ret_int (sgn_64 n h0 hle), rfl⟩

set_option maxHeartbeats 1000000 in
theorem value_any (fs : List Fld) (A : Option Addr) (c : Nat) (x0 x1 : Int) (w : World) (hn : fs.length ≤ 2147483647) (hr : FRow .i64 w A fs) (hall : allR fs = true) (hS1 : 1 ≤ sumB fs) (hS : sumB fs ≤ 64)
    (hx0 : 0 ≤ x0) (hx0' : x0 < 4294967296) (hx1 : 0 ≤ x1) (hx1' : x1 < 4294967296) :
    Calls Try.prog 21 #[.slice A fs.length c, .agg #[.int .u32 x0, .int .u32 x1]] w fun e w' => e = .returned (.int .i64 (sgn (jn x0 x1 fs) (sumB fs))) ∧ Below w.heap.size w w' := by
  have hj := jn_bounds x0 x1 fs hall
  have Hj := Lib.hid hj
  have Hall := Lib.hid hall
  clear hj hall
  have hrb : ∀ W, Below w.heap.size w W → FRow .i64 W A fs := fun W h => hr.below h
  have Hrb := Lib.hid hrb
  clear hrb
  go_enter Try.func21, Try.ntmps21
  go_wp2_with fail
  refine (joined_any fs A c x0 x1 _ hn (Hrb.out _ (by go_grown)) Hall.out hS hx0 hx0' hx1 hx1').mono ?_
  rintro e w1 ⟨rfl, hb1⟩
  have hb1' : Below w.heap.size w w1 := Below.trans (by go_grown) (hb1.mono (by simp))
  go_wp2_with fail
  refine (sum_any fs A c _ hn (Hrb.out _ hb1') Hall.out).mono ?_
  rintro e w2 ⟨rfl, rfl⟩
  go_wp2_with fail
  refine (signed_any _ _ hS1 hS Hj.out.1 Hj.out.2 _).mono ?_
  rintro e w3 ⟨rfl, rfl⟩
  go_wp2
  go_ret
  exact ⟨rfl, hb1'⟩

theorem value_one (o b wd x0 x1 : Int) (B : Nat) (w : World) (hfr : frb o b wd = true) (hx0 : 0 ≤ x0) (hx0' : x0 < 4294967296) (hx1 : 0 ≤ x1) (hx1' : x1 < 4294967296)
    (hB : B < w.heap.size) (h0 : w.cell? ⟨B, 0, none⟩ = some (.int .i64 o)) (h1 : w.cell? ⟨B, 1, none⟩ = some (.int .i64 b)) (h2 : w.cell? ⟨B, 2, none⟩ = some (.int .i64 wd)) :
    Calls Try.prog 21 #[.slice (some ⟨B, 0, none⟩) 1 1, .agg #[.int .u32 x0, .int .u32 x1]] w fun e w' => e = .returned (.int .i64 (sgn (fv (ws x0 x1 wd) o b) b)) ∧ Below w.heap.size w w' := by
  have h := value_any [⟨o, b, wd⟩] (some ⟨B, 0, none⟩) 1 x0 x1 w (by simp) (row_one hB h0 h1 h2) (one_right hfr).1 (one_right hfr).2.1 (one_right hfr).2.2 hx0 hx0' hx1 hx1'
  rw [jn_one, show sumB [⟨o, b, wd⟩] = b from by simp [sumB]] at h
  exact h
end Go.Proofs.Ytcijejfekeedlaa
