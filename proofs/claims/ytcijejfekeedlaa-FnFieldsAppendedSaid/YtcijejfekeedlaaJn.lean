/- The reference's Joined: the bits of fields joined. -/
import Derived.Test.YtcijejfekeedlaaSl
import Derived.WalkKit
import Derived.WalkSpells
import Derived.WalkLawsBesides
import Derived.Below
import Derived.BigQuiet
import Derived.Deep.QuietTactic
import Derived.Laws.Pointers
import Derived.Handy
import Derived.Lib.Hide
import Derived.LoopTactic
namespace Go.Proofs.Ytcijejfekeedlaa
open Go.RowKit

/-- What one round of the inner loop needs: the sum so far has room for one bit more. -/
theorem part_bounds (J S x o : Int) (m : Nat) (hJ0 : 0 ≤ J) (hJ1 : J < 2 ^ S.toNat) (hS : 0 ≤ S) (h : S + m ≤ 63) : 0 ≤ J * 2 ^ m + fv x o m ∧ J * 2 ^ m + fv x o m ≤ 9223372036854775807 := by
  have b0 := fv_nonneg x o m
  have b1 := fv_lt x o m
  rw [Int.toNat_natCast] at b1
  have p := two_pos m
  have m1 : 0 ≤ J * 2 ^ m := Int.mul_nonneg hJ0 (Int.le_of_lt p)
  have m2 : (J + 1) * 2 ^ m ≤ 2 ^ S.toNat * 2 ^ m := Int.mul_le_mul_of_nonneg_right (by omega) (Int.le_of_lt p)
  rw [Int.add_mul, Int.one_mul, ← two_add] at m2
  have m3 : (2 : Int) ^ (S.toNat + m) ≤ 9223372036854775808 := two_le (n := 63) (by omega)
  omega
theorem part_succ (J x o : Int) (m : Nat) (ho : 0 ≤ o) (h : o + m + 1 ≤ 32) : 2 * (J * 2 ^ m + fv x o m) + x / 2 ^ (31 - (o + m)).toNat % 2 = J * 2 ^ (m + 1) + fv x o ((m + 1 : Nat) : Int) := by
  have e : ((m + 1 : Nat) : Int) = (m : Int) + 1 := by omega
  rw [e, fv_succ x o m ho (by omega) h, two_add]
  show _ = J * (2 ^ m * 2) + _
  rw [← Int.mul_assoc]
  omega

set_option maxRecDepth 100000 in
set_option maxHeartbeats 2000000 in
theorem joined_any (fs : List Fld) (A : Option Addr) (c : Nat) (x0 x1 : Int) (w : World) (hn : fs.length ≤ 2147483647) (hr : FRow .i64 w A fs) (hall : allR fs = true) (hS : sumB fs ≤ 64)
    (hx0 : 0 ≤ x0) (hx0' : x0 < 4294967296) (hx1 : 0 ≤ x1) (hx1' : x1 < 4294967296) :
    Calls Try.prog 16 #[.slice A fs.length c, .agg #[.int .u32 x0, .int .u32 x1]] w fun e w' => e = .returned (.int .u64 (jn x0 x1 fs)) ∧ Below w.heap.size w w' := by
  have Hall := Lib.hid hall
  clear hall
  go_enter Try.func16, Try.ntmps16
  go_wp2
  go_loopw [5, 6] (fun out i wr => ∃ k : Nat, k ≤ fs.length ∧ i = .int .i64 k ∧ out = .int .u64 (jn x0 x1 (fs.take k)) ∧ Below w.heap.size w wr ∧ w.heap.size < wr.heap.size ∧
      wr.cell? ⟨w.heap.size, 0, none⟩ = some (.int .u32 x0) ∧ wr.cell? ⟨w.heap.size, 1, none⟩ = some (.int .u32 x1)) (fun _ i _ => fs.length - (intOf i).toNat)
  case atStart => exact ⟨0, Nat.zero_le _, rfl, by simp [jn], by go_grown, by simp, by simp [go_sem], by simp [go_sem]⟩
  case round =>
    obtain ⟨k, hk, rfl, rfl, hbel, hsz, hc0, hc1⟩ := hrel
    by_cases hlt : k < fs.length
    · obtain ⟨f, hf⟩ : ∃ f, fs[k]? = some f := ⟨_, List.getElem?_eq_getElem hlt⟩
      obtain ⟨bl, off, rfl, hbl, hcell⟩ := hr (by rintro rfl; simp at hlt)
      have hfr := frb_spec (allR_get Hall.out hf)
      have hsn := take_snoc fs k f hf
      have hjn := jn_snoc x0 x1 (fs.take k) f
      have hss := sumB_snoc (fs.take k) f
      have hle := sumB_take_le Hall.out (k + 1)
      rw [hsn, hss] at hle
      have hJ := jn_bounds x0 x1 (fs.take k) (allR_take Hall.out k)
      have hS0 := (sumB_bounds _ (allR_take Hall.out k)).1
      rw [← hsn] at hjn
      obtain ⟨o, b, wd⟩ := f
      simp only at hfr hle hjn
      obtain ⟨h0, h1, h2⟩ := hcell k _ hf
      simp only at h0 h1 h2
      replace h0 := (hbel.cell (p := ⟨bl, off + k * 3, none⟩) hbl).trans h0
      replace h1 := (hbel.cell (p := ⟨bl, off + k * 3 + 1, none⟩) hbl).trans h1
      replace h2 := (hbel.cell (p := ⟨bl, off + k * 3 + 2, none⟩) hbl).trans h2
      have Hjn := Lib.hid hjn
      generalize jn x0 x1 (fs.take k) = J at *
      generalize sumB (fs.take k) = S at *
      clear hcell hf hjn hsn hss
      obtain ⟨wo, rfl⟩ : ∃ wo : World, wo = wr := ⟨_, rfl⟩
      go_wp2
      go_loopw [5, 7] (fun out i wr => ∃ m : Nat, (m : Int) ≤ b ∧ i = .int .i64 m ∧ out = .int .u64 (J * 2 ^ m + fv (ws x0 x1 wd) o m) ∧ Below w.heap.size w wr ∧ w.heap.size < wr.heap.size ∧
        wr.cell? ⟨w.heap.size, 0, none⟩ = some (.int .u32 x0) ∧ wr.cell? ⟨w.heap.size, 1, none⟩ = some (.int .u32 x1) ∧
        wr.cell? ⟨bl, off + k * 3, none⟩ = some (.int .i64 o) ∧ wr.cell? ⟨bl, off + k * 3 + 1, none⟩ = some (.int .i64 b) ∧ wr.cell? ⟨bl, off + k * 3 + 2, none⟩ = some (.int .i64 wd)) (fun _ i _ => b.toNat - (intOf i).toNat)
      case atStart => exact ⟨0, by omega, rfl, by rw [show ((0 : Nat) : Int) = 0 from rfl, fv_zero]; simp, hbel, hsz, hc0, hc1, h0, h1, h2⟩
      case round =>
        clear h0 h1 h2 hbel hsz hc0 hc1
        obtain ⟨m, hm, rfl, rfl, hbel, hsz, hc0, hc1, h0, h1, h2⟩ := hrel
        by_cases hmb : (m : Int) < b
        · obtain ⟨p0, p1⟩ := part_bounds J S (ws x0 x1 wd) o m hJ.1 hJ.2 (by omega) (by omega)
          have Hs := Lib.hid (part_succ J (ws x0 x1 wd) o m (by omega) (by omega))
          rcases (by omega : wd = 0 ∨ wd = 1) with rfl | rfl
          · have hx : ws x0 x1 0 = x0 := rfl
            rw [hx] at p0 p1 Hs
            obtain ⟨E, HE⟩ : ∃ E, E = J * 2 ^ m + fv x0 o m := ⟨_, rfl⟩
            rw [hx, ← HE]
            rw [← HE] at p0 p1 Hs
            clear hx HE
            go_wp2_with fail
            go_quiet ((go_at_call 29; exact Calls.quiet_of_same (bit_any x0 (o + m) hx0 hx0' (by omega) (by omega) _)))
            go_wp2
            go_roundw
            case rel => exact ⟨m + 1, by omega, by go_num, by rw [Hs.out], below_drewN hbel _, hsz, hc0, hc1, h0, h1, h2⟩
            case measure => simp [intOf]; omega
          · have hx : ws x0 x1 1 = x1 := rfl
            rw [hx] at p0 p1 Hs
            obtain ⟨E, HE⟩ : ∃ E, E = J * 2 ^ m + fv x1 o m := ⟨_, rfl⟩
            rw [hx, ← HE]
            rw [← HE] at p0 p1 Hs
            clear hx HE
            go_wp2_with fail
            go_quiet ((go_at_call 29; exact Calls.quiet_of_same (bit_any x1 (o + m) hx1 hx1' (by omega) (by omega) _)))
            go_wp2
            go_roundw
            case rel => exact ⟨m + 1, by omega, by go_num, by rw [Hs.out], below_drewN hbel _, hsz, hc0, hc1, h0, h1, h2⟩
            case measure => simp [intOf]; omega
        · obtain rfl : b = (m : Int) := by omega
          rw [Int.toNat_natCast] at Hjn
          go_wp2
          go_roundw
          case rel => exact ⟨k + 1, by omega, by go_num, by rw [Hjn.out], hbel, hsz, hc0, hc1⟩
          case measure => simp [intOf]; omega
    · obtain rfl : k = fs.length := by omega
      rw [List.take_length]
      go_wp2
      go_ret
      exact ⟨rfl, hbel⟩
theorem jn_one (x0 x1 o b wd : Int) : jn x0 x1 [⟨o, b, wd⟩] = fv (ws x0 x1 wd) o b := by simp [jn]
theorem row_one {kd : IntKind} {W : World} {B : Nat} {o b wd : Int} (hB : B < W.heap.size) (h0 : W.cell? ⟨B, 0, none⟩ = some (.int kd o)) (h1 : W.cell? ⟨B, 1, none⟩ = some (.int kd b)) (h2 : W.cell? ⟨B, 2, none⟩ = some (.int kd wd)) :
    FRow kd W (some ⟨B, 0, none⟩) [⟨o, b, wd⟩] := fun _ => ⟨B, 0, rfl, hB, fun k f hk => by
  match k, hk with
  | 0, hk =>
    simp at hk
    subst hk
    exact ⟨by simpa using h0, by simpa using h1, by simpa using h2⟩
  | k + 1, hk => simp at hk⟩
theorem one_right {o b wd : Int} (h : frb o b wd = true) : allR [⟨o, b, wd⟩] = true ∧ 1 ≤ sumB [⟨o, b, wd⟩] ∧ sumB [⟨o, b, wd⟩] ≤ 64 := by
  have := frb_spec h
  refine ⟨by simp [allR, h], ?_⟩
  simp [sumB]
  omega
theorem joined_one (o b wd x0 x1 : Int) (B : Nat) (w : World) (hfr : frb o b wd = true) (hx0 : 0 ≤ x0) (hx0' : x0 < 4294967296) (hx1 : 0 ≤ x1) (hx1' : x1 < 4294967296)
    (hB : B < w.heap.size) (h0 : w.cell? ⟨B, 0, none⟩ = some (.int .i64 o)) (h1 : w.cell? ⟨B, 1, none⟩ = some (.int .i64 b)) (h2 : w.cell? ⟨B, 2, none⟩ = some (.int .i64 wd)) :
    Calls Try.prog 16 #[.slice (some ⟨B, 0, none⟩) 1 1, .agg #[.int .u32 x0, .int .u32 x1]] w fun e w' => e = .returned (.int .u64 (fv (ws x0 x1 wd) o b)) ∧ Below w.heap.size w w' := by
  have h := joined_any [⟨o, b, wd⟩] (some ⟨B, 0, none⟩) 1 x0 x1 w (by simp) (row_one hB h0 h1 h2) (one_right hfr).1 (one_right hfr).2.2 hx0 hx0' hx1 hx1'
  rw [jn_one] at h
  exact h
end Go.Proofs.Ytcijejfekeedlaa
