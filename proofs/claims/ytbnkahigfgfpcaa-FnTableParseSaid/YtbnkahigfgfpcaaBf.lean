/- The package's functions on several fields: bits counted, fields joined. -/
import Derived.Test.YtbnkahigfgfpcaaMany
import Derived.Test.YtbnkahigfgfpcaaSl
import Derived.WalkKit
import Derived.WalkSpells
import Derived.WalkLawsBesides
import Derived.Below
import Derived.Laws.Pointers
import Derived.Deep.RegionHeld3
import Derived.Handy
import Derived.Lib.Hide
import Derived.LoopTactic
namespace Go.Proofs.Ytbnkahigfgfpcaa
open Go.RowKit

set_option maxHeartbeats 1000000 in
theorem numBits_any (fs : List Fld) (A : Option Addr) (c : Nat) (w : World) (hn : fs.length ≤ 64) (hr : FRow .u8 w A fs) (hall : allR fs = true) :
    Calls Try.prog 20 #[.slice A fs.length c] w fun e w' => e = .returned (.int .i64 (sumB fs)) ∧ Below w.heap.size w w' := by
  have Hall := Lib.hid hall
  clear hall
  go_enter Try.func20, Try.ntmps20
  go_wp2
  go_loopw [3, 8] (fun n i wr => ∃ k : Nat, k ≤ fs.length ∧ i = .int .i64 k ∧ n = .int .i64 (sumB (fs.take k)) ∧ Below w.heap.size w wr) (fun _ i _ => fs.length - (intOf i).toNat)
  case atStart => exact ⟨0, Nat.zero_le _, rfl, by simp [sumB], Below.refl _ _⟩
  case round =>
    obtain ⟨k, hk, rfl, rfl, hbel⟩ := hrel
    have hb := sumB_bounds _ (allR_take Hall.out k)
    rw [List.length_take] at hb
    by_cases hlt : k < fs.length
    · obtain ⟨f, hf⟩ : ∃ f, fs[k]? = some f := ⟨_, List.getElem?_eq_getElem hlt⟩
      obtain ⟨bl, off, rfl, hbl, hcell⟩ := (hr.below hbel) (by rintro rfl; simp at hlt)
      obtain ⟨h0, h1, h2⟩ := hcell k f hf
      clear hcell
      have hb3 := frb_spec (allR_get Hall.out hf)
      go_wp2
      go_roundw
      case rel => exact ⟨k + 1, by omega, by go_num, by rw [take_snoc fs k f hf, sumB_snoc], hbel.alloc hbel.size _⟩
      case measure => simp [intOf]; omega
    · obtain rfl : k = fs.length := by omega
      rw [List.take_length]
      go_wp2
      go_ret
      exact ⟨rfl, hbel⟩

/-- What stands before is moved up by the field's bits, and the field put behind it. -/
theorem or_join64 (J v b S : Int) (hb : 1 ≤ b) (hb' : b ≤ 32) (_hS0 : 0 ≤ S) (hS : S + b ≤ 64) (J0 : 0 ≤ J) (J1 : J < 2 ^ S.toNat) (v0 : 0 ≤ v) (v1 : v < 2 ^ b.toNat) :
    bits .or .u64 (IntKind.u64.wrap (J * 2 ^ b.toNat)) (IntKind.u64.wrap v) = J * 2 ^ b.toNat + v := by
  have p := two_pos b.toNat
  have a1 : (J + 1) * 2 ^ b.toNat ≤ 2 ^ S.toNat * 2 ^ b.toNat := Int.mul_le_mul_of_nonneg_right (by omega) (Int.le_of_lt p)
  have a2 : 0 ≤ J * 2 ^ b.toNat := Int.mul_nonneg J0 (Int.le_of_lt p)
  rw [Int.add_mul, Int.one_mul, ← two_add] at a1
  have a3 : (2 : Int) ^ (S.toNat + b.toNat) ≤ 18446744073709551616 := two_le (n := 64) (by omega)
  have a4 := pow32 hb'
  rw [IntKind.wrap_u64, IntKind.wrap_u64, Int.emod_eq_of_lt a2 (by omega), Int.emod_eq_of_lt v0 (by omega)]
  obtain ⟨U, rfl⟩ := Int.eq_ofNat_of_zero_le J0
  obtain ⟨V, rfl⟩ := Int.eq_ofNat_of_zero_le v0
  have e : (U : Int) * 2 ^ b.toNat = ((U * 2 ^ b.toNat : Nat) : Int) := by simp
  have hv : V < 2 ^ b.toNat := by exact_mod_cast v1
  have hU : ((U * 2 ^ b.toNat : Nat) : Int) < 18446744073709551616 := by rw [← e]; omega
  have hV : V < 18446744073709551616 := by omega
  rw [e, u64_or_nat _ _ (by omega) hV, nat_join b.toNat _ _ (by simp) hv]
  simp

set_option maxRecDepth 100000 in
set_option maxHeartbeats 2000000 in
theorem parseAll_any (fs : List Fld) (A : Option Addr) (c : Nat) (x0 x1 : Int) (w : World) (hn : fs.length ≤ 64) (hr : FRow .u8 w A fs) (hall : allR fs = true) (hS : sumB fs ≤ 64)
    (hx0 : 0 ≤ x0) (hx0' : x0 < 4294967296) (hx1 : 0 ≤ x1) (hx1' : x1 < 4294967296) :
    Calls Try.prog 21 #[.slice A fs.length c, .agg #[.int .u32 x0, .int .u32 x1]] w fun e w' => e = .returned (.tuple #[.int .u64 (jn x0 x1 fs), .int .u8 (sumB fs)]) ∧ Below w.heap.size w w' := by
  have Hall := Lib.hid hall
  clear hall
  go_enter Try.func21, Try.ntmps21
  go_wp2
  go_loopw [4, 5, 10] (fun u l i wr => ∃ k : Nat, k ≤ fs.length ∧ i = .int .i64 k ∧ u = .int .u64 (jn x0 x1 (fs.take k)) ∧ l = .int .u8 (sumB (fs.take k)) ∧ Below w.heap.size w wr ∧ w.heap.size < wr.heap.size ∧
      wr.cell? ⟨w.heap.size, 0, none⟩ = some (.int .u32 x0) ∧ wr.cell? ⟨w.heap.size, 1, none⟩ = some (.int .u32 x1)) (fun _ _ i _ => fs.length - (intOf i).toNat)
  case atStart => exact ⟨0, Nat.zero_le _, rfl, by simp [jn], by simp [sumB], by go_grown, by simp, by simp [go_sem], by simp [go_sem]⟩
  case round =>
    obtain ⟨k, hk, rfl, rfl, rfl, hbel, hsz, hc0, hc1⟩ := hrel
    by_cases hlt : k < fs.length
    · obtain ⟨f, hf⟩ : ∃ f, fs[k]? = some f := ⟨_, List.getElem?_eq_getElem hlt⟩
      obtain ⟨bl, off, rfl, hbl, hcell⟩ := hr (by rintro rfl; simp at hlt)
      have hfr := frb_spec (allR_get Hall.out hf)
      have hsn := take_snoc fs k f hf
      have hjn := jn_snoc x0 x1 (fs.take k) f
      have hss := sumB_snoc (fs.take k) f
      have hle := sumB_take_le Hall.out (k + 1)
      have hJ := jn_bounds x0 x1 (fs.take k) (allR_take Hall.out k)
      have hS0 := (sumB_bounds _ (allR_take Hall.out k)).1
      rw [hsn, hss] at hle
      rw [← hsn] at hjn hss
      obtain ⟨o, b, wd⟩ := f
      simp only at hfr hle hjn hss
      obtain ⟨h0, h1, h2⟩ := hcell k _ hf
      simp only at h0 h1 h2
      replace h0 := (hbel.cell (p := ⟨bl, off + k * 3, none⟩) hbl).trans h0
      replace h1 := (hbel.cell (p := ⟨bl, off + k * 3 + 1, none⟩) hbl).trans h1
      replace h2 := (hbel.cell (p := ⟨bl, off + k * 3 + 2, none⟩) hbl).trans h2
      have Hjn := Lib.hid hjn
      have Hss := Lib.hid hss
      generalize jn x0 x1 (fs.take k) = J at *
      generalize sumB (fs.take k) = S at *
      clear hcell hf hjn hsn hss
      have v0 := fv_nonneg (ws x0 x1 wd) o b
      have v1 := fv_lt32 (x := ws x0 x1 wd) (o := o) (b := b) hfr.2.1
      have He := Lib.hid ((or_join64 J (fv (ws x0 x1 wd) o b) b S hfr.1 hfr.2.1 (by omega) (by omega) hJ.1 hJ.2 v0 (fv_lt _ _ _)).trans Hjn.out.symm)
      have z1 : w.heap.size < wr.heap.size + 1 := by omega
      go_wp2_with fail
      go_region_held3 (fun w' => w'.cell? ⟨wr.heap.size, 0, none⟩ = some (.int .u8 o) ∧ w'.cell? ⟨wr.heap.size, 1, none⟩ = some (.int .u8 b) ∧ w'.cell? ⟨wr.heap.size, 2, none⟩ = some (.int .u8 wd) ∧
          w'.cell? ⟨w.heap.size, 0, none⟩ = some (.int .u32 x0) ∧ w'.cell? ⟨w.heap.size, 1, none⟩ = some (.int .u32 x1))
        (go_keep)
        (first | (go_at_call 22; refine (parse_ok o b wd x0 x1 (by omega) (by omega) (by omega) (by omega) (by omega) hx0 hx0' hx1 hx1' _).mono ?_; rintro e w1 ⟨rfl, hb1⟩; obtain ⟨hc1', hf1', hs1', hl1'⟩ := bcellN (wr.heap.size + 1) hb1 (by first | assumption | (simp; done) | (simp; omega) | omega)))
      go_wp2
      go_roundw
      case rel =>
        refine ⟨k + 1, by omega, by go_num, by rw [He.out], by rw [Hss.out], ?_, ?_, ?_, ?_⟩
        · exact Below.trans (by go_grown) (hb1.mono (by simp; omega))
        · exact hl1' _ z1
        · simp [go_sem, hc1', z1, hc0, hsz]
        · simp [go_sem, hc1', z1, hc1, hsz]
      case measure => simp [intOf]; omega
    · obtain rfl : k = fs.length := by omega
      rw [List.take_length]
      go_wp2
      go_ret2
      exact ⟨rfl, hbel⟩

set_option maxHeartbeats 1000000 in
theorem parseU_any (fs : List Fld) (A : Option Addr) (c : Nat) (x0 x1 : Int) (w : World) (hn : fs.length ≤ 64) (hr : FRow .u8 w A fs) (hall : allR fs = true) (hS : sumB fs ≤ 64)
    (hx0 : 0 ≤ x0) (hx0' : x0 < 4294967296) (hx1 : 0 ≤ x1) (hx1' : x1 < 4294967296) :
    Calls Try.prog 18 #[.slice A fs.length c, .agg #[.int .u32 x0, .int .u32 x1]] w fun e w' => e = .returned (.int .u64 (jn x0 x1 fs)) ∧ Below w.heap.size w w' := by
  have Hall := Lib.hid hall
  clear hall
  have Hrb := Lib.hid (show ∀ W, Below w.heap.size w W → FRow .u8 W A fs from fun W h => hr.below h)
  go_enter Try.func18, Try.ntmps18
  go_wp2_with fail
  refine (parseAll_any fs A c x0 x1 _ hn (Hrb.out _ (by go_grown)) Hall.out hS hx0 hx0' hx1 hx1').mono ?_
  rintro e w1 ⟨rfl, hb1⟩
  go_wp2
  go_ret
  exact ⟨rfl, Below.trans (by go_grown) (hb1.mono (by simp))⟩

set_option maxHeartbeats 1000000 in
theorem parseS_any (fs : List Fld) (A : Option Addr) (c : Nat) (x0 x1 : Int) (w : World) (hn : fs.length ≤ 64) (hr : FRow .u8 w A fs) (hall : allR fs = true) (hS1 : 1 ≤ sumB fs) (hS : sumB fs ≤ 64)
    (hx0 : 0 ≤ x0) (hx0' : x0 < 4294967296) (hx1 : 0 ≤ x1) (hx1' : x1 < 4294967296) :
    Calls Try.prog 19 #[.slice A fs.length c, .agg #[.int .u32 x0, .int .u32 x1]] w fun e w' => e = .returned (.int .i64 (sgn (jn x0 x1 fs) (sumB fs))) ∧ Below w.heap.size w w' := by
  have hj := jn_bounds x0 x1 fs hall
  have He := Lib.hid (sgn64 (jn x0 x1 fs) (sumB fs) hS1 hS hj.1 hj.2)
  have Hall := Lib.hid hall
  clear hall hj
  have Hrb := Lib.hid (show ∀ W, Below w.heap.size w W → FRow .u8 W A fs from fun W h => hr.below h)
  go_enter Try.func19, Try.ntmps19
  go_wp2_with fail
  refine (parseAll_any fs A c x0 x1 _ hn (Hrb.out _ (by go_grown)) Hall.out hS hx0 hx0' hx1 hx1').mono ?_
  rintro e w1 ⟨rfl, hb1⟩
  go_wp2
  go_ret
  exact ⟨ret_int He.out, Below.trans (by go_grown) (hb1.mono (by simp))⟩
end Go.Proofs.Ytbnkahigfgfpcaa
