/- Bits outside of a field make no difference. It holds for every input, with no condition. -/
import Derived.Test.YtcijejfekeedlaaRows
import Derived.Test.YtcijejfekeedlaaFr
import Derived.WalkKit
import Derived.WalkSpells
import Derived.WalkLawsBesides
import Derived.ProofKit
import Derived.OpenShut
import Derived.ChangeOld
import Derived.Below
import Derived.Carry
import Derived.Handy
import Derived.Lib.Hide
import Derived.Laws.Pointers
import Derived.Test.YtcijejfekeedlaaFp
import Derived.RegionTactic
import Derived.BigRegion
import Derived.BigQuiet
import Derived.Deep.QuietTactic
import Derived.Laws.BitsAllLaws
namespace Go.Proofs.Ytcijejfekeedlaa.fnFieldOther
open Go.ChangeShapes Go.WideShapes Go.ChangeAt Go.RowKit Go.Joins Go.Deep
set_option linter.unusedVariables false

theorem other_bits (X Y : Int) (s n : Nat) (X0 : 0 ≤ X) (X1 : X < 4294967296) (Y0 : 0 ≤ Y) (Y1 : Y < 4294967296) (h : s + n ≤ 32) :
    bits .or .u32 (bits .and .u32 X ((2 ^ n - 1) * 2 ^ s)) (bits .andNot .u32 Y ((2 ^ n - 1) * 2 ^ s)) / 2 ^ s % 2 ^ n = X / 2 ^ s % 2 ^ n := by
  obtain ⟨X, rfl⟩ := Int.eq_ofNat_of_zero_le X0
  obtain ⟨Y, rfl⟩ := Int.eq_ofNat_of_zero_le Y0
  have hX : X < 2 ^ 32 := by omega
  have hY : Y < 2 ^ 32 := by omega
  have hp : (2 : Nat) ^ (n + s) ≤ 2 ^ 32 := Nat.pow_le_pow_right (by decide) (by omega)
  have h1 : 1 ≤ 2 ^ n := Nat.one_le_two_pow
  have h2 : 1 ≤ 2 ^ s := Nat.one_le_two_pow
  have hM : (2 ^ n - 1) * 2 ^ s < 2 ^ 32 := by
    rw [Nat.sub_mul, Nat.one_mul, ← Nat.pow_add]; omega
  have e : ((2 : Int) ^ n - 1) * 2 ^ s = (((2 ^ n - 1) * 2 ^ s : Nat) : Int) := by
    have : ((2 ^ n - 1 : Nat) : Int) = (2 : Int) ^ n - 1 := by rw [Int.ofNat_sub h1]; simp
    rw [Int.natCast_mul, this]; simp
  generalize hm : (2 ^ n - 1) * 2 ^ s = M at *
  have a1 : X &&& M < 2 ^ 32 := Nat.and_lt_two_pow _ hM
  have a2 : Y &&& (4294967295 - M) < 2 ^ 32 := Nat.lt_of_le_of_lt Nat.and_le_left hY
  rw [e, u32_and_nat X M hX hM, u32_andNot_nat Y M hY hM, u32_or_nat _ _ a1 a2]
  have key : ((X &&& M) ||| (Y &&& (4294967295 - M))) / 2 ^ s % 2 ^ n = X / 2 ^ s % 2 ^ n := by
    apply Nat.eq_of_testBit_eq
    intro j
    rw [Nat.testBit_mod_two_pow, Nat.testBit_mod_two_pow, Nat.testBit_div_two_pow, Nat.testBit_div_two_pow, Nat.testBit_or, Nat.testBit_and, Nat.testBit_and]
    by_cases hj : j < n
    · have m1 : M.testBit (s + j) = true := by
        rw [← hm, Nat.testBit_mul_two_pow]
        simp [Nat.testBit_two_pow_sub_one, hj]
      have m2 : (4294967295 - M).testBit (s + j) = false := by
        have := Nat.testBit_two_pow_sub_succ (n := 32) hM (s + j)
        rw [show 2 ^ 32 - (M + 1) = 4294967295 - M by omega] at this
        rw [this, m1]; simp
      rw [Nat.add_comm j s, m1, m2]; simp
    · simp [hj]
  exact_mod_cast congrArg (fun t : Nat => (t : Int)) key
theorem other_fv (X Y o b : Int) (X0 : 0 ≤ X) (X1 : X < 4294967296) (Y0 : 0 ≤ Y) (Y1 : Y < 4294967296) (ho : 0 ≤ o) (hb : 1 ≤ b) (h : o + b ≤ 32) :
    fv (bits .or .u32 (bits .and .u32 X ((2 ^ b.toNat - 1) % 4294967296 * 2 ^ (32 - o - b).toNat % 4294967296)) (bits .andNot .u32 Y ((2 ^ b.toNat - 1) % 4294967296 * 2 ^ (32 - o - b).toNat % 4294967296))) o b = fv X o b ∧
    0 ≤ bits .or .u32 (bits .and .u32 X ((2 ^ b.toNat - 1) % 4294967296 * 2 ^ (32 - o - b).toNat % 4294967296)) (bits .andNot .u32 Y ((2 ^ b.toNat - 1) % 4294967296 * 2 ^ (32 - o - b).toNat % 4294967296)) ∧
    bits .or .u32 (bits .and .u32 X ((2 ^ b.toNat - 1) % 4294967296 * 2 ^ (32 - o - b).toNat % 4294967296)) (bits .andNot .u32 Y ((2 ^ b.toNat - 1) % 4294967296 * 2 ^ (32 - o - b).toNat % 4294967296)) < 4294967296 := by
  have p0 := two_pos b.toNat
  have p1 := two_pos (32 - o - b).toNat
  have p2 : (2 : Int) ^ b.toNat ≤ 4294967296 := pow32 (by omega)
  have p3 : (2 : Int) ^ (b.toNat + (32 - o - b).toNat) ≤ 4294967296 := two_le (n := 32) (by omega)
  rw [two_add] at p3
  have e1 : ((2 : Int) ^ b.toNat - 1) % 4294967296 = 2 ^ b.toNat - 1 := Int.emod_eq_of_lt (by omega) (by omega)
  have a0 : (0 : Int) ≤ (2 ^ b.toNat - 1) * 2 ^ (32 - o - b).toNat := Int.mul_nonneg (by omega) (Int.le_of_lt p1)
  have a1 : ((2 : Int) ^ b.toNat - 1) * 2 ^ (32 - o - b).toNat < 4294967296 := by rw [Int.sub_mul, Int.one_mul]; omega
  have e2 : ((2 : Int) ^ b.toNat - 1) % 4294967296 * 2 ^ (32 - o - b).toNat % 4294967296 = (2 ^ b.toNat - 1) * 2 ^ (32 - o - b).toNat := by rw [e1]; exact Int.emod_eq_of_lt a0 a1
  rw [e2]
  have hb := bounds_u32 (wf_bits .or .u32 (bits .and .u32 X ((2 ^ b.toNat - 1) * 2 ^ (32 - o - b).toNat)) (bits .andNot .u32 Y ((2 ^ b.toNat - 1) * 2 ^ (32 - o - b).toNat)))
  exact ⟨other_bits X Y _ _ X0 X1 Y0 Y1 (by omega), hb.1, by omega⟩

set_option maxHeartbeats 4000000 in
theorem walk (w : World) (o0 b0 d0 : Int) (x1 y1 : Int) (x2 y2 : Int) (wo0 : (Lit.int .i64 o0).wf = true) (wb0 : (Lit.int .i64 b0).wf = true) (wd0 : (Lit.int .i64 d0).wf = true) (hx1 : 0 ≤ x1) (hx1' : x1 < 4294967296) (hy1 : 0 ≤ y1) (hy1' : y1 < 4294967296) (hx2 : 0 ≤ x2) (hx2' : x2 < 4294967296) (hy2 : 0 ≤ y2) (hy2' : y2 < 4294967296) :
    Calls Try.prog 4 #[.agg #[.int .i64 o0, .int .i64 b0, .int .i64 d0], .agg #[.int .u32 x1, .int .u32 y1], .agg #[.int .u32 x2, .int .u32 y2]] w fun e w' => e = .returned (.bool true) ∧ Below w.heap.size w w' := by
  cases hfr : frb o0 b0 d0
  · go_enter Try.func4, Try.ntmps4
    go_wp2_with (first | (go_at_call 15; refine (right_any o0 b0 _ _).mono ?_; rw [hfr]; rintro e w1 ⟨rfl, hbw1⟩; obtain ⟨hcw1, hfw1, hsw1, hlw1⟩ := bcellN (w.heap.size + 3) hbw1 (by first | assumption | (simp; done) | (simp; omega) | omega)))
    all_goals go_ret
    all_goals refine ⟨rfl, ?_⟩
    all_goals (repeat' (first | (with_reducible exact Below.refl _ _) | (with_reducible refine Below.drew ?_) | (with_reducible refine Below.alloc ?_ ?_ _) | (with_reducible refine Below.setCell ?_ ?_ _) | (with_reducible refine Below.trans ?_ (hbw1.mono ?_)) | (simp; done) | (simp; omega) | omega))
  · obtain ⟨g1, g2, g3, g4, g5, g6, g7⟩ := frb_spec hfr
    rcases (by omega : d0 = 0 ∨ d0 = 1) with rfl | rfl
    · obtain ⟨m1, m2, m3⟩ := other_fv x1 x2 o0 b0 hx1 hx1' hx2 hx2' g3 g1 g5
      have t1 : (fv (ws x1 y1 0) o0 b0 == fv (ws (bits .or .u32 (bits .and .u32 x1 ((2 ^ b0.toNat - 1) % 4294967296 * 2 ^ (32 - o0 - b0).toNat % 4294967296)) (bits .andNot .u32 x2 ((2 ^ b0.toNat - 1) % 4294967296 * 2 ^ (32 - o0 - b0).toNat % 4294967296))) y2 0) o0 b0) = true := beq_iff_eq.2 m1.symm
      clear m1
      go_enter Try.func4, Try.ntmps4
      go_wp2_with (first | (go_at_call 15; refine (right_any o0 b0 _ _).mono ?_; rw [hfr]; rintro e w1 ⟨rfl, hbw1⟩; obtain ⟨hcw1, hfw1, hsw1, hlw1⟩ := bcellN (w.heap.size + 3) hbw1 (by first | assumption | (simp; done) | (simp; omega) | omega)))
      go_quiet (fail)
      have hbq : Below w1.heap.size w1 (w1.drewN nq) := below_drewN (Below.refl _ _) _
      generalize w1.drewN nq = w2 at hbq ⊢
      obtain ⟨hcq, hfq, hsq, hlq⟩ := bcellN (w.heap.size + 3) hbq hsw1
      go_wp2_with fail
      go_region
      all_goals go_wp2_with fail
      all_goals refine (fieldParse_ok o0 b0 0 x1 y1 (by omega) (by omega) (by omega) (by omega) (by omega) hx1 hx1' hy1 hy1' _).mono ?_
      all_goals
        rintro e w3 ⟨rfl, hbw3⟩
        obtain ⟨hcw3, hfw3, hsw3, hlw3⟩ := bcellN (w2.heap.size + 1) hbw3 (by first | assumption | (simp; done) | (simp; omega) | omega)
        have l0 : w.heap.size < w2.heap.size + 1 := by omega
        have l1 : w.heap.size + 1 < w2.heap.size + 1 := by omega
        have l2 : w.heap.size + 1 + 1 < w2.heap.size + 1 := by omega
        go_wp2_with fail
        refine (fieldParse_ok o0 b0 0 _ _ (by omega) (by omega) (by omega) (by omega) (by omega) m2 m3 hy2 hy2' _).mono ?_
        rintro e w4 ⟨rfl, hbw4⟩
        go_wp2
        go_ret
        refine ⟨rfl, ?_⟩
        (repeat' (first | (with_reducible exact Below.refl _ _) | (with_reducible refine Below.drew ?_) | (with_reducible refine Below.alloc ?_ ?_ _) | (with_reducible refine Below.setCell ?_ ?_ _) | (with_reducible refine Below.trans ?_ (hbw4.mono ?_)) | (with_reducible refine Below.trans ?_ (hbw3.mono ?_)) | (with_reducible refine Below.trans ?_ (hbq.mono ?_)) | (with_reducible refine Below.trans ?_ (hbw1.mono ?_)) | (simp; done) | (simp; omega) | omega))
    · obtain ⟨m1, m2, m3⟩ := other_fv y1 y2 o0 b0 hy1 hy1' hy2 hy2' g3 g1 g5
      have t1 : (fv (ws x1 y1 1) o0 b0 == fv (ws x2 (bits .or .u32 (bits .and .u32 y1 ((2 ^ b0.toNat - 1) % 4294967296 * 2 ^ (32 - o0 - b0).toNat % 4294967296)) (bits .andNot .u32 y2 ((2 ^ b0.toNat - 1) % 4294967296 * 2 ^ (32 - o0 - b0).toNat % 4294967296))) 1) o0 b0) = true := beq_iff_eq.2 m1.symm
      clear m1
      go_enter Try.func4, Try.ntmps4
      go_wp2_with (first | (go_at_call 15; refine (right_any o0 b0 _ _).mono ?_; rw [hfr]; rintro e w1 ⟨rfl, hbw1⟩; obtain ⟨hcw1, hfw1, hsw1, hlw1⟩ := bcellN (w.heap.size + 3) hbw1 (by first | assumption | (simp; done) | (simp; omega) | omega)))
      go_quiet (fail)
      have hbq : Below w1.heap.size w1 (w1.drewN nq) := below_drewN (Below.refl _ _) _
      generalize w1.drewN nq = w2 at hbq ⊢
      obtain ⟨hcq, hfq, hsq, hlq⟩ := bcellN (w.heap.size + 3) hbq hsw1
      go_wp2_with fail
      go_region
      all_goals go_wp2_with fail
      all_goals refine (fieldParse_ok o0 b0 1 x1 y1 (by omega) (by omega) (by omega) (by omega) (by omega) hx1 hx1' hy1 hy1' _).mono ?_
      all_goals
        rintro e w3 ⟨rfl, hbw3⟩
        obtain ⟨hcw3, hfw3, hsw3, hlw3⟩ := bcellN (w2.heap.size + 1) hbw3 (by first | assumption | (simp; done) | (simp; omega) | omega)
        have l0 : w.heap.size < w2.heap.size + 1 := by omega
        have l1 : w.heap.size + 1 < w2.heap.size + 1 := by omega
        have l2 : w.heap.size + 1 + 1 < w2.heap.size + 1 := by omega
        go_wp2_with fail
        refine (fieldParse_ok o0 b0 1 _ _ (by omega) (by omega) (by omega) (by omega) (by omega) hx2 hx2' m2 m3 _).mono ?_
        rintro e w4 ⟨rfl, hbw4⟩
        go_wp2
        go_ret
        refine ⟨rfl, ?_⟩
        (repeat' (first | (with_reducible exact Below.refl _ _) | (with_reducible refine Below.drew ?_) | (with_reducible refine Below.alloc ?_ ?_ _) | (with_reducible refine Below.setCell ?_ ?_ _) | (with_reducible refine Below.trans ?_ (hbw4.mono ?_)) | (with_reducible refine Below.trans ?_ (hbw3.mono ?_)) | (with_reducible refine Below.trans ?_ (hbq.mono ?_)) | (with_reducible refine Below.trans ?_ (hbw1.mono ?_)) | (simp; done) | (simp; omega) | omega))

set_option maxRecDepth 100000 in
theorem lifted (os : Os) (started : os.Started) (H : Type) (enc : TypeId × Value → H) :
    ReturnsInHanded {} Try.checked os 4 .any (Rows.fnFieldOtherSpec.pre6 enc Try.prog Try.f4 Rows.fnFieldOtherRow.domain false) (Rows.fnFieldOtherSpec.post enc Try.prog Try.f4 false true false false) := by
  refine returnsInHanded_of_change (C := Try.checked) own started (by kernel_rfl) Try.func4
    (ChangeSpec.witness6 (enc := enc) (C := Try.checked) false ⟨#[], #[.agg #[.int .i64 0, .int .i64 0, .int .i64 0], .agg #[.int .u32 0, .int .u32 0], .agg #[.int .u32 0, .int .u32 0]], []⟩ 8 (by kernel_rfl) (by kernel_rfl) (by kernel_rfl) (by kernel_rfl)) ?_
  intro W base args ds gs before hval0 hW hcnd _
  have hval : ∀ (j : Nat) t v, Try.f4.params[j]? = some t → args[j]? = some v → Value.okWide Try.prog W .any base t v := hval0
  have hW' := hW
  obtain ⟨p, q, hA0, hV, rfl, hfz, hnd⟩ := hW
  have hA : DataW.TrodAll enc Try.prog W 0 (fun _ => true) true Try.f4.params.toList args.toList ds p := hA0
  rw [Try.params4] at hA hval
  obtain ⟨v0, vs0, e0, ds0, p0, q0, hargs, rfl, rfl, h0, r0⟩ := trodAll_cons hA
  obtain ⟨v1, vs1, e1, ds1, p1, q1, rfl, rfl, rfl, h1, r1⟩ := trodAll_cons r0
  obtain ⟨v2, vs2, e2, ds2, p2, q2, rfl, rfl, rfl, h2, r2⟩ := trodAll_cons r1
  obtain ⟨rfl, rfl, rfl⟩ := trodAll_nil r2
  obtain rfl : args = #[v0, v1, v2] := by cases args; simp_all
  obtain ⟨rfl, rfl⟩ := trodVars_none hV
  have k0 := h0
  have lt0 : ∀ x ∈ p0, x.block < W.heap.size := by obtain ⟨m, hm⟩ := k0; exact DataW.trod_lt m _ _ _ hm
  have k1 := h1
  have lt1 : ∀ x ∈ p1, x.block < W.heap.size := by obtain ⟨m, hm⟩ := k1; exact DataW.trod_lt m _ _ _ hm
  have k2 := h2
  have lt2 : ∀ x ∈ p2, x.block < W.heap.size := by obtain ⟨m, hm⟩ := k2; exact DataW.trod_lt m _ _ _ hm
  obtain ⟨o0, b0, d0, rfl, wo0, wb0, wd0⟩ := open_fld (hval 0 23 v0 rfl rfl) h0
  obtain ⟨x1, y1, rfl, hx1, hx1', hy1, hy1'⟩ := open_words (hval 1 25 v1 rfl rfl) h1
  obtain ⟨x2, y2, rfl, hx2, hx2', hy2, hy2'⟩ := open_words (hval 2 25 v2 rfl rfl) h2
  clear hA0 hval0
  refine (walk W o0 b0 d0 x1 y1 x2 y2 wo0 wb0 wd0 hx1 hx1' hy1 hy1' hx2 hx2' hy2 hy2').mono fun e W' ⟨he, bel⟩ => ?_
  subst he
  exact ⟨_, rfl, _, _, _, [], _, [], hW', trodAll_mk1 (shut_bool Try.underlying4 _), (trodAll_cons_mk (Below.trod laidOut (by kernel_rfl) (of_decide_eq_true (by kernel_rfl)) k0 bel lt0) (trodAll_cons_mk (Below.trod laidOut (by kernel_rfl) (of_decide_eq_true (by kernel_rfl)) k1 bel lt1) (trodAll_cons_mk (Below.trod laidOut (by kernel_rfl) (of_decide_eq_true (by kernel_rfl)) k2 bel lt2) trodAll_mk0))), rfl, bel.frame _, fun h => by cases h⟩

theorem over : Rows.fnFieldOtherRow.holds Try.pinned (OpenSpec.ofChange Rows.fnFieldOtherSpec) :=
  OpenClaim.holds_of_wide 4 Try.f4 rfl rfl rfl rfl rfl rfl rfl ⟨rfl, rfl, rfl, rfl, rfl⟩ rfl rfl rfl rfl rfl (by kernel_rfl) Try.func4 (by kernel_rfl)
    (of_decide_eq_true (by kernel_rfl)) (by unfold Func.isWrapper; first | (rw [if_pos (by decide +kernel)]; kernel_rfl) | (rw [if_neg (by decide +kernel)]; exact ⟨rfl, rfl⟩))
    (fun os started H enc _ => lifted os started H enc)

theorem proved : Rows.FnFieldOtherSaid := over
#print axioms proved
end Go.Proofs.Ytcijejfekeedlaa.fnFieldOther
