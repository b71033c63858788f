/- A field is its first bits, and behind them the others. It holds for every input, with no condition. -/
import Derived.Test.YtcijejfekeedlaaRows
import Derived.Test.YtcijejfekeedlaaFr
import Derived.WalkKit
import Derived.WalkSpells
import Derived.WalkLawsBesides
import Derived.ProofKit
import Derived.OpenShut
import Derived.ChangeOld
import Derived.Below
import Derived.Carry
import Derived.Handy
import Derived.Lib.Hide
import Derived.Laws.Pointers
import Derived.Test.YtcijejfekeedlaaFp
namespace Go.Proofs.Ytcijejfekeedlaa.fnFieldSplit
open Go.ChangeShapes Go.WideShapes Go.ChangeAt Go.RowKit Go.Joins Go.Deep
set_option linter.unusedVariables false

theorem split_join (u v n m : Int) (u0 : 0 ≤ u) (u1 : u < 2 ^ n.toNat) (v0 : 0 ≤ v) (v1 : v < 2 ^ m.toNat) (hn : 0 ≤ n) (hm : 0 ≤ m) (h : n + m ≤ 32) : bits .or .u32 (u * 2 ^ m.toNat % 4294967296) v = u * 2 ^ m.toNat + v := by
  have p := two_pos m.toNat
  have a1 : (u + 1) * 2 ^ m.toNat ≤ 2 ^ n.toNat * 2 ^ m.toNat := Int.mul_le_mul_of_nonneg_right (by omega) (Int.le_of_lt p)
  have a2 : 0 ≤ u * 2 ^ m.toNat := Int.mul_nonneg u0 (Int.le_of_lt p)
  rw [Int.add_mul, Int.one_mul, ← two_add] at a1
  have a3 : (2 : Int) ^ (n.toNat + m.toNat) ≤ 4294967296 := two_le (n := 32) (by omega)
  rw [Int.emod_eq_of_lt a2 (by omega)]
  obtain ⟨U, rfl⟩ := Int.eq_ofNat_of_zero_le u0
  obtain ⟨V, rfl⟩ := Int.eq_ofNat_of_zero_le v0
  have e : (U : Int) * 2 ^ m.toNat = ((U * 2 ^ m.toNat : Nat) : Int) := by simp
  have hv : V < 2 ^ m.toNat := by exact_mod_cast v1
  have hm32 : (2 : Nat) ^ m.toNat ≤ 2 ^ 32 := Nat.pow_le_pow_right (by decide) (by omega)
  have hV : V < 4294967296 := Nat.lt_of_lt_of_le hv hm32
  have hU : ((U * 2 ^ m.toNat : Nat) : Int) < 4294967296 := by rw [← e]; omega
  rw [e, u32_or_nat _ _ (by omega) hV, nat_join m.toNat _ _ (by simp) hv]
  simp

set_option maxHeartbeats 4000000 in
theorem walk (w : World) (o0 b0 d0 : Int) (a1 : Int) (x2 y2 : Int) (wo0 : (Lit.int .i64 o0).wf = true) (wb0 : (Lit.int .i64 b0).wf = true) (wd0 : (Lit.int .i64 d0).wf = true) (wa1 : (Lit.int .i64 a1).wf = true) (hx2 : 0 ≤ x2) (hx2' : x2 < 4294967296) (hy2 : 0 ≤ y2) (hy2' : y2 < 4294967296) :
    Calls Try.prog 5 #[.agg #[.int .i64 o0, .int .i64 b0, .int .i64 d0], .int .i64 a1, .agg #[.int .u32 x2, .int .u32 y2]] w fun e w' => e = .returned (.bool true) ∧ Below w.heap.size w w' := by
  cases hfr : frb o0 b0 d0
  · go_enter Try.func5, Try.ntmps5
    go_wp2_with (first | (go_at_call 15; refine (right_any o0 b0 _ _).mono ?_; rw [hfr]; rintro e w1 ⟨rfl, hbw1⟩; obtain ⟨hcw1, hfw1, hsw1, hlw1⟩ := bcellN (w.heap.size + 2) hbw1 (by first | assumption | (simp; done) | (simp; omega) | omega)))
    all_goals go_ret
    all_goals refine ⟨rfl, ?_⟩
    all_goals (repeat' (first | (with_reducible exact Below.refl _ _) | (with_reducible refine Below.drew ?_) | (with_reducible refine Below.alloc ?_ ?_ _) | (with_reducible refine Below.setCell ?_ ?_ _) | (with_reducible refine Below.trans ?_ (hbw1.mono ?_)) | (simp; done) | (simp; omega) | omega))
  · obtain ⟨g1, g2, g3, g4, g5, g6, g7⟩ := frb_spec hfr
    by_cases hn : 1 ≤ a1 ∧ a1 < b0
    · obtain ⟨n1, n2⟩ := hn
      have e1 : fv (ws x2 y2 d0) o0 b0 = fv (ws x2 y2 d0) o0 a1 * 2 ^ (b0 - a1).toNat + fv (ws x2 y2 d0) (o0 + a1) (b0 - a1) := by
        have := fv_split (ws x2 y2 d0) o0 a1 (b0 - a1) g3 (by omega) (by omega) (by omega)
        rwa [show a1 + (b0 - a1) = b0 by omega] at this
      have t1 : (fv (ws x2 y2 d0) o0 b0 == bits .or .u32 (fv (ws x2 y2 d0) o0 a1 * 2 ^ (b0 - a1).toNat % 4294967296) (fv (ws x2 y2 d0) (o0 + a1) (b0 - a1))) = true := by
        rw [e1]
        exact beq_iff_eq.2 (split_join _ _ a1 (b0 - a1) (fv_nonneg _ _ _) (fv_lt _ _ _) (fv_nonneg _ _ _) (fv_lt _ _ _) (by omega) (by omega) (by omega)).symm
      clear e1
      go_enter Try.func5, Try.ntmps5
      go_wp2_with fail
      go_wp2_with (first | (go_at_call 15; refine (right_any o0 b0 _ _).mono ?_; rw [hfr]; rintro e w1 ⟨rfl, hbw1⟩; obtain ⟨hcw1, hfw1, hsw1, hlw1⟩ := bcellN (w.heap.size + 2) hbw1 (by first | assumption | (simp; done) | (simp; omega) | omega)))
      refine (fieldParse_ok o0 a1 d0 x2 y2 (by omega) (by omega) (by omega) (by omega) (by omega) ‹_› ‹_› ‹_› ‹_› _).mono ?_
      rintro e w2 ⟨rfl, hbw2⟩
      obtain ⟨hcw2, hfw2, hsw2, hlw2⟩ := bcellN (w.heap.size + 2) hbw2 (by first | assumption | (simp; done) | (simp; omega) | omega)
      go_wp2_with fail
      refine (fieldParse_ok (o0 + a1) (b0 - a1) d0 x2 y2 (by omega) (by omega) (by omega) (by omega) (by omega) ‹_› ‹_› ‹_› ‹_› _).mono ?_
      rintro e w3 ⟨rfl, hbw3⟩
      obtain ⟨hcw3, hfw3, hsw3, hlw3⟩ := bcellN (w.heap.size + 2) hbw3 (by first | assumption | (simp; done) | (simp; omega) | omega)
      go_wp2_with fail
      refine (fieldParse_ok o0 b0 d0 x2 y2 (by omega) (by omega) (by omega) (by omega) (by omega) ‹_› ‹_› ‹_› ‹_› _).mono ?_
      rintro e w4 ⟨rfl, hbw4⟩
      obtain ⟨hcw4, hfw4, hsw4, hlw4⟩ := bcellN (w.heap.size + 2) hbw4 (by first | assumption | (simp; done) | (simp; omega) | omega)
      go_wp2
      go_ret
      refine ⟨rfl, ?_⟩
      (repeat' (first | (with_reducible exact Below.refl _ _) | (with_reducible refine Below.drew ?_) | (with_reducible refine Below.alloc ?_ ?_ _) | (with_reducible refine Below.setCell ?_ ?_ _) | (with_reducible refine Below.trans ?_ (hbw4.mono ?_)) | (with_reducible refine Below.trans ?_ (hbw3.mono ?_)) | (with_reducible refine Below.trans ?_ (hbw2.mono ?_)) | (with_reducible refine Below.trans ?_ (hbw1.mono ?_)) | (simp; done) | (simp; omega) | omega))
    · go_enter Try.func5, Try.ntmps5
      go_wp2_with (first | (go_at_call 15; refine (right_any o0 b0 _ _).mono ?_; rw [hfr]; rintro e w1 ⟨rfl, hbw1⟩; obtain ⟨hcw1, hfw1, hsw1, hlw1⟩ := bcellN (w.heap.size + 2) hbw1 (by first | assumption | (simp; done) | (simp; omega) | omega)))
      all_goals (try (exfalso; omega))
      all_goals go_ret
      all_goals refine ⟨rfl, ?_⟩
      all_goals (repeat' (first | (with_reducible exact Below.refl _ _) | (with_reducible refine Below.drew ?_) | (with_reducible refine Below.alloc ?_ ?_ _) | (with_reducible refine Below.setCell ?_ ?_ _) | (with_reducible refine Below.trans ?_ (hbw1.mono ?_)) | (simp; done) | (simp; omega) | omega))

set_option maxRecDepth 100000 in
theorem lifted (os : Os) (started : os.Started) (H : Type) (enc : TypeId × Value → H) :
    ReturnsInHanded {} Try.checked os 5 .any (Rows.fnFieldSplitSpec.pre6 enc Try.prog Try.f5 Rows.fnFieldSplitRow.domain false) (Rows.fnFieldSplitSpec.post enc Try.prog Try.f5 false true false false) := by
  refine returnsInHanded_of_change (C := Try.checked) own started (by kernel_rfl) Try.func5
    (ChangeSpec.witness6 (enc := enc) (C := Try.checked) false ⟨#[], #[.agg #[.int .i64 0, .int .i64 0, .int .i64 0], .int .i64 0, .agg #[.int .u32 0, .int .u32 0]], []⟩ 8 (by kernel_rfl) (by kernel_rfl) (by kernel_rfl) (by kernel_rfl)) ?_
  intro W base args ds gs before hval0 hW hcnd _
  have hval : ∀ (j : Nat) t v, Try.f5.params[j]? = some t → args[j]? = some v → Value.okWide Try.prog W .any base t v := hval0
  have hW' := hW
  obtain ⟨p, q, hA0, hV, rfl, hfz, hnd⟩ := hW
  have hA : DataW.TrodAll enc Try.prog W 0 (fun _ => true) true Try.f5.params.toList args.toList ds p := hA0
  rw [Try.params5] at hA hval
  obtain ⟨v0, vs0, e0, ds0, p0, q0, hargs, rfl, rfl, h0, r0⟩ := trodAll_cons hA
  obtain ⟨v1, vs1, e1, ds1, p1, q1, rfl, rfl, rfl, h1, r1⟩ := trodAll_cons r0
  obtain ⟨v2, vs2, e2, ds2, p2, q2, rfl, rfl, rfl, h2, r2⟩ := trodAll_cons r1
  obtain ⟨rfl, rfl, rfl⟩ := trodAll_nil r2
  obtain rfl : args = #[v0, v1, v2] := by cases args; simp_all
  obtain ⟨rfl, rfl⟩ := trodVars_none hV
  have k0 := h0
  have lt0 : ∀ x ∈ p0, x.block < W.heap.size := by obtain ⟨m, hm⟩ := k0; exact DataW.trod_lt m _ _ _ hm
  have k1 := h1
  have lt1 : ∀ x ∈ p1, x.block < W.heap.size := by obtain ⟨m, hm⟩ := k1; exact DataW.trod_lt m _ _ _ hm
  have k2 := h2
  have lt2 : ∀ x ∈ p2, x.block < W.heap.size := by obtain ⟨m, hm⟩ := k2; exact DataW.trod_lt m _ _ _ hm
  obtain ⟨o0, b0, d0, rfl, wo0, wb0, wd0⟩ := open_fld (hval 0 23 v0 rfl rfl) h0
  obtain ⟨a1, rfl, _, _, wa1⟩ := open_int Try.underlying3 (hval 1 3 v1 rfl rfl) h1
  obtain ⟨x2, y2, rfl, hx2, hx2', hy2, hy2'⟩ := open_words (hval 2 25 v2 rfl rfl) h2
  clear hA0 hval0
  refine (walk W o0 b0 d0 a1 x2 y2 wo0 wb0 wd0 wa1 hx2 hx2' hy2 hy2').mono fun e W' ⟨he, bel⟩ => ?_
  subst he
  exact ⟨_, rfl, _, _, _, [], _, [], hW', trodAll_mk1 (shut_bool Try.underlying4 _), (trodAll_cons_mk (Below.trod laidOut (by kernel_rfl) (of_decide_eq_true (by kernel_rfl)) k0 bel lt0) (trodAll_cons_mk (Below.trod laidOut (by kernel_rfl) (of_decide_eq_true (by kernel_rfl)) k1 bel lt1) (trodAll_cons_mk (Below.trod laidOut (by kernel_rfl) (of_decide_eq_true (by kernel_rfl)) k2 bel lt2) trodAll_mk0))), rfl, bel.frame _, fun h => by cases h⟩

theorem over : Rows.fnFieldSplitRow.holds Try.pinned (OpenSpec.ofChange Rows.fnFieldSplitSpec) :=
  OpenClaim.holds_of_wide 5 Try.f5 rfl rfl rfl rfl rfl rfl rfl ⟨rfl, rfl, rfl, rfl, rfl⟩ rfl rfl rfl rfl rfl (by kernel_rfl) Try.func5 (by kernel_rfl)
    (of_decide_eq_true (by kernel_rfl)) (by unfold Func.isWrapper; first | (rw [if_pos (by decide +kernel)]; kernel_rfl) | (rw [if_neg (by decide +kernel)]; exact ⟨rfl, rfl⟩))
    (fun os started H enc _ => lifted os started H enc)

theorem proved : Rows.FnFieldSplitSaid := over
#print axioms proved
end Go.Proofs.Ytcijejfekeedlaa.fnFieldSplit
