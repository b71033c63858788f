/- One field is told as a list of it. It holds for every input, with no condition. -/
import Derived.Test.YtcijejfekeedlaaRows
import Derived.Test.YtcijejfekeedlaaFr
import Derived.WalkKit
import Derived.WalkSpells
import Derived.WalkLawsBesides
import Derived.ProofKit
import Derived.OpenShut
import Derived.ChangeOld
import Derived.Below
import Derived.Carry
import Derived.Handy
import Derived.Lib.Hide
import Derived.Laws.Pointers
import Derived.Test.YtcijejfekeedlaaFf
import Derived.Test.YtcijejfekeedlaaFp
import Derived.Test.YtcijejfekeedlaaFs
namespace Go.Proofs.Ytcijejfekeedlaa.fnFieldsOne
open Go.ChangeShapes Go.WideShapes Go.ChangeAt Go.RowKit Go.Joins Go.Deep
set_option linter.unusedVariables false

theorem fieldsParse_one (o b wd x0 x1 : Int) (B : Nat) (w : World) (hfr : frb o b wd = true) (hx0 : 0 ≤ x0) (hx0' : x0 < 4294967296) (hx1 : 0 ≤ x1) (hx1' : x1 < 4294967296)
    (hB : B < w.heap.size) (h0 : w.cell? ⟨B, 0, none⟩ = some (.int .i64 o)) (h1 : w.cell? ⟨B, 1, none⟩ = some (.int .i64 b)) (h2 : w.cell? ⟨B, 2, none⟩ = some (.int .i64 wd)) :
    Calls Try.prog 24 #[.slice (some ⟨B, 0, none⟩) 1 1, .agg #[.int .u32 x0, .int .u32 x1]] w fun e w' => e = .returned (.tuple #[.int .u64 (fv (ws x0 x1 wd) o b), .bool true]) ∧ Below w.heap.size w w' := by
  have h := fieldsParse_any [⟨o, b, wd⟩] (some ⟨B, 0, none⟩) 1 x0 x1 w (by simp) (row_one hB h0 h1 h2) (one_right hfr).1 (one_right hfr).2.1 (one_right hfr).2.2 hx0 hx0' hx1 hx1'
  rw [jn_one] at h
  exact h
theorem fieldsSigned_one (o b wd x0 x1 : Int) (B : Nat) (w : World) (hfr : frb o b wd = true) (hx0 : 0 ≤ x0) (hx0' : x0 < 4294967296) (hx1 : 0 ≤ x1) (hx1' : x1 < 4294967296)
    (hB : B < w.heap.size) (h0 : w.cell? ⟨B, 0, none⟩ = some (.int .i64 o)) (h1 : w.cell? ⟨B, 1, none⟩ = some (.int .i64 b)) (h2 : w.cell? ⟨B, 2, none⟩ = some (.int .i64 wd)) :
    Calls Try.prog 25 #[.slice (some ⟨B, 0, none⟩) 1 1, .agg #[.int .u32 x0, .int .u32 x1]] w fun e w' => e = .returned (.tuple #[.int .i64 (sgn (fv (ws x0 x1 wd) o b) b), .bool true]) ∧ Below w.heap.size w w' := by
  have h := fieldsSigned_any [⟨o, b, wd⟩] (some ⟨B, 0, none⟩) 1 x0 x1 w (by simp) (row_one hB h0 h1 h2) (one_right hfr).1 (one_right hfr).2.1 (one_right hfr).2.2 hx0 hx0' hx1 hx1'
  rw [jn_one, show sumB [⟨o, b, wd⟩] = b from by simp [sumB]] at h
  exact h

set_option maxHeartbeats 4000000 in
theorem walk (w : World) (o0 b0 d0 : Int) (x1 y1 : Int) (wo0 : (Lit.int .i64 o0).wf = true) (wb0 : (Lit.int .i64 b0).wf = true) (wd0 : (Lit.int .i64 d0).wf = true) (hx1 : 0 ≤ x1) (hx1' : x1 < 4294967296) (hy1 : 0 ≤ y1) (hy1' : y1 < 4294967296) :
    Calls Try.prog 13 #[.agg #[.int .i64 o0, .int .i64 b0, .int .i64 d0], .agg #[.int .u32 x1, .int .u32 y1]] w fun e w' => e = .returned (.bool true) ∧ Below w.heap.size w w' := by
  cases hfr : frb o0 b0 d0
  · go_enter Try.func13, Try.ntmps13
    go_wp2_with (first | (go_at_call 15; refine (right_any o0 b0 _ _).mono ?_; rw [hfr]; rintro e w1 ⟨rfl, hbw1⟩; obtain ⟨hcw1, hfw1, hsw1, hlw1⟩ := bcellN (w.heap.size + 2) hbw1 (by first | assumption | (simp; done) | (simp; omega) | omega)))
    all_goals go_ret
    all_goals refine ⟨rfl, ?_⟩
    all_goals (repeat' (first | (with_reducible exact Below.refl _ _) | (with_reducible refine Below.drew ?_) | (with_reducible refine Below.alloc ?_ ?_ _) | (with_reducible refine Below.setCell ?_ ?_ _) | (with_reducible refine Below.trans ?_ (hbw1.mono ?_)) | (simp; done) | (simp; omega) | omega | (have zzw1 := hbw1.size; first | omega | (simp at zzw1 ⊢; omega))))
  · obtain ⟨g1, g2, g3, g4, g5, g6, g7⟩ := frb_spec hfr
    have v0 := fv_nonneg (ws x1 y1 d0) o0 b0
    have v1 := fv_lt32 (x := ws x1 y1 d0) (o := o0) (b := b0) g2
    go_enter Try.func13, Try.ntmps13
    go_wp2_with (first
      | (go_at_call 15; refine (right_any o0 b0 _ _).mono ?_; rw [hfr]; rintro e w1 ⟨rfl, hbw1⟩; obtain ⟨hcw1, hfw1, hsw1, hlw1⟩ := bcellN (w.heap.size + 2) hbw1 (by first | assumption | (simp; done) | (simp; omega) | omega))
      | (go_at_call 14; refine (fieldParse_ok o0 b0 d0 x1 y1 (by omega) (by omega) (by omega) (by omega) (by omega) hx1 hx1' hy1 hy1' _).mono ?_; rintro e w2 ⟨rfl, hbw2⟩; obtain ⟨hcw2, hfw2, hsw2, hlw2⟩ := bcellN (w.heap.size + 2) hbw2 (by first | assumption | (simp; done) | (simp; omega) | omega))
      | (go_at_call 24; refine (fieldsParse_one o0 b0 d0 x1 y1 _ _ hfr hx1 hx1' hy1 hy1' (by simp) (by simp [go_sem]) (by simp [go_sem]) (by simp [go_sem])).mono ?_; rintro e w3 ⟨rfl, hbw3⟩; obtain ⟨hcw3, hfw3, hsw3, hlw3⟩ := bcellN (w.heap.size + 2) hbw3 (by first | assumption | (simp; done) | (simp; omega) | omega))
      | (go_at_call 20; refine (fieldSigned_ok o0 b0 d0 x1 y1 (by omega) (by omega) (by omega) (by omega) (by omega) hx1 hx1' hy1 hy1' _).mono ?_; rintro e w4 ⟨rfl, hbw4⟩; obtain ⟨hcw4, hfw4, hsw4, hlw4⟩ := bcellN (w.heap.size + 2) hbw4 (by first | assumption | (simp; done) | (simp; omega) | omega))
      | (go_at_call 25; refine (fieldsSigned_one o0 b0 d0 x1 y1 _ _ hfr hx1 hx1' hy1 hy1' (by simp) (by simp [go_sem]) (by simp [go_sem]) (by simp [go_sem])).mono ?_; rintro e w5 ⟨rfl, hbw5⟩))
    go_ret
    refine ⟨rfl, ?_⟩
    (repeat' (first | (with_reducible exact Below.refl _ _) | (with_reducible refine Below.drew ?_) | (with_reducible refine Below.alloc ?_ ?_ _) | (with_reducible refine Below.setCell ?_ ?_ _) | (with_reducible refine Below.trans ?_ (hbw5.mono ?_)) | (with_reducible refine Below.trans ?_ (hbw4.mono ?_)) | (with_reducible refine Below.trans ?_ (hbw3.mono ?_)) | (with_reducible refine Below.trans ?_ (hbw2.mono ?_)) | (with_reducible refine Below.trans ?_ (hbw1.mono ?_)) | (simp; done) | (simp; omega) | omega | (have zzw5 := hbw5.size; have zzw4 := hbw4.size; have zzw3 := hbw3.size; have zzw2 := hbw2.size; have zzw1 := hbw1.size; first | omega | (simp at zzw5 zzw4 zzw3 zzw2 zzw1 ⊢; omega))))

set_option maxRecDepth 100000 in
theorem lifted (os : Os) (started : os.Started) (H : Type) (enc : TypeId × Value → H) :
    ReturnsInHanded {} Try.checked os 13 .any (Rows.fnFieldsOneSpec.pre6 enc Try.prog Try.f13 Rows.fnFieldsOneRow.domain false) (Rows.fnFieldsOneSpec.post enc Try.prog Try.f13 false true false false) := by
  refine returnsInHanded_of_change (C := Try.checked) own started (by kernel_rfl) Try.func13
    (ChangeSpec.witness6 (enc := enc) (C := Try.checked) false ⟨#[], #[.agg #[.int .i64 0, .int .i64 0, .int .i64 0], .agg #[.int .u32 0, .int .u32 0]], []⟩ 8 (by kernel_rfl) (by kernel_rfl) (by kernel_rfl) (by kernel_rfl)) ?_
  intro W base args ds gs before hval0 hW hcnd _
  have hval : ∀ (j : Nat) t v, Try.f13.params[j]? = some t → args[j]? = some v → Value.okWide Try.prog W .any base t v := hval0
  have hW' := hW
  obtain ⟨p, q, hA0, hV, rfl, hfz, hnd⟩ := hW
  have hA : DataW.TrodAll enc Try.prog W 0 (fun _ => true) true Try.f13.params.toList args.toList ds p := hA0
  rw [Try.params13] at hA hval
  obtain ⟨v0, vs0, e0, ds0, p0, q0, hargs, rfl, rfl, h0, r0⟩ := trodAll_cons hA
  obtain ⟨v1, vs1, e1, ds1, p1, q1, rfl, rfl, rfl, h1, r1⟩ := trodAll_cons r0
  obtain ⟨rfl, rfl, rfl⟩ := trodAll_nil r1
  obtain rfl : args = #[v0, v1] := by cases args; simp_all
  obtain ⟨rfl, rfl⟩ := trodVars_none hV
  have k0 := h0
  have lt0 : ∀ x ∈ p0, x.block < W.heap.size := by obtain ⟨m, hm⟩ := k0; exact DataW.trod_lt m _ _ _ hm
  have k1 := h1
  have lt1 : ∀ x ∈ p1, x.block < W.heap.size := by obtain ⟨m, hm⟩ := k1; exact DataW.trod_lt m _ _ _ hm
  obtain ⟨o0, b0, d0, rfl, wo0, wb0, wd0⟩ := open_fld (hval 0 23 v0 rfl rfl) h0
  obtain ⟨x1, y1, rfl, hx1, hx1', hy1, hy1'⟩ := open_words (hval 1 25 v1 rfl rfl) h1
  clear hA0 hval0
  refine (walk W o0 b0 d0 x1 y1 wo0 wb0 wd0 hx1 hx1' hy1 hy1').mono fun e W' ⟨he, bel⟩ => ?_
  subst he
  exact ⟨_, rfl, _, _, _, [], _, [], hW', trodAll_mk1 (shut_bool Try.underlying4 _), (trodAll_cons_mk (Below.trod laidOut (by kernel_rfl) (of_decide_eq_true (by kernel_rfl)) k0 bel lt0) (trodAll_cons_mk (Below.trod laidOut (by kernel_rfl) (of_decide_eq_true (by kernel_rfl)) k1 bel lt1) trodAll_mk0)), rfl, bel.frame _, fun h => by cases h⟩

theorem over : Rows.fnFieldsOneRow.holds Try.pinned (OpenSpec.ofChange Rows.fnFieldsOneSpec) :=
  OpenClaim.holds_of_wide 13 Try.f13 rfl rfl rfl rfl rfl rfl rfl ⟨rfl, rfl, rfl, rfl, rfl⟩ rfl rfl rfl rfl rfl (by kernel_rfl) Try.func13 (by kernel_rfl)
    (of_decide_eq_true (by kernel_rfl)) (by unfold Func.isWrapper; first | (rw [if_pos (by decide +kernel)]; kernel_rfl) | (rw [if_neg (by decide +kernel)]; exact ⟨rfl, rfl⟩))
    (fun os started H enc _ => lifted os started H enc)

theorem proved : Rows.FnFieldsOneSaid := over
#print axioms proved
end Go.Proofs.Ytcijejfekeedlaa.fnFieldsOne
