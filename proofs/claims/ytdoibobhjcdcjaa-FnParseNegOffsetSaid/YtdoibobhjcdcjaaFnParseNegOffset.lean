/- An argument of the kind NegOffset is a distance below 0: ones, behind them the five bits of the field, and three zeros. It holds for every input, with no condition. -/
import Derived.Test.YtdoibobhjcdcjaaRows
import Derived.Test.YtdoibobhjcdcjaaFr
import Derived.WalkKit
import Derived.WalkSpells
import Derived.WalkLawsBesides
import Derived.ProofKit
import Derived.OpenShut
import Derived.ChangeOld
import Derived.Below
import Derived.Carry
import Derived.Handy
import Derived.Lib.Hide
import Derived.Laws.Pointers
import Derived.Test.YtdoibobhjcdcjaaPb
import Derived.Test.YtdoibobhjcdcjaaArg
import Derived.Test.YtdoibobhjcdcjaaVal
import Derived.Deep.RegionHeld3
import Derived.Laws.BitsAllLaws
namespace Go.Proofs.Ytdoibobhjcdcjaa.fnParseNegOffset
open Go.ChangeShapes Go.WideShapes Go.ChangeAt Go.RowKit Go.Joins Go.Deep
set_option linter.unusedVariables false

theorem neg_off (v : Int) (h0 : 0 ≤ v) (h1 : v < 32) : bits .or .i64 (wrap64 (-2 ^ ((3 : Int) + 5).toNat)) (wrap64 (sgn v 5 * 2 ^ (3 : Int).toNat)) = 8 * v - 256 := by
  have key : ∀ n : Fin 32, bits .or .i64 (wrap64 (-2 ^ ((3 : Int) + 5).toNat)) (wrap64 (sgn ((n.val : Nat) : Int) 5 * 2 ^ (3 : Int).toNat)) = 8 * ((n.val : Nat) : Int) - 256 := by decide +kernel
  obtain ⟨n, rfl⟩ := Int.eq_ofNat_of_zero_le h0
  exact key ⟨n, by omega⟩

set_option maxRecDepth 100000 in
set_option maxHeartbeats 8000000 in
theorem walk (w : World) (o0 b0 d0 : Int) (x1 y1 : Int) (wo0 : (Lit.int .i64 o0).wf = true) (wb0 : (Lit.int .i64 b0).wf = true) (wd0 : (Lit.int .i64 d0).wf = true) (hx1 : 0 ≤ x1) (hx1' : x1 < 4294967296) (hy1 : 0 ≤ y1) (hy1' : y1 < 4294967296) :
    Calls Try.prog 10 #[.agg #[.int .i64 o0, .int .i64 b0, .int .i64 d0], .agg #[.int .u32 x1, .int .u32 y1]] w fun e w' => e = .returned (.bool true) ∧ Below w.heap.size w w' := by
  cases hfr : frb o0 b0 d0
  · go_enter Try.func10, Try.ntmps10
    go_wp2_with (first | (go_at_call 23; refine (right_any _ _ _ _).mono ?_; rw [hfr]; rintro e w1 ⟨rfl, hbw1⟩; obtain ⟨hcw1, hfw1, hsw1, hlw1⟩ := bcellN (w.heap.size + 2) hbw1 (by first | assumption | (simp; done) | (simp; omega) | omega)))
    all_goals go_ret
    all_goals refine ⟨rfl, ?_⟩
    all_goals (repeat' (first | (with_reducible exact Below.refl _ _) | (with_reducible refine Below.drew ?_) | (with_reducible refine Below.alloc ?_ ?_ _) | (with_reducible refine Below.setCell ?_ ?_ _) | (with_reducible refine Below.trans ?_ (hbw1.mono ?_)) | (simp; done) | (simp; omega) | omega | (have zzw1 := hbw1.size; first | omega | (simp at zzw1 ⊢; omega))))
  · by_cases h5 : b0 = 5
    · subst h5
      obtain ⟨g1, g2, g3, g4, g5, g6, g7⟩ := frb_spec hfr
      have v0 := fv_nonneg (ws x1 y1 d0) o0 5
      have v1 : fv (ws x1 y1 d0) o0 5 < 32 := fv_lt (ws x1 y1 d0) o0 5
      have Hr := Lib.hid (one_right hfr)
      have Ha := Lib.hid (show ArgSays 15 3 [⟨o0, 5, d0⟩] x1 y1 (.iface 58 (.int .i64 (8 * fv (ws x1 y1 d0) o0 5 - 256))) from fun A c W hr => by
        have h := arg_NegOffset [⟨o0, 5, d0⟩] A c 3 x1 y1 W (by simp) hr Hr.out.1 Hr.out.2.1 Hr.out.2.2 (by omega) (by omega) hx1 hx1' hy1 hy1' (by simp [sumB])
        rw [jn_one, show sumB [⟨o0, 5, d0⟩] = 5 from by simp [sumB], neg_off _ v0 v1] at h
        exact h)
      have Ho := Lib.hid (show OfSays (.iface 58 (.int .i64 (8 * fv (ws x1 y1 d0) o0 5 - 256))) (.agg #[.int .i64 7, .int .i64 (8 * fv (ws x1 y1 d0) o0 5 - 256)]) from fun W => argOf_Offset _ (by omega) (by omega) W)
      go_enter Try.func10, Try.ntmps10
      go_wp2_with (first
        | (go_at_call 23; refine (right_any _ _ _ _).mono ?_; rw [hfr]; rintro e w1 ⟨rfl, hbw1⟩; obtain ⟨hcw1, hfw1, hsw1, hlw1⟩ := bcellN (w.heap.size + 2) hbw1 (by first | assumption | (simp; done) | (simp; omega) | omega))
        | (go_at_call 20; refine (parse_of Ha.out Ho.out _ _ _ (by omega) (by omega) (by omega) (by omega) (by simp) (row_one (by simp) (by simp [go_sem]) (by simp [go_sem]) (by simp [go_sem])) Hr.out.1 Hr.out.2.1).mono ?_; rintro e w2 ⟨rfl, hbw2⟩; obtain ⟨hcw2, hfw2, hsw2, hlw2⟩ := bcellN (w.heap.size + 2) hbw2 (by first | assumption | (simp; done) | (simp; omega) | omega)))
      have z0 : w.heap.size < w2.heap.size + 1 := by omega
      have z1 : w.heap.size < w2.heap.size := by omega
      have z2 : w.heap.size + 1 < w2.heap.size + 1 := by omega
      have z3 : w.heap.size + 1 < w2.heap.size := by omega
      have q0 : w2.cell? ⟨w.heap.size, 0, none⟩ = some (.int .i64 o0) := by simp [go_sem, hcw2, hcw1, hlw1]
      have q1 : w2.cell? ⟨w.heap.size, 1, none⟩ = some (.int .i64 5) := by simp [go_sem, hcw2, hcw1, hlw1]
      have q2 : w2.cell? ⟨w.heap.size, 2, none⟩ = some (.int .i64 d0) := by simp [go_sem, hcw2, hcw1, hlw1]
      have q3 : w2.cell? ⟨w.heap.size + 1, 0, none⟩ = some (.int .u32 x1) := by simp [go_sem, hcw2, hcw1, hlw1]
      have q4 : w2.cell? ⟨w.heap.size + 1, 1, none⟩ = some (.int .u32 y1) := by simp [go_sem, hcw2, hcw1, hlw1]
      clear hcw2
      have ex0 : IntKind.i64.wrap (fv (ws x1 y1 d0) o0 5) = fv (ws x1 y1 d0) o0 5 := IntWalk.i64_in _ (by omega)
      have ex1 : IntKind.i64.wrap (8 * fv (ws x1 y1 d0) o0 5) = 8 * fv (ws x1 y1 d0) o0 5 := IntWalk.i64_in _ (by omega)
      have ex2 : IntKind.i64.wrap (8 * fv (ws x1 y1 d0) o0 5 - 256) = 8 * fv (ws x1 y1 d0) o0 5 - 256 := IntWalk.i64_in _ (by omega)
      go_region_held3 (fun w' => w'.cell? ⟨w2.heap.size, 0, none⟩ = some (.int .i64 7) ∧ w'.cell? ⟨w2.heap.size, 1, none⟩ = some (.int .i64 (8 * fv (ws x1 y1 d0) o0 5 - 256)) ∧ w'.cell? ⟨w.heap.size, 0, none⟩ = some (.int .i64 o0) ∧ w'.cell? ⟨w.heap.size, 1, none⟩ = some (.int .i64 5) ∧ w'.cell? ⟨w.heap.size, 2, none⟩ = some (.int .i64 d0) ∧ w'.cell? ⟨w.heap.size + 1, 0, none⟩ = some (.int .u32 x1) ∧ w'.cell? ⟨w.heap.size + 1, 1, none⟩ = some (.int .u32 y1)) (go_keep)
        (first | (go_at_call 21; refine (joined_one o0 5 d0 x1 y1 _ _ hfr hx1 hx1' hy1 hy1' (by simp) (by simp [go_sem]) (by simp [go_sem]) (by simp [go_sem])).mono ?_; rintro e w3 ⟨rfl, hbw3⟩; obtain ⟨hcw3, hfw3, hsw3, hlw3⟩ := bcellN (w2.heap.size + 1) hbw3 (by first | assumption | (simp; done) | (simp; omega) | omega)))
      go_wp2
      go_ret
      refine ⟨?_, ?_⟩
      · first | rfl | exact ret_bool (by simp)
      · (repeat' (first | (with_reducible exact Below.refl _ _) | (with_reducible refine Below.drew ?_) | (with_reducible refine Below.alloc ?_ ?_ _) | (with_reducible refine Below.setCell ?_ ?_ _) | (with_reducible refine Below.trans ?_ (hbw3.mono ?_)) | (with_reducible refine Below.trans ?_ (hbw2.mono ?_)) | (with_reducible refine Below.trans ?_ (hbw1.mono ?_)) | (simp; done) | (simp; omega) | omega | (have zzw3 := hbw3.size; have zzw2 := hbw2.size; have zzw1 := hbw1.size; first | omega | (simp at zzw3 zzw2 zzw1 ⊢; omega))))
    · have t1 : (b0 != 5) = true := by rw [bne_iff_ne]; exact h5
      go_enter Try.func10, Try.ntmps10
      go_wp2_with (first | (go_at_call 23; refine (right_any _ _ _ _).mono ?_; rw [hfr]; rintro e w1 ⟨rfl, hbw1⟩; obtain ⟨hcw1, hfw1, hsw1, hlw1⟩ := bcellN (w.heap.size + 2) hbw1 (by first | assumption | (simp; done) | (simp; omega) | omega)))
      all_goals go_ret
      all_goals refine ⟨rfl, ?_⟩
      all_goals (repeat' (first | (with_reducible exact Below.refl _ _) | (with_reducible refine Below.drew ?_) | (with_reducible refine Below.alloc ?_ ?_ _) | (with_reducible refine Below.setCell ?_ ?_ _) | (with_reducible refine Below.trans ?_ (hbw1.mono ?_)) | (simp; done) | (simp; omega) | omega | (have zzw1 := hbw1.size; first | omega | (simp at zzw1 ⊢; omega))))

set_option maxRecDepth 100000 in
theorem lifted (os : Os) (started : os.Started) (H : Type) (enc : TypeId × Value → H) :
    ReturnsInHanded {} Try.checked os 10 .any (Rows.fnParseNegOffsetSpec.pre6 enc Try.prog Try.f10 Rows.fnParseNegOffsetRow.domain false) (Rows.fnParseNegOffsetSpec.post enc Try.prog Try.f10 false true false false) := by
  refine returnsInHanded_of_change (C := Try.checked) own started (by kernel_rfl) Try.func10
    (ChangeSpec.witness6 (enc := enc) (C := Try.checked) false ⟨#[], #[.agg #[.int .i64 0, .int .i64 0, .int .i64 0], .agg #[.int .u32 0, .int .u32 0]], []⟩ 8 (by kernel_rfl) (by kernel_rfl) (by kernel_rfl) (by kernel_rfl)) ?_
  intro W base args ds gs before hval0 hW hcnd _
  have hval : ∀ (j : Nat) t v, Try.f10.params[j]? = some t → args[j]? = some v → Value.okWide Try.prog W .any base t v := hval0
  have hW' := hW
  obtain ⟨p, q, hA0, hV, rfl, hfz, hnd⟩ := hW
  have hA : DataW.TrodAll enc Try.prog W 0 (fun _ => true) true Try.f10.params.toList args.toList ds p := hA0
  rw [Try.params10] at hA hval
  obtain ⟨v0, vs0, e0, ds0, p0, q0, hargs, rfl, rfl, h0, r0⟩ := trodAll_cons hA
  obtain ⟨v1, vs1, e1, ds1, p1, q1, rfl, rfl, rfl, h1, r1⟩ := trodAll_cons r0
  obtain ⟨rfl, rfl, rfl⟩ := trodAll_nil r1
  obtain rfl : args = #[v0, v1] := by cases args; simp_all
  obtain ⟨rfl, rfl⟩ := trodVars_none hV
  have k0 := h0
  have lt0 : ∀ x ∈ p0, x.block < W.heap.size := by obtain ⟨m, hm⟩ := k0; exact DataW.trod_lt m _ _ _ hm
  have k1 := h1
  have lt1 : ∀ x ∈ p1, x.block < W.heap.size := by obtain ⟨m, hm⟩ := k1; exact DataW.trod_lt m _ _ _ hm
  obtain ⟨o0, b0, d0, rfl, wo0, wb0, wd0⟩ := open_fld (hval 0 37 v0 rfl rfl) h0
  obtain ⟨x1, y1, rfl, hx1, hx1', hy1, hy1'⟩ := open_words (hval 1 24 v1 rfl rfl) h1
  clear hA0 hval0
  refine (walk W o0 b0 d0 x1 y1 wo0 wb0 wd0 hx1 hx1' hy1 hy1').mono fun e W' ⟨he, bel⟩ => ?_
  subst he
  exact ⟨_, rfl, _, _, _, [], _, [], hW', trodAll_mk1 (shut_bool Try.underlying4 _), (trodAll_cons_mk (Below.trod laidOut (by kernel_rfl) (of_decide_eq_true (by kernel_rfl)) k0 bel lt0) (trodAll_cons_mk (Below.trod laidOut (by kernel_rfl) (of_decide_eq_true (by kernel_rfl)) k1 bel lt1) trodAll_mk0)), rfl, bel.frame _, fun h => by cases h⟩

theorem over : Rows.fnParseNegOffsetRow.holds Try.pinned (OpenSpec.ofChange Rows.fnParseNegOffsetSpec) :=
  OpenClaim.holds_of_wide 10 Try.f10 rfl rfl rfl rfl rfl rfl rfl ⟨rfl, rfl, rfl, rfl, rfl⟩ rfl rfl rfl rfl rfl (by kernel_rfl) Try.func10 (by kernel_rfl)
    (of_decide_eq_true (by kernel_rfl)) (by unfold Func.isWrapper; first | (rw [if_pos (by decide +kernel)]; kernel_rfl) | (rw [if_neg (by decide +kernel)]; exact ⟨rfl, rfl⟩))
    (fun os started H enc _ => lifted os started H enc)

theorem proved : Rows.FnParseNegOffsetSaid := over
#print axioms proved
end Go.Proofs.Ytdoibobhjcdcjaa.fnParseNegOffset
