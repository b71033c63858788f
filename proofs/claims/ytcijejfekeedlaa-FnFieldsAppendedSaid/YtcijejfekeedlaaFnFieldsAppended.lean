/- A field is put behind the others. It holds for every input, with no condition. -/
import Derived.Test.YtcijejfekeedlaaRows
import Derived.Test.YtcijejfekeedlaaFr
import Derived.WalkKit
import Derived.WalkSpells
import Derived.WalkLawsBesides
import Derived.ProofKit
import Derived.OpenShut
import Derived.ChangeOld
import Derived.Below
import Derived.Carry
import Derived.Handy
import Derived.Lib.Hide
import Derived.Laws.Pointers
import Derived.Test.YtcijejfekeedlaaApd
import Derived.Test.YtcijejfekeedlaaVal
import Derived.Deep.RegionHeld3
import Derived.Deep.DrawnRows
import Derived.OwnWalk
namespace Go.Proofs.Ytcijejfekeedlaa.fnFieldsAppended
open Go.ChangeShapes Go.WideShapes Go.ChangeAt Go.RowKit Go.Joins Go.Deep
set_option linter.unusedVariables false

set_option maxRecDepth 100000 in
set_option maxHeartbeats 8000000 in
theorem wk (w : World) (A0 : Option Addr) (c0 : Nat) (fs0 : List Fld) (o1 b1 d1 : Int) (hr0 : FRow .i64 w A0 fs0) (hf0 : fsr fs0 = true) (hf1 : frb o1 b1 d1 = true) :
    Calls Try.prog 8 #[.slice A0 fs0.length c0, .agg #[.int .i64 o1, .int .i64 b1, .int .i64 d1]] w fun e w' => e = .returned (.bool true) ∧ Below w.heap.size w w' := by
  obtain ⟨i0, hi, hz0, hz1, hz2⟩ := info_parts infoF
  obtain ⟨ha0, hp0, hq0⟩ := fsr_all hf0
  have h64 : fs0.length ≤ 64 := by
    have := (sumB_bounds _ ha0).1
    omega
  have hne : fs0 ≠ [] := by
    rintro rfl
    simp [sumB] at hp0
  have h0p : 0 < fs0.length := List.length_pos_iff.2 hne
  have Hr0 := Lib.hid (show ∀ W, Below w.heap.size w W → FRow .i64 W A0 fs0 from fun W h => hr0.below h)
  obtain ⟨bl0, off0, rfl, _, _⟩ := hr0 hne
  obtain ⟨f, Hfo, Hfb, Hfw⟩ : ∃ f : Fld, f.o = o1 ∧ f.b = b1 ∧ f.w = d1 := ⟨⟨o1, b1, d1⟩, rfl, rfl, rfl⟩
  subst Hfo Hfb Hfw
  have Hf1 := Lib.hid hf1
  have Ha0 := Lib.hid ha0
  obtain ⟨gs, hgs⟩ : ∃ gs : List Fld, gs = fs0 ++ [f] := ⟨_, rfl⟩
  have h65 : gs.length ≤ 65 := by
    rw [hgs]
    simp
    omega
  have Hpos := Lib.hid (show 0 < gs.length by rw [hgs]; simp)
  have Hgs := Lib.hid hgs
  clear hgs ha0 hr0
  go_enter Try.func8, Try.ntmps8
  go_wp2_with (first
    | (go_at_call 17; refine (fieldsRight_any fs0 _ c0 _ (by omega) (Hr0.out _ (by go_grown))).mono ?_; rw [hf0]; rintro e w1 ⟨rfl, hb1⟩; obtain ⟨hc1, hf1', hs1, hl1⟩ := bcellN (w.heap.size + 1) hb1 (by simp))
    | (go_at_call 15; refine (right_any f.o f.b f.w _).mono ?_; rw [Hf1.out]; rintro e w2 ⟨rfl, hb2⟩))
  have hbN : Below w.heap.size w w2 := Below.trans (b := w1) (Below.trans (Below.alloc (Below.refl _ _) (Nat.le_refl _) _) (hb1.mono (by simp))) (hb2.mono (by omega))
  have hN2 : w.heap.size + 1 ≤ w2.heap.size := Nat.le_trans hs1 hb2.size
  have q0 : w2.cell? ⟨w.heap.size, 0, none⟩ = some (.int .i64 f.o) := (hb2.cell (p := ⟨w.heap.size, 0, none⟩) (show w.heap.size < w1.heap.size from by omega)).trans ((hc1 w.heap.size 0 (by omega)).trans (by simp))
  have q1 : w2.cell? ⟨w.heap.size, 1, none⟩ = some (.int .i64 f.b) := (hb2.cell (p := ⟨w.heap.size, 1, none⟩) (show w.heap.size < w1.heap.size from by omega)).trans ((hc1 w.heap.size 1 (by omega)).trans (by simp))
  have q2 : w2.cell? ⟨w.heap.size, 2, none⟩ = some (.int .i64 f.w) := (hb2.cell (p := ⟨w.heap.size, 2, none⟩) (show w.heap.size < w1.heap.size from by omega)).trans ((hc1 w.heap.size 2 (by omega)).trans (by simp))
  have Hr2 := Lib.hid (show ∀ W, Below (w.heap.size + 1) w2 W → FRow .i64 W (some ⟨bl0, off0, none⟩) fs0 from fun W h => Hr0.out W (hbN.trans (h.mono (by omega))))
  have HC := Lib.hid (show ∀ w', Below (w.heap.size + 1) w2 w' → w'.cell? ⟨w.heap.size, 0, none⟩ = some (.int .i64 f.o) ∧ w'.cell? ⟨w.heap.size, 1, none⟩ = some (.int .i64 f.b) ∧ w'.cell? ⟨w.heap.size, 2, none⟩ = some (.int .i64 f.w) from fun W h => ⟨(h.cell (p := ⟨w.heap.size, 0, none⟩) (by simp)).trans q0, (h.cell (p := ⟨w.heap.size, 1, none⟩) (by simp)).trans q1, (h.cell (p := ⟨w.heap.size, 2, none⟩) (by simp)).trans q2⟩)
  clear hc1 hf1' hb1 hb2 hs1 hl1
  go_region_held3 (fun w' => w'.cell? ⟨w.heap.size, 0, none⟩ = some (.int .i64 f.o) ∧ w'.cell? ⟨w.heap.size, 1, none⟩ = some (.int .i64 f.b) ∧ w'.cell? ⟨w.heap.size, 2, none⟩ = some (.int .i64 f.w))
    (exact HC.out _ (by repeat' (first | (with_reducible exact Below.refl _ _) | (with_reducible refine Below.drew ?_) | (with_reducible refine Below.alloc ?_ ?_ _) | (with_reducible refine Below.grown ?_ hgr1 ?_ hk6) | (with_reducible refine Below.grown ?_ hgr2 ?_ hk7) | (with_reducible refine Below.trans ?_ (Below.mono hb5 ?_)) | (with_reducible refine Below.trans ?_ (Below.mono hb8 ?_)) | (simp; done) | (simp; omega) | omega)))
    (first
      | (go_at_call 23; refine (fa_any fs0 f _ c0 _ (Hr2.out _ (by repeat' (first | (with_reducible exact Below.refl _ _) | (with_reducible refine Below.drew ?_) | (with_reducible refine Below.alloc ?_ ?_ _) | (with_reducible refine Below.grown ?_ hgr1 ?_ hk6) | (with_reducible refine Below.grown ?_ hgr2 ?_ hk7) | (with_reducible refine Below.trans ?_ (Below.mono hb5 ?_)) | (with_reducible refine Below.trans ?_ (Below.mono hb8 ?_)) | (simp; done) | (simp; omega) | omega))) Ha0.out Hf1.out h64).mono ?_; rw [← Hgs.out]; rintro e w5 ⟨v5, rfl, hown5, hb5⟩; obtain ⟨g5, c5, rfl, hg5, hl5⟩ := hown5.form Hpos.out; have hown5 := hown5.mono (base' := w.heap.size + 1) (by first | omega | (simp; omega)); have z5 := hb5.size; (try simp at z5); (try simp at hg5))
      | (refine step_l (by rfl) _ _ _ (by rfl) i0 Try.underlying31 hi hz0 hz1 hz2 (w.heap.size + 1) _ (by rfl) _ fs0 c0 (by rfl) (by repeat' (first | (refine Blk.fresh _ _ _ ?_; first | rfl | (simp; done) | (simp; omega)) | (with_reducible refine Blk.draw ?_) | (with_reducible refine Blk.old ?_) | (with_reducible refine Blk.below ?_ hb5) | (with_reducible refine Blk.grown ?_ hgr1 ?_) | (simp; done) | (simp; omega))) (by first | omega | (simp; omega)) (Hr2.out _ (by repeat' (first | (with_reducible exact Below.refl _ _) | (with_reducible refine Below.drew ?_) | (with_reducible refine Below.alloc ?_ ?_ _) | (with_reducible refine Below.grown ?_ hgr1 ?_ hk6) | (with_reducible refine Below.grown ?_ hgr2 ?_ hk7) | (with_reducible refine Below.trans ?_ (Below.mono hb5 ?_)) | (with_reducible refine Below.trans ?_ (Below.mono hb8 ?_)) | (simp; done) | (simp; omega) | omega))) h0p h64 ?_; intro g6 c6 w6 hown6 hgr1 hat6 hl6 hk6; have z6 := hgr1.size; (try simp at z6); (try simp at hat6))
      | (refine step_f (by rfl) _ _ _ (by rfl) i0 Try.underlying31 hi hz0 hz1 hz2 (w.heap.size + 1) g6 c6 fs0 gs f (by rfl) _ (by rfl) (by repeat' (first | (with_reducible exact hown6) | (with_reducible refine own_draw ?_) | (with_reducible refine own_alloc ?_) | (with_reducible refine own_below ?_ hb5) | (with_reducible refine own_grown ?_ hgr1 ?_) | (with_reducible refine own_grown ?_ hgr2 ?_) | (simp [Value.ownBlock]; done) | (simp [Value.ownBlock]; omega))) (by repeat' (first | (refine Blk.fresh _ _ _ ?_; first | rfl | (simp; done) | (simp; omega)) | (with_reducible refine Blk.draw ?_) | (with_reducible refine Blk.old ?_) | (with_reducible refine Blk.below ?_ hb5) | (with_reducible refine Blk.grown ?_ hgr1 ?_) | (simp; done) | (simp; omega))) (by first | omega | (simp; omega)) h64 Hgs.out ?_; intro g7 c7 w7 hown7 hgr2 hat7 hl7 hk7; have z7 := hgr2.size; (try simp at z7); (try simp at hat7))
      | (go_at_call 22; refine (same_own gs (w.heap.size + 1) g5 c5 g7 c7 _ h65 (by repeat' (first | (with_reducible exact hown5) | (with_reducible refine own_draw ?_) | (with_reducible refine own_alloc ?_) | (with_reducible refine own_below ?_ hb5) | (with_reducible refine own_grown ?_ hgr1 ?_) | (with_reducible refine own_grown ?_ hgr2 ?_) | (simp [Value.ownBlock]; done) | (simp [Value.ownBlock]; omega))) (by repeat' (first | (with_reducible exact hown7) | (with_reducible refine own_draw ?_) | (with_reducible refine own_alloc ?_) | (with_reducible refine own_below ?_ hb5) | (with_reducible refine own_grown ?_ hgr1 ?_) | (with_reducible refine own_grown ?_ hgr2 ?_) | (simp [Value.ownBlock]; done) | (simp [Value.ownBlock]; omega)))).mono ?_; rintro e w8 ⟨rfl, hb8⟩; have z8 := hb8.size; (try simp at z8)))
  all_goals go_wp2
  all_goals go_ret
  all_goals exact ⟨rfl, hbN.trans (Below.mono (B := w.heap.size + 1) (by repeat' (first | (with_reducible exact Below.refl _ _) | (with_reducible refine Below.drew ?_) | (with_reducible refine Below.alloc ?_ ?_ _) | (with_reducible refine Below.grown ?_ hgr1 ?_ hk6) | (with_reducible refine Below.grown ?_ hgr2 ?_ hk7) | (with_reducible refine Below.trans ?_ (Below.mono hb5 ?_)) | (with_reducible refine Below.trans ?_ (Below.mono hb8 ?_)) | (simp; done) | (simp; omega) | omega)) (by omega))⟩

set_option maxRecDepth 100000 in
set_option maxHeartbeats 2000000 in
theorem walk (w : World) (A0 : Option Addr) (c0 : Nat) (fs0 : List Fld) (o1 b1 d1 : Int) (hr0 : FRow .i64 w A0 fs0) (wo1 : (Lit.int .i64 o1).wf = true) (wb1 : (Lit.int .i64 b1).wf = true) (wd1 : (Lit.int .i64 d1).wf = true) :
    Calls Try.prog 8 #[.slice A0 fs0.length c0, .agg #[.int .i64 o1, .int .i64 b1, .int .i64 d1]] w fun e w' => e = .returned (.bool true) ∧ Below w.heap.size w w' := by
  have Hr0 := Lib.hid (show ∀ W, Below w.heap.size w W → FRow .i64 W A0 fs0 from fun W h => hr0.below h)
  by_cases hl0 : fs0.length ≤ 2147483647
  · cases hf0 : fsr fs0
    · go_enter Try.func8, Try.ntmps8
      go_wp2_with (first
        | (go_at_call 17; refine (fieldsRight_any fs0 A0 c0 _ hl0 (Hr0.out _ (by go_grown))).mono ?_; rw [hf0]; rintro e w1 ⟨rfl, hbw1⟩; obtain ⟨hcw1, hfw1, hsw1, hlw1⟩ := bcellN (w.heap.size + 1) hbw1 (by simp)))
      all_goals go_ret
      all_goals refine ⟨rfl, ?_⟩
      all_goals (repeat' (first | (with_reducible exact Below.refl _ _) | (with_reducible refine Below.drew ?_) | (with_reducible refine Below.alloc ?_ ?_ _) | (with_reducible refine Below.setCell ?_ ?_ _) | (with_reducible refine Below.trans ?_ (hbw1.mono ?_)) | (simp; done) | (simp; omega) | omega | (have zzw1 := hbw1.size; first | omega | (simp at zzw1 ⊢; omega))))
    · cases hf1 : frb o1 b1 d1
      · go_enter Try.func8, Try.ntmps8
        go_wp2_with (first
          | (go_at_call 17; refine (fieldsRight_any fs0 A0 c0 _ hl0 (Hr0.out _ (by go_grown))).mono ?_; rw [hf0]; rintro e w1 ⟨rfl, hbw1⟩; obtain ⟨hcw1, hfw1, hsw1, hlw1⟩ := bcellN (w.heap.size + 1) hbw1 (by simp))
          | (go_at_call 15; refine (right_any o1 b1 d1 _).mono ?_; rw [hf1]; rintro e w2 ⟨rfl, hbw2⟩))
        all_goals go_ret
        all_goals refine ⟨rfl, ?_⟩
        all_goals (repeat' (first | (with_reducible exact Below.refl _ _) | (with_reducible refine Below.drew ?_) | (with_reducible refine Below.alloc ?_ ?_ _) | (with_reducible refine Below.setCell ?_ ?_ _) | (with_reducible refine Below.trans ?_ (hbw2.mono ?_)) | (with_reducible refine Below.trans ?_ (hbw1.mono ?_)) | (simp; done) | (simp; omega) | omega | (have zzw2 := hbw2.size; have zzw1 := hbw1.size; first | omega | (simp at zzw2 zzw1 ⊢; omega))))
      · exact wk w A0 c0 fs0 o1 b1 d1 hr0 hf0 hf1
  · have hx1 : (2147483647 : Int) < (fs0.length : Int) := by omega
    go_enter Try.func8, Try.ntmps8
    go_wp2_with fail
    go_ret
    refine ⟨rfl, ?_⟩
    (repeat' (first | (with_reducible exact Below.refl _ _) | (with_reducible refine Below.drew ?_) | (with_reducible refine Below.alloc ?_ ?_ _) | (with_reducible refine Below.setCell ?_ ?_ _) | (simp; done) | (simp; omega) | omega))

set_option maxRecDepth 100000 in
theorem lifted (os : Os) (started : os.Started) (H : Type) (enc : TypeId × Value → H) :
    ReturnsInHanded {} Try.checked os 8 .any (Rows.fnFieldsAppendedSpec.pre6 enc Try.prog Try.f8 Rows.fnFieldsAppendedRow.domain false) (Rows.fnFieldsAppendedSpec.post enc Try.prog Try.f8 false true false false) := by
  refine returnsInHanded_of_change (C := Try.checked) own started (by kernel_rfl) Try.func8
    (ChangeSpec.witness6 (enc := enc) (C := Try.checked) false ⟨#[], #[.slice none 0 0, .agg #[.int .i64 0, .int .i64 0, .int .i64 0]], []⟩ 8 (by kernel_rfl) (by kernel_rfl) (by kernel_rfl) (by kernel_rfl)) ?_
  intro W base args ds gs before hval0 hW hcnd _
  have hval : ∀ (j : Nat) t v, Try.f8.params[j]? = some t → args[j]? = some v → Value.okWide Try.prog W .any base t v := hval0
  have hW' := hW
  obtain ⟨p, q, hA0, hV, rfl, hfz, hnd⟩ := hW
  have hA : DataW.TrodAll enc Try.prog W 0 (fun _ => true) true Try.f8.params.toList args.toList ds p := hA0
  rw [Try.params8] at hA hval
  obtain ⟨v0, vs0, e0, ds0, p0, q0, hargs, rfl, rfl, h0, r0⟩ := trodAll_cons hA
  obtain ⟨v1, vs1, e1, ds1, p1, q1, rfl, rfl, rfl, h1, r1⟩ := trodAll_cons r0
  obtain ⟨rfl, rfl, rfl⟩ := trodAll_nil r1
  obtain rfl : args = #[v0, v1] := by cases args; simp_all
  obtain ⟨rfl, rfl⟩ := trodVars_none hV
  have k0 := h0
  have lt0 : ∀ x ∈ p0, x.block < W.heap.size := by obtain ⟨m, hm⟩ := k0; exact DataW.trod_lt m _ _ _ hm
  have k1 := h1
  have lt1 : ∀ x ∈ p1, x.block < W.heap.size := by obtain ⟨m, hm⟩ := k1; exact DataW.trod_lt m _ _ _ hm
  obtain ⟨A0, c0, fs0, rfl, hr0⟩ := open_flds (hval 0 31 v0 rfl rfl) h0
  obtain ⟨o1, b1, d1, rfl, wo1, wb1, wd1⟩ := open_fld (hval 1 23 v1 rfl rfl) h1
  clear hA0 hval0
  refine (walk W A0 c0 fs0 o1 b1 d1 hr0 wo1 wb1 wd1).mono fun e W' ⟨he, bel⟩ => ?_
  subst he
  exact ⟨_, rfl, _, _, _, [], _, [], hW', trodAll_mk1 (shut_bool Try.underlying4 _), (trodAll_cons_mk (Below.trod laidOut (by kernel_rfl) (of_decide_eq_true (by kernel_rfl)) k0 bel lt0) (trodAll_cons_mk (Below.trod laidOut (by kernel_rfl) (of_decide_eq_true (by kernel_rfl)) k1 bel lt1) trodAll_mk0)), rfl, bel.frame _, fun h => by cases h⟩

theorem over : Rows.fnFieldsAppendedRow.holds Try.pinned (OpenSpec.ofChange Rows.fnFieldsAppendedSpec) :=
  OpenClaim.holds_of_wide 8 Try.f8 rfl rfl rfl rfl rfl rfl rfl ⟨rfl, rfl, rfl, rfl, rfl⟩ rfl rfl rfl rfl rfl (by kernel_rfl) Try.func8 (by kernel_rfl)
    (of_decide_eq_true (by kernel_rfl)) (by unfold Func.isWrapper; first | (rw [if_pos (by decide +kernel)]; kernel_rfl) | (rw [if_neg (by decide +kernel)]; exact ⟨rfl, rfl⟩))
    (fun os started H enc _ => lifted os started H enc)

theorem proved : Rows.FnFieldsAppendedSaid := over
#print axioms proved
end Go.Proofs.Ytcijejfekeedlaa.fnFieldsAppended
