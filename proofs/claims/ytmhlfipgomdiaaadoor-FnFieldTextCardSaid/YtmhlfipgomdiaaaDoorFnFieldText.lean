/- Unlike fields of a word have unlike texts, alone and in a list. It holds for every input, with no condition. -/
import Derived.Test.YtmhlfipgomdiaaaDoorCards
import Derived.Test.YtmhlfipgomdiaaaDoorTie
import Derived.Test.YtmhlfipgomdiaaaDoorLaid
import Derived.WalkKit
import Derived.WalkSpells
import Derived.WalkLawsBesides
import Derived.ProofKit
import Derived.OpenShut
import Derived.ChangeOld
import Derived.Below
import Derived.Carry
import Derived.Handy
import Derived.Lib.Hide
import Derived.Laws.Pointers
import Derived.Test.YtmhlfipgomdiaaaDoorFt
import Derived.Deep.DrawnRows
import Derived.Deep.RegionHeld3
import Derived.OwnWalk
import Derived.BigQuiet
import Derived.Deep.DeepHandedRow
import Derived.Lib.LaidTab
namespace Go.Proofs.YtmhlfipgomdiaaaDoor.fnFieldText
open Go.ChangeShapes Go.WideShapes Go.ChangeAt Go.RowKit Go.Joins Go.Deep
set_option linter.unusedVariables false

set_option maxRecDepth 100000 in
set_option maxHeartbeats 8000000 in
theorem wk (w : World) (o0 b0 o1 b1 d : Int) (hf : frb o0 b0 d = true) (hg : frb o1 b1 d = true) :
    Calls Tryd.prog 10 #[.agg #[.int .i64 o0, .int .i64 b0, .int .i64 d], .agg #[.int .i64 o1, .int .i64 b1, .int .i64 d]] w fun e w' => e = .returned (.bool true) ∧ Below w.heap.size w w' := by
  have Hf := Lib.hid hf
  have Hg := Lib.hid hg
  obtain ⟨i1, i2⟩ := bt_inj ⟨o0, b0, d⟩ ⟨o1, b1, d⟩ hf hg
  dsimp only at i1 i2
  have hfb := frb_spec hf
  have hx := (btd_bt o0.toNat b0.toNat (by omega) (by omega)).2.2
  have hs : 0 < (bt o0.toNat b0.toNat).size := (bt_len o0.toNat b0.toNat (by omega) (by omega)).2
  have con0 : ∀ W, Calls Tryd.prog 23 #[.agg #[.int .i64 o0, .int .i64 b0, .int .i64 d]] W fun e w' => e = .returned (.string (bt o0.toNat b0.toNat)) ∧ Below W.heap.size W w' := fun W => ft_any ⟨o0, b0, d⟩ hf W
  have con1 : ∀ W, Calls Tryd.prog 23 #[.agg #[.int .i64 o1, .int .i64 b1, .int .i64 d]] W fun e w' => e = .returned (.string (bt o1.toNat b1.toNat)) ∧ Below W.heap.size W w' := fun W => ft_any ⟨o1, b1, d⟩ hg W
  have con2 : ∀ W i, Blk W i #[.int .i64 o0, .int .i64 b0, .int .i64 d] → Calls Tryd.prog 24 #[.slice (some ⟨i, 0, none⟩) 1 1] W fun e w' => e = .returned (.string (xt o0.toNat b0.toNat)) ∧ Below W.heap.size W w' := fun W i hB => fst_any ⟨o0, b0, d⟩ hf (some ⟨i, 0, none⟩) 1 W (Blk.row (f := ⟨o0, b0, d⟩) hB)
  have con3 : ∀ W i, Blk W i #[.int .i64 o1, .int .i64 b1, .int .i64 d] → Calls Tryd.prog 24 #[.slice (some ⟨i, 0, none⟩) 1 1] W fun e w' => e = .returned (.string (xt o1.toNat b1.toNat)) ∧ Below W.heap.size W w' := fun W i hB => fst_any ⟨o1, b1, d⟩ hg (some ⟨i, 0, none⟩) 1 W (Blk.row (f := ⟨o1, b1, d⟩) hB)
  generalize bt o0.toNat b0.toNat = s at *
  generalize bt o1.toNat b1.toNat = t at *
  generalize xt o0.toNat b0.toNat = x at *
  generalize xt o1.toNat b1.toNat = y at *
  have I1 := Lib.hid i1
  have I2 := Lib.hid i2
  have C0 := Lib.hid con0
  have C1 := Lib.hid con1
  have C2 := Lib.hid con2
  have C3 := Lib.hid con3
  clear hf hg hfb i1 i2 con0 con1 con2 con3
  have tk0 : True := trivial
  have tk1 : True := trivial
  go_enter Tryd.func10, Tryd.ntmps10
  go_wp2_with (first
    | (go_at_call 22; have _t := tk0; refine (right_any o0 b0 d _).mono ?_; rw [Hf.out]; rintro e w1 ⟨rfl, hb1⟩; clear tk0; obtain ⟨hc1, hz1, hs1, hl1⟩ := bcellN (w.heap.size + 2) hb1 (by first | assumption | (simp; done) | (simp; omega) | omega))
    | (go_at_call 22; have _t := tk1; refine (right_any o1 b1 d _).mono ?_; rw [Hg.out]; rintro e w2 ⟨rfl, hb2⟩; clear tk1; obtain ⟨hc2, hz2, hs2, hl2⟩ := bcellN (w.heap.size + 2) hb2 (by first | assumption | (simp; done) | (simp; omega) | omega)))
  have hN1 : w.heap.size + 2 ≤ w1.heap.size := hs1
  have hN2 : w.heap.size + 2 ≤ w2.heap.size := hs2
  have hbN : Below w.heap.size w w2 := Below.trans (b := w1) (Below.trans (b := (w.alloc (.cells #[.int .i64 o0, .int .i64 b0, .int .i64 d] 29)).alloc (.cells #[.int .i64 o1, .int .i64 b1, .int .i64 d] 29)) (Below.alloc (Below.alloc (Below.refl _ _) (Nat.le_refl _) _) (by simp) _) (hb1.mono (by simp; omega))) (hb2.mono (by omega))
  have HC : ∀ w', Below (w.heap.size + 2) w2 w' → w'.cell? ⟨w.heap.size, 0, none⟩ = some (.int .i64 o0) ∧ w'.cell? ⟨w.heap.size, 1, none⟩ = some (.int .i64 b0) ∧ w'.cell? ⟨w.heap.size, 2, none⟩ = some (.int .i64 d) ∧ w'.cell? ⟨w.heap.size + 1, 0, none⟩ = some (.int .i64 o1) ∧ w'.cell? ⟨w.heap.size + 1, 1, none⟩ = some (.int .i64 b1) ∧ w'.cell? ⟨w.heap.size + 1, 2, none⟩ = some (.int .i64 d) := by
    intro W h
    refine ⟨?_, ?_, ?_, ?_, ?_, ?_⟩
    all_goals
      rw [h.cell (by simp), hc2 _ _ (by simp), hc1 _ _ (by simp)]
      simp
  have HC := Lib.hid HC
  clear hb1 hb2 hc1 hc2 hz1 hz2 hs1 hs2 hl1 hl2
  have tk2 : True := trivial
  have tk3 : True := trivial
  go_region_held3 (fun w' => w'.cell? ⟨w.heap.size, 0, none⟩ = some (.int .i64 o0) ∧ w'.cell? ⟨w.heap.size, 1, none⟩ = some (.int .i64 b0) ∧ w'.cell? ⟨w.heap.size, 2, none⟩ = some (.int .i64 d) ∧ w'.cell? ⟨w.heap.size + 1, 0, none⟩ = some (.int .i64 o1) ∧ w'.cell? ⟨w.heap.size + 1, 1, none⟩ = some (.int .i64 b1) ∧ w'.cell? ⟨w.heap.size + 1, 2, none⟩ = some (.int .i64 d))
    (exact HC.out _ (by repeat' (first | (with_reducible exact Below.refl _ _) | (with_reducible refine Below.drew ?_) | (with_reducible refine Below.alloc ?_ ?_ _) | (with_reducible refine Below.trans ?_ (Below.mono hb3 ?_)) | (with_reducible refine Below.trans ?_ (Below.mono hb4 ?_)) | (with_reducible refine Below.trans ?_ (Below.mono hb5 ?_)) | (with_reducible refine Below.trans ?_ (Below.mono hb6 ?_)) | (simp; done) | (simp; omega) | omega)))
    (first
      | (go_at_call 23; have _t := tk2; refine (C0.out _).mono ?_; rintro e w3 ⟨rfl, hb3⟩; have z3 := hb3.size; (try simp at z3); clear tk2)
      | (go_at_call 23; refine (C1.out _).mono ?_; rintro e w4 ⟨rfl, hb4⟩; have z4 := hb4.size; (try simp at z4)))
  go_wp2_with fail
  go_region_held3 (fun w' => w'.cell? ⟨w.heap.size, 0, none⟩ = some (.int .i64 o0) ∧ w'.cell? ⟨w.heap.size, 1, none⟩ = some (.int .i64 b0) ∧ w'.cell? ⟨w.heap.size, 2, none⟩ = some (.int .i64 d) ∧ w'.cell? ⟨w.heap.size + 1, 0, none⟩ = some (.int .i64 o1) ∧ w'.cell? ⟨w.heap.size + 1, 1, none⟩ = some (.int .i64 b1) ∧ w'.cell? ⟨w.heap.size + 1, 2, none⟩ = some (.int .i64 d))
    (exact HC.out _ (by repeat' (first | (with_reducible exact Below.refl _ _) | (with_reducible refine Below.drew ?_) | (with_reducible refine Below.alloc ?_ ?_ _) | (with_reducible refine Below.trans ?_ (Below.mono hb3 ?_)) | (with_reducible refine Below.trans ?_ (Below.mono hb4 ?_)) | (with_reducible refine Below.trans ?_ (Below.mono hb5 ?_)) | (with_reducible refine Below.trans ?_ (Below.mono hb6 ?_)) | (simp; done) | (simp; omega) | omega)))
    (first
      | (go_at_call 24; have _t := tk3; refine (C2.out _ _ (by repeat' (first | (refine Blk.fresh _ _ _ ?_; first | rfl | (simp; done) | (simp; omega)) | (with_reducible refine Blk.draw ?_) | (with_reducible refine Blk.old ?_) | (with_reducible refine Blk.below ?_ hb5) | (simp; done) | (simp; omega)))).mono ?_; rintro e w5 ⟨rfl, hb5⟩; have z5 := hb5.size; (try simp at z5); clear tk3)
      | (go_at_call 24; refine (C3.out _ _ (by repeat' (first | (refine Blk.fresh _ _ _ ?_; first | rfl | (simp; done) | (simp; omega)) | (with_reducible refine Blk.draw ?_) | (with_reducible refine Blk.old ?_) | (with_reducible refine Blk.below ?_ hb5) | (simp; done) | (simp; omega)))).mono ?_; rintro e w6 ⟨rfl, hb6⟩; have z6 := hb6.size; (try simp at z6)))
  all_goals
    have hbel : Below (w.heap.size + 2) w2 w6 := (by repeat' (first | (with_reducible exact Below.refl _ _) | (with_reducible refine Below.drew ?_) | (with_reducible refine Below.alloc ?_ ?_ _) | (with_reducible refine Below.trans ?_ (Below.mono hb3 ?_)) | (with_reducible refine Below.trans ?_ (Below.mono hb4 ?_)) | (with_reducible refine Below.trans ?_ (Below.mono hb5 ?_)) | (with_reducible refine Below.trans ?_ (Below.mono hb6 ?_)) | (simp; done) | (simp; omega) | omega))
    have hfin : Below w.heap.size w w6 := hbN.trans (hbel.mono (by omega))
    obtain ⟨r0, r1, r2, r3, r4, r5⟩ := HC.out w6 hbel
    clear hb3 hb4 hb5 hb6 z3 z4 z5 z6 hbel
    have i1 := I1.out
    have i2 := I2.out
    by_cases p : o0 = o1
    · by_cases q : b0 = b1
      · have e1 : s.toList = t.toList := by rw [p, q] at i1; simpa using i1
        have e2 : x.toList = y.toList := by rw [p, q] at i2; simpa using i2
        clear i1 i2
        go_wp2
        all_goals go_ret
        all_goals exact ⟨ret_b (by simp), hfin⟩
      · have e1 : ¬ s.toList = t.toList := by intro h; rw [h] at i1; simp [p, q] at i1
        have e2 : ¬ x.toList = y.toList := by intro h; rw [h] at i2; simp [p, q] at i2
        clear i1 i2
        go_wp2
        all_goals go_ret
        all_goals exact ⟨ret_b (by simp [e1, e2]), hfin⟩
    · have e1 : ¬ s.toList = t.toList := by intro h; rw [h] at i1; simp [p] at i1
      have e2 : ¬ x.toList = y.toList := by intro h; rw [h] at i2; simp [p] at i2
      clear i1 i2
      go_wp2
      all_goals go_ret
      all_goals exact ⟨ret_b (by simp [e1, e2]), hfin⟩

set_option maxRecDepth 100000 in
set_option maxHeartbeats 4000000 in
theorem walk (w : World) (o0 b0 d0 : Int) (o1 b1 d1 : Int) (wo0 : (Lit.int .i64 o0).wf = true) (wb0 : (Lit.int .i64 b0).wf = true) (wd0 : (Lit.int .i64 d0).wf = true) (wo1 : (Lit.int .i64 o1).wf = true) (wb1 : (Lit.int .i64 b1).wf = true) (wd1 : (Lit.int .i64 d1).wf = true) :
    Calls Tryd.prog 10 #[.agg #[.int .i64 o0, .int .i64 b0, .int .i64 d0], .agg #[.int .i64 o1, .int .i64 b1, .int .i64 d1]] w fun e w' => e = .returned (.bool true) ∧ Below w.heap.size w w' := by
  have tk0 : True := trivial
  have tk1 : True := trivial
  cases hf : frb o0 b0 d0
  · skip
    go_enter Tryd.func10, Tryd.ntmps10
    go_wp2_with (first
      | (go_at_call 22; have _t := tk0; refine (right_any o0 b0 d0 _).mono ?_; rw [hf]; rintro e w1 ⟨rfl, hbw1⟩; clear tk0; obtain ⟨hcw1, hzw1, hsw1, hlw1⟩ := bcellN (w.heap.size + 2) hbw1 (by first | assumption | (simp; done) | (simp; omega) | omega)))
    all_goals go_ret
    all_goals refine ⟨rfl, ?_⟩
    all_goals (repeat' (first | (with_reducible exact Below.refl _ _) | (with_reducible refine Below.drew ?_) | (with_reducible refine Below.alloc ?_ ?_ _) | (with_reducible refine Below.setCell ?_ ?_ _) | (with_reducible refine Below.trans ?_ (hbw1.mono ?_)) | (simp; done) | (simp; omega) | omega | (have zzw1 := hbw1.size; first | omega | (simp at zzw1 ⊢; omega))))
  · cases hg : frb o1 b1 d1
    · skip
      go_enter Tryd.func10, Tryd.ntmps10
      go_wp2_with (first
        | (go_at_call 22; have _t := tk0; refine (right_any o0 b0 d0 _).mono ?_; rw [hf]; rintro e w1 ⟨rfl, hbw1⟩; clear tk0; obtain ⟨hcw1, hzw1, hsw1, hlw1⟩ := bcellN (w.heap.size + 2) hbw1 (by first | assumption | (simp; done) | (simp; omega) | omega))
        | (go_at_call 22; have _t := tk1; refine (right_any o1 b1 d1 _).mono ?_; rw [hg]; rintro e w2 ⟨rfl, hbw2⟩; clear tk1; obtain ⟨hcw2, hzw2, hsw2, hlw2⟩ := bcellN (w.heap.size + 2) hbw2 (by first | assumption | (simp; done) | (simp; omega) | omega)))
      all_goals go_ret
      all_goals refine ⟨rfl, ?_⟩
      all_goals (repeat' (first | (with_reducible exact Below.refl _ _) | (with_reducible refine Below.drew ?_) | (with_reducible refine Below.alloc ?_ ?_ _) | (with_reducible refine Below.setCell ?_ ?_ _) | (with_reducible refine Below.trans ?_ (hbw2.mono ?_)) | (with_reducible refine Below.trans ?_ (hbw1.mono ?_)) | (simp; done) | (simp; omega) | omega | (have zzw2 := hbw2.size; have zzw1 := hbw1.size; first | omega | (simp at zzw2 zzw1 ⊢; omega))))
    · by_cases hw : d0 = d1
      · subst hw
        exact wk w o0 b0 o1 b1 d0 hf hg
      · skip
        go_enter Tryd.func10, Tryd.ntmps10
        go_wp2_with (first
          | (go_at_call 22; have _t := tk0; refine (right_any o0 b0 d0 _).mono ?_; rw [hf]; rintro e w1 ⟨rfl, hbw1⟩; clear tk0; obtain ⟨hcw1, hzw1, hsw1, hlw1⟩ := bcellN (w.heap.size + 2) hbw1 (by first | assumption | (simp; done) | (simp; omega) | omega))
          | (go_at_call 22; have _t := tk1; refine (right_any o1 b1 d1 _).mono ?_; rw [hg]; rintro e w2 ⟨rfl, hbw2⟩; clear tk1; obtain ⟨hcw2, hzw2, hsw2, hlw2⟩ := bcellN (w.heap.size + 2) hbw2 (by first | assumption | (simp; done) | (simp; omega) | omega)))
        all_goals go_ret
        all_goals refine ⟨rfl, ?_⟩
        all_goals (repeat' (first | (with_reducible exact Below.refl _ _) | (with_reducible refine Below.drew ?_) | (with_reducible refine Below.alloc ?_ ?_ _) | (with_reducible refine Below.setCell ?_ ?_ _) | (with_reducible refine Below.trans ?_ (hbw2.mono ?_)) | (with_reducible refine Below.trans ?_ (hbw1.mono ?_)) | (simp; done) | (simp; omega) | omega | (have zzw2 := hbw2.size; have zzw1 := hbw1.size; first | omega | (simp at zzw2 zzw1 ⊢; omega))))

set_option maxRecDepth 100000 in
theorem contract (H : Type) (enc : TypeId × Value → H) (W : World) (base : Nat) (args : Array Value) (ds gs : List (DataW H)) (before : List MemPlace)
    (hval0 : ∀ (j : Nat) t v, Tryd.f10.params[j]? = some t → args[j]? = some v → Value.okWide Tryd.prog W .any base t v)
    (hW : DataW.Whole enc Tryd.prog Tryd.f10.params.toList Rows.fnFieldTextSpec.vars false W args.toList ds gs before) (hL : laidMetH Tryd.prog Rows.fnFieldTextRow.laid W) :
    Calls Tryd.prog 10 args W fun e W' => ∃ v, e = .returned v ∧ Rows.fnFieldTextSpec.post enc Tryd.prog Tryd.f10 false true false false W args v W' := by
  have hval : ∀ (j : Nat) t v, Tryd.f10.params[j]? = some t → args[j]? = some v → Value.okWide Tryd.prog W .any base t v := hval0
  have hW' := hW
  obtain ⟨p, q, hA0, hV, rfl, hfz, hnd⟩ := hW
  have hA : DataW.TrodAll enc Tryd.prog W 0 (fun _ => true) true Tryd.f10.params.toList args.toList ds p := hA0
  rw [Tryd.params10] at hA hval
  obtain ⟨v0, vs0, e0, ds0, p0, q0, hargs, rfl, rfl, h0, r0⟩ := trodAll_cons hA
  obtain ⟨v1, vs1, e1, ds1, p1, q1, rfl, rfl, rfl, h1, r1⟩ := trodAll_cons r0
  obtain ⟨rfl, rfl, rfl⟩ := trodAll_nil r1
  obtain rfl : args = #[v0, v1] := by cases args; simp_all
  obtain ⟨rfl, rfl⟩ := trodVars_none hV
  have k0 := h0
  have lt0 : ∀ x ∈ p0, x.block < W.heap.size := by obtain ⟨m, hm⟩ := k0; exact DataW.trod_lt m _ _ _ hm
  have k1 := h1
  have lt1 : ∀ x ∈ p1, x.block < W.heap.size := by obtain ⟨m, hm⟩ := k1; exact DataW.trod_lt m _ _ _ hm
  obtain ⟨o0, b0, d0, rfl, wo0, wb0, wd0⟩ := open_fld (hval 0 29 v0 rfl rfl) h0
  obtain ⟨o1, b1, d1, rfl, wo1, wb1, wd1⟩ := open_fld (hval 1 29 v1 rfl rfl) h1
  clear hA0 hval0
  refine (walk W o0 b0 d0 o1 b1 d1 wo0 wb0 wd0 wo1 wb1 wd1).mono fun e W' ⟨he, bel⟩ => ?_
  subst he
  exact ⟨_, rfl, _, _, _, [], _, [], hW', trodAll_mk1 (shut_bool Tryd.underlying4 _), (trodAll_cons_mk (Below.trod laidOut (by kernel_rfl) (of_decide_eq_true (by kernel_rfl)) k0 bel lt0) (trodAll_cons_mk (Below.trod laidOut (by kernel_rfl) (of_decide_eq_true (by kernel_rfl)) k1 bel lt1) trodAll_mk0)), rfl, bel.frame _, fun h => by cases h⟩

theorem laid_met (os : Os) : laidMet Tryd.prog Rows.fnFieldTextRow.laid ((laidWorld os).forCall (fun _ _ => 0) ⟨#[], #[.agg #[.int .i64 0, .int .i64 0, .int .i64 0], .agg #[.int .i64 0, .int .i64 0, .int .i64 0]], []⟩).memory :=
  laidMet_of_run' 8 (by kernel_rfl) (by kernel_rfl)
theorem reads (os : Os) {H : Type} (enc : TypeId × Value → H) : ∃ places, DataW.whole enc Tryd.prog ((laidWorld os).forCall (fun _ _ => 0) ⟨#[], #[.agg #[.int .i64 0, .int .i64 0, .int .i64 0], .agg #[.int .i64 0, .int .i64 0, .int .i64 0]], []⟩).memory Tryd.f10.params.toList Rows.fnFieldTextSpec.vars false (#[.agg #[.int .i64 0, .int .i64 0, .int .i64 0], .agg #[.int .i64 0, .int .i64 0, .int .i64 0]] : Array Value).toList 8 = some ([.agg [.lit (.int .i64 0), .lit (.int .i64 0), .lit (.int .i64 0)], .agg [.lit (.int .i64 0), .lit (.int .i64 0), .lit (.int .i64 0)]], [], places) :=
  ⟨[], by kernel_rfl⟩

set_option maxRecDepth 100000 in
theorem lifted (os : Os) (started : os.Started) (H : Type) (enc : TypeId × Value → H) (F : Stop.Interp) :
    ReturnsInHanded {} Tryd.checked os 10 .any ((OpenSpec.ofChange Rows.fnFieldTextSpec).preRow enc Tryd.prog Tryd.f10 Rows.fnFieldTextRow.domain false Rows.fnFieldTextRow.laid) (((OpenSpec.ofChange Rows.fnFieldTextSpec).at F).post enc Tryd.prog Tryd.f10 false true false false) := by
  obtain ⟨places, hx⟩ := reads os enc
  refine returnsInHanded_of_row (C := Tryd.checked) (s := OpenSpec.ofChange Rows.fnFieldTextSpec) own started (by kernel_rfl) Tryd.func10
    (witness_row_at (enc := enc) (C := Tryd.checked) false (laidWorld os) #[.agg #[.int .i64 0, .int .i64 0, .int .i64 0], .agg #[.int .i64 0, .int .i64 0, .int .i64 0]] rfl (by kernel_rfl) (by kernel_rfl) (by kernel_rfl)
      (OpenSpec.preRow_of_cond 8 hx (by kernel_rfl) (fun k hk => by cases hk) (by kernel_rfl) (laid_met os))) ?_
  intro W base args ds gs before hval hW _ _ _ hL _ _
  exact contract H enc W base args ds gs before hval hW hL

theorem said : Rows.FnFieldTextSaid :=
  OpenClaim.holds_of_cond 10 Tryd.f10 rfl rfl rfl rfl rfl rfl rfl ⟨rfl, rfl, rfl, rfl, rfl⟩ rfl rfl rfl rfl rfl (by kernel_rfl) Tryd.func10 (by kernel_rfl)
    (of_decide_eq_true (by kernel_rfl)) (by unfold Func.isWrapper; first | (rw [if_pos (by decide +kernel)]; kernel_rfl) | (rw [if_neg (by decide +kernel)]; exact ⟨rfl, rfl⟩))
    (fun os started H enc _ F => by rw [OpenClaim.pre_eq_preRow]; exact lifted os started H enc F)

theorem plain (f : FuncId) (fn : Func) (hf : Tryd.pinned.checked.prog.funcNamed "loop.example/pub-g03340/laws.FnFieldText" = some f) (hfn : Tryd.pinned.checked.prog.funcs[f]? = some fn) :
    false = Tryd.pinned.checked.prog.looks [] ∧ ∀ (j : Nat) t, fn.params[j]? = some t → Tryd.pinned.checked.prog.wantsStandIn t = false := by
  obtain rfl : f = 10 := Option.some.inj ((show Tryd.prog.funcNamed "loop.example/pub-g03340/laws.FnFieldText" = some 10 by kernel_rfl).symm.trans hf) |>.symm
  obtain rfl : fn = Tryd.f10 := (Option.some.inj (Tryd.func10.symm.trans hfn)).symm
  refine ⟨by kernel_rfl, fun j t ht => ?_⟩
  rw [Tryd.params10] at ht
  obtain rfl : t = 29 := by simpa using Array.mem_of_getElem? ht
  exact (show Tryd.prog.wantsStandIn 29 = false by kernel_rfl)

theorem proved : Rows.FnFieldTextCardSaid :=
  Claim7.holds_tied_plain_at .later [] _ _ _ _ said (fun _ h => by cases h) (by kernel_rfl) (fun _ h => by cases h) fnFieldText_row_tie rfl ⟨rfl, rfl⟩ (by kernel_rfl) rfl plain (by kernel_rfl)
#print axioms proved
end Go.Proofs.YtmhlfipgomdiaaaDoor.fnFieldText
