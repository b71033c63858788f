/- An argument of this kind is where to go: the bits of the fields joined, and shifted. It holds for every input, with no condition. -/
import Derived.Test.YtdoibobhjcdcjaaRows
import Derived.Test.YtdoibobhjcdcjaaFr
import Derived.WalkKit
import Derived.WalkSpells
import Derived.WalkLawsBesides
import Derived.ProofKit
import Derived.OpenShut
import Derived.ChangeOld
import Derived.Below
import Derived.Carry
import Derived.Handy
import Derived.Lib.Hide
import Derived.Laws.Pointers
import Derived.Test.YtdoibobhjcdcjaaPb
import Derived.Test.YtdoibobhjcdcjaaArg
import Derived.Test.YtdoibobhjcdcjaaVal
import Derived.Deep.RegionHeld3
import Derived.Laws.BitsAllLaws
namespace Go.Proofs.Ytdoibobhjcdcjaa.fnParseLabel
open Go.ChangeShapes Go.WideShapes Go.ChangeAt Go.RowKit Go.Joins Go.Deep
set_option linter.unusedVariables false

theorem shl_bounds (S P B : Int) (h0 : -B ≤ S) (h1 : S < B) (p0 : 1 ≤ P) (p1 : P ≤ 32) : -(32 * B) ≤ S * P ∧ S * P < 32 * B := by
  by_cases h : 0 ≤ S
  · have a := Int.mul_le_mul_of_nonneg_left p1 h
    have b := Int.mul_nonneg h (by omega : 0 ≤ P)
    omega
  · have a := Int.mul_le_mul_of_nonpos_left (a := S) (by omega) p1
    have b := Int.mul_le_mul_of_nonpos_left (a := S) (by omega) p0
    omega
theorem and_low32 (X : Int) : bits .and .i64 X 4294967295 = X % 4294967296 := by
  show IntKind.i64.wrap ((BitVec.ofInt 64 X &&& BitVec.ofInt 64 4294967295).toNat : Int) = _
  have e2 : (BitVec.ofInt 64 4294967295).toNat = 2 ^ 32 - 1 := by decide
  rw [BitVec.toNat_and, e2, Nat.and_two_pow_sub_one_eq_mod, BitVec.toNat_ofInt, IntKind.wrap_i64]
  omega

set_option maxRecDepth 100000 in
set_option maxHeartbeats 8000000 in
theorem walk (w : World) (a0 : Int) (A1 : Option Addr) (c1 : Nat) (fs1 : List Fld) (x2 y2 : Int) (wa0 : (Lit.int .i64 a0).wf = true) (hr1 : FRow .i64 w A1 fs1) (hx2 : 0 ≤ x2) (hx2' : x2 < 4294967296) (hy2 : 0 ≤ y2) (hy2' : y2 < 4294967296) :
    Calls Try.prog 8 #[.int .i64 a0, .slice A1 fs1.length c1, .agg #[.int .u32 x2, .int .u32 y2]] w fun e w' => e = .returned (.bool true) ∧ Below w.heap.size w w' := by
  by_cases hlen : fs1.length ≤ 2147483647
  · have Hrb := Lib.hid (show ∀ W, Below w.heap.size w W → FRow .i64 W A1 fs1 from fun W h => hr1.below h)
    cases hfs : fsr fs1
    · go_enter Try.func8, Try.ntmps8
      go_wp2_with (go_at_call 18; refine (fieldsRight_any fs1 A1 c1 _ hlen (Hrb.out _ (by repeat' (first | (with_reducible exact Below.refl _ _) | (with_reducible refine Below.drew ?_) | (with_reducible refine Below.alloc ?_ ?_ _) | (with_reducible refine Below.setCell ?_ ?_ _) | (simp; done) | (simp; omega) | omega)))).mono ?_; rw [hfs]; rintro e w1 ⟨rfl, hbw1⟩; obtain ⟨hcw1, hfw1, hsw1, hlw1⟩ := bcellN (w.heap.size + 1) hbw1 (by first | assumption | (simp; done) | (simp; omega) | omega))
      go_ret
      refine ⟨rfl, ?_⟩
      (repeat' (first | (with_reducible exact Below.refl _ _) | (with_reducible refine Below.drew ?_) | (with_reducible refine Below.alloc ?_ ?_ _) | (with_reducible refine Below.setCell ?_ ?_ _) | (with_reducible refine Below.trans ?_ (hbw1.mono ?_)) | (simp; done) | (simp; omega) | omega | (have zzw1 := hbw1.size; first | omega | (simp at zzw1 ⊢; omega))))
    · obtain ⟨hall, h1, h2⟩ := fsr_all hfs
      have hl64 : fs1.length ≤ 64 := by have := (sumB_bounds _ hall).1; omega
      by_cases hB : sumB fs1 ≤ 26 ∧ 0 ≤ a0 ∧ a0 ≤ 5
      · obtain ⟨hB, hs0, hs1⟩ := hB
        have hj := jn_bounds x2 y2 fs1 hall
        have sbd := sgn_bounds (jn x2 y2 fs1) (sumB fs1) h1 hj.1 hj.2
        have sp := two_le (m := (sumB fs1 - 1).toNat) (n := 25) (by omega)
        have pp := two_pos a0.toNat
        have pq : (2 : Int) ^ a0.toNat ≤ 32 := two_le (n := 5) (by omega)
        obtain ⟨q0, q1⟩ := shl_bounds (sgn (jn x2 y2 fs1) (sumB fs1)) (2 ^ a0.toNat) 33554432 (by omega) (by omega) (by omega) pq
        clear sbd sp
        have hand := and_low32 (sgn (jn x2 y2 fs1) (sumB fs1) * 2 ^ a0.toNat)
        have hv : IntKind.u32.wrap (IntKind.i64.wrap (sgn (jn x2 y2 fs1) (sumB fs1) * 2 ^ a0.toNat)) = sgn (jn x2 y2 fs1) (sumB fs1) * 2 ^ a0.toNat % 4294967296 := by rw [IntWalk.i64_in _ (by omega), IntKind.wrap_u32]
        have Ha := Lib.hid (show ArgSays 2 a0 fs1 x2 y2 (.iface 57 (.int .u32 (sgn (jn x2 y2 fs1) (sumB fs1) * 2 ^ a0.toNat % 4294967296))) from fun A c W hr => by
          have h := arg_Label fs1 A c a0 x2 y2 W hl64 hr hall h1 h2 (by omega) (by omega) hx2 hx2' hy2 hy2'
          rw [hv] at h
          exact h)
        have Ho := Lib.hid (show OfSays (.iface 57 (.int .u32 (sgn (jn x2 y2 fs1) (sumB fs1) * 2 ^ a0.toNat % 4294967296))) (.agg #[.int .i64 6, .int .i64 (sgn (jn x2 y2 fs1) (sumB fs1) * 2 ^ a0.toNat % 4294967296)]) from fun W => argOf_Label _ (by omega) (by omega) W)
        have Hv := Lib.hid hv
        have Hall := Lib.hid hall
        clear hall hv hj
        go_enter Try.func8, Try.ntmps8
        go_wp2_with (first
          | (go_at_call 18; refine (fieldsRight_any fs1 A1 c1 _ hlen (Hrb.out _ (by repeat' (first | (with_reducible exact Below.refl _ _) | (with_reducible refine Below.drew ?_) | (with_reducible refine Below.alloc ?_ ?_ _) | (with_reducible refine Below.setCell ?_ ?_ _) | (simp; done) | (simp; omega) | omega)))).mono ?_; rw [hfs]; rintro e w1 ⟨rfl, hbw1⟩; obtain ⟨hcw1, hfw1, hsw1, hlw1⟩ := bcellN (w.heap.size + 1) hbw1 (by first | assumption | (simp; done) | (simp; omega) | omega))
          | (go_at_call 19; refine (sum_any fs1 A1 c1 _ hlen (Hrb.out _ (by repeat' (first | (with_reducible exact Below.refl _ _) | (with_reducible refine Below.drew ?_) | (with_reducible refine Below.alloc ?_ ?_ _) | (with_reducible refine Below.setCell ?_ ?_ _) | (with_reducible refine Below.trans ?_ (hbw1.mono ?_)) | (simp; done) | (simp; omega) | omega | (have zzw1 := hbw1.size; first | omega | (simp at zzw1 ⊢; omega))))) Hall.out).mono ?_; rintro e wq ⟨rfl, rfl⟩)
          | (go_at_call 20; refine (parse_of Ha.out Ho.out A1 c1 _ (by omega) (by omega) (by omega) (by omega) hl64 (Hrb.out _ (by repeat' (first | (with_reducible exact Below.refl _ _) | (with_reducible refine Below.drew ?_) | (with_reducible refine Below.alloc ?_ ?_ _) | (with_reducible refine Below.setCell ?_ ?_ _) | (with_reducible refine Below.trans ?_ (hbw1.mono ?_)) | (simp; done) | (simp; omega) | omega | (have zzw1 := hbw1.size; first | omega | (simp at zzw1 ⊢; omega))))) Hall.out h1).mono ?_; rintro e w2 ⟨rfl, hbw2⟩; obtain ⟨hcw2, hfw2, hsw2, hlw2⟩ := bcellN (w.heap.size + 1) hbw2 (by first | assumption | (simp; done) | (simp; omega) | omega)))
        have z0 : w.heap.size < w2.heap.size + 1 := by omega
        have z1 : w.heap.size < w2.heap.size := by omega
        have ex0 : IntKind.i64.wrap (sgn (jn x2 y2 fs1) (sumB fs1) * 2 ^ a0.toNat) = sgn (jn x2 y2 fs1) (sumB fs1) * 2 ^ a0.toNat := IntWalk.i64_in _ (by omega)
        go_region_held3 (fun w' => w'.cell? ⟨w2.heap.size, 0, none⟩ = some (.int .i64 6) ∧ w'.cell? ⟨w2.heap.size, 1, none⟩ = some (.int .i64 (sgn (jn x2 y2 fs1) (sumB fs1) * 2 ^ a0.toNat % 4294967296)) ∧ w'.cell? ⟨w.heap.size, 0, none⟩ = some (.int .u32 x2) ∧ w'.cell? ⟨w.heap.size, 1, none⟩ = some (.int .u32 y2)) (go_keep)
          (first | (go_at_call 22; refine (value_any fs1 A1 c1 x2 y2 _ hlen (Hrb.out _ (by repeat' (first | (with_reducible exact Below.refl _ _) | (with_reducible refine Below.drew ?_) | (with_reducible refine Below.alloc ?_ ?_ _) | (with_reducible refine Below.setCell ?_ ?_ _) | (with_reducible refine Below.trans ?_ (hbw2.mono ?_)) | (with_reducible refine Below.trans ?_ (hbw1.mono ?_)) | (simp; done) | (simp; omega) | omega | (have zzw2 := hbw2.size; have zzw1 := hbw1.size; first | omega | (simp at zzw2 zzw1 ⊢; omega))))) Hall.out h1 h2 hx2 hx2' hy2 hy2').mono ?_; rintro e w3 ⟨rfl, hbw3⟩; obtain ⟨hcw3, hfw3, hsw3, hlw3⟩ := bcellN (w2.heap.size + 1) hbw3 (by first | assumption | (simp; done) | (simp; omega) | omega)))
        go_wp2
        go_ret
        refine ⟨?_, ?_⟩
        · first | rfl | exact ret_bool (by simp) | exact ret_bool (by simp [RowKit.wrap64, IntKind.wrap_i64])
        · (repeat' (first | (with_reducible exact Below.refl _ _) | (with_reducible refine Below.drew ?_) | (with_reducible refine Below.alloc ?_ ?_ _) | (with_reducible refine Below.setCell ?_ ?_ _) | (with_reducible refine Below.trans ?_ (hbw3.mono ?_)) | (with_reducible refine Below.trans ?_ (hbw2.mono ?_)) | (with_reducible refine Below.trans ?_ (hbw1.mono ?_)) | (simp; done) | (simp; omega) | omega | (have zzw3 := hbw3.size; have zzw2 := hbw2.size; have zzw1 := hbw1.size; first | omega | (simp at zzw3 zzw2 zzw1 ⊢; omega))))
      · have Hall := Lib.hid hall
        clear hall
        go_enter Try.func8, Try.ntmps8
        go_wp2_with (first
          | (go_at_call 18; refine (fieldsRight_any fs1 A1 c1 _ hlen (Hrb.out _ (by repeat' (first | (with_reducible exact Below.refl _ _) | (with_reducible refine Below.drew ?_) | (with_reducible refine Below.alloc ?_ ?_ _) | (with_reducible refine Below.setCell ?_ ?_ _) | (simp; done) | (simp; omega) | omega)))).mono ?_; rw [hfs]; rintro e w1 ⟨rfl, hbw1⟩; obtain ⟨hcw1, hfw1, hsw1, hlw1⟩ := bcellN (w.heap.size + 1) hbw1 (by first | assumption | (simp; done) | (simp; omega) | omega))
          | (go_at_call 19; refine (sum_any fs1 A1 c1 _ hlen (Hrb.out _ (by repeat' (first | (with_reducible exact Below.refl _ _) | (with_reducible refine Below.drew ?_) | (with_reducible refine Below.alloc ?_ ?_ _) | (with_reducible refine Below.setCell ?_ ?_ _) | (with_reducible refine Below.trans ?_ (hbw1.mono ?_)) | (simp; done) | (simp; omega) | omega | (have zzw1 := hbw1.size; first | omega | (simp at zzw1 ⊢; omega))))) Hall.out).mono ?_; rintro e wq ⟨rfl, rfl⟩))
        all_goals (try (exfalso; omega))
        all_goals go_ret
        all_goals refine ⟨rfl, ?_⟩
        all_goals (repeat' (first | (with_reducible exact Below.refl _ _) | (with_reducible refine Below.drew ?_) | (with_reducible refine Below.alloc ?_ ?_ _) | (with_reducible refine Below.setCell ?_ ?_ _) | (with_reducible refine Below.trans ?_ (hbw1.mono ?_)) | (simp; done) | (simp; omega) | omega | (have zzw1 := hbw1.size; first | omega | (simp at zzw1 ⊢; omega))))
  · have hl1 : (2147483647 : Int) < (fs1.length : Int) := by omega
    go_enter Try.func8, Try.ntmps8
    go_wp2_with fail
    go_ret
    refine ⟨rfl, ?_⟩
    (repeat' (first | (with_reducible exact Below.refl _ _) | (with_reducible refine Below.drew ?_) | (with_reducible refine Below.alloc ?_ ?_ _) | (with_reducible refine Below.setCell ?_ ?_ _) | (simp; done) | (simp; omega) | omega))

set_option maxRecDepth 100000 in
theorem lifted (os : Os) (started : os.Started) (H : Type) (enc : TypeId × Value → H) :
    ReturnsInHanded {} Try.checked os 8 .any (Rows.fnParseLabelSpec.pre6 enc Try.prog Try.f8 Rows.fnParseLabelRow.domain false) (Rows.fnParseLabelSpec.post enc Try.prog Try.f8 false true false false) := by
  refine returnsInHanded_of_change (C := Try.checked) own started (by kernel_rfl) Try.func8
    (ChangeSpec.witness6 (enc := enc) (C := Try.checked) false ⟨#[], #[.int .i64 0, .slice none 0 0, .agg #[.int .u32 0, .int .u32 0]], []⟩ 8 (by kernel_rfl) (by kernel_rfl) (by kernel_rfl) (by kernel_rfl)) ?_
  intro W base args ds gs before hval0 hW hcnd _
  have hval : ∀ (j : Nat) t v, Try.f8.params[j]? = some t → args[j]? = some v → Value.okWide Try.prog W .any base t v := hval0
  have hW' := hW
  obtain ⟨p, q, hA0, hV, rfl, hfz, hnd⟩ := hW
  have hA : DataW.TrodAll enc Try.prog W 0 (fun _ => true) true Try.f8.params.toList args.toList ds p := hA0
  rw [Try.params8] at hA hval
  obtain ⟨v0, vs0, e0, ds0, p0, q0, hargs, rfl, rfl, h0, r0⟩ := trodAll_cons hA
  obtain ⟨v1, vs1, e1, ds1, p1, q1, rfl, rfl, rfl, h1, r1⟩ := trodAll_cons r0
  obtain ⟨v2, vs2, e2, ds2, p2, q2, rfl, rfl, rfl, h2, r2⟩ := trodAll_cons r1
  obtain ⟨rfl, rfl, rfl⟩ := trodAll_nil r2
  obtain rfl : args = #[v0, v1, v2] := by cases args; simp_all
  obtain ⟨rfl, rfl⟩ := trodVars_none hV
  have k0 := h0
  have lt0 : ∀ x ∈ p0, x.block < W.heap.size := by obtain ⟨m, hm⟩ := k0; exact DataW.trod_lt m _ _ _ hm
  have k1 := h1
  have lt1 : ∀ x ∈ p1, x.block < W.heap.size := by obtain ⟨m, hm⟩ := k1; exact DataW.trod_lt m _ _ _ hm
  have k2 := h2
  have lt2 : ∀ x ∈ p2, x.block < W.heap.size := by obtain ⟨m, hm⟩ := k2; exact DataW.trod_lt m _ _ _ hm
  obtain ⟨a0, rfl, _, _, wa0⟩ := open_int Try.underlying3 (hval 0 3 v0 rfl rfl) h0
  obtain ⟨A1, c1, fs1, rfl, hr1⟩ := open_flds (hval 1 22 v1 rfl rfl) h1
  obtain ⟨x2, y2, rfl, hx2, hx2', hy2, hy2'⟩ := open_words (hval 2 24 v2 rfl rfl) h2
  clear hA0 hval0
  refine (walk W a0 A1 c1 fs1 x2 y2 wa0 hr1 hx2 hx2' hy2 hy2').mono fun e W' ⟨he, bel⟩ => ?_
  subst he
  exact ⟨_, rfl, _, _, _, [], _, [], hW', trodAll_mk1 (shut_bool Try.underlying4 _), (trodAll_cons_mk (Below.trod laidOut (by kernel_rfl) (of_decide_eq_true (by kernel_rfl)) k0 bel lt0) (trodAll_cons_mk (Below.trod laidOut (by kernel_rfl) (of_decide_eq_true (by kernel_rfl)) k1 bel lt1) (trodAll_cons_mk (Below.trod laidOut (by kernel_rfl) (of_decide_eq_true (by kernel_rfl)) k2 bel lt2) trodAll_mk0))), rfl, bel.frame _, fun h => by cases h⟩

theorem over : Rows.fnParseLabelRow.holds Try.pinned (OpenSpec.ofChange Rows.fnParseLabelSpec) :=
  OpenClaim.holds_of_wide 8 Try.f8 rfl rfl rfl rfl rfl rfl rfl ⟨rfl, rfl, rfl, rfl, rfl⟩ rfl rfl rfl rfl rfl (by kernel_rfl) Try.func8 (by kernel_rfl)
    (of_decide_eq_true (by kernel_rfl)) (by unfold Func.isWrapper; first | (rw [if_pos (by decide +kernel)]; kernel_rfl) | (rw [if_neg (by decide +kernel)]; exact ⟨rfl, rfl⟩))
    (fun os started H enc _ => lifted os started H enc)

theorem proved : Rows.FnParseLabelSaid := over
#print axioms proved
end Go.Proofs.Ytdoibobhjcdcjaa.fnParseLabel
