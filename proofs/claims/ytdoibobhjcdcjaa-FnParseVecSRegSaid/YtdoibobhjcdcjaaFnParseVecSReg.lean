/- An argument of this kind is a VSX register: the bits of the fields joined. It holds for every input, with no condition. -/
import Derived.Test.YtdoibobhjcdcjaaRows
import Derived.Test.YtdoibobhjcdcjaaFr
import Derived.WalkKit
import Derived.WalkSpells
import Derived.WalkLawsBesides
import Derived.ProofKit
import Derived.OpenShut
import Derived.ChangeOld
import Derived.Below
import Derived.Carry
import Derived.Handy
import Derived.Lib.Hide
import Derived.Laws.Pointers
import Derived.Test.YtdoibobhjcdcjaaPb
import Derived.Test.YtdoibobhjcdcjaaArg
import Derived.Test.YtdoibobhjcdcjaaVal
import Derived.Deep.RegionHeld3
namespace Go.Proofs.Ytdoibobhjcdcjaa.fnParseVecSReg
open Go.ChangeShapes Go.WideShapes Go.ChangeAt Go.RowKit Go.Joins Go.Deep
set_option linter.unusedVariables false

set_option maxRecDepth 100000 in
set_option maxHeartbeats 8000000 in
theorem walk (w : World) (A0 : Option Addr) (c0 : Nat) (fs0 : List Fld) (x1 y1 : Int) (hr0 : FRow .i64 w A0 fs0) (hx1 : 0 ≤ x1) (hx1' : x1 < 4294967296) (hy1 : 0 ≤ y1) (hy1' : y1 < 4294967296) :
    Calls Try.prog 16 #[.slice A0 fs0.length c0, .agg #[.int .u32 x1, .int .u32 y1]] w fun e w' => e = .returned (.bool true) ∧ Below w.heap.size w w' := by
  by_cases hlen : fs0.length ≤ 2147483647
  · have Hrb := Lib.hid (show ∀ W, Below w.heap.size w W → FRow .i64 W A0 fs0 from fun W h => hr0.below h)
    cases hfs : fsr fs0
    · go_enter Try.func16, Try.ntmps16
      go_wp2_with (go_at_call 18; refine (fieldsRight_any fs0 A0 c0 _ hlen (Hrb.out _ (by repeat' (first | (with_reducible exact Below.refl _ _) | (with_reducible refine Below.drew ?_) | (with_reducible refine Below.alloc ?_ ?_ _) | (with_reducible refine Below.setCell ?_ ?_ _) | (simp; done) | (simp; omega) | omega)))).mono ?_; rw [hfs]; rintro e w1 ⟨rfl, hbw1⟩; obtain ⟨hcw1, hfw1, hsw1, hlw1⟩ := bcellN (w.heap.size + 1) hbw1 (by first | assumption | (simp; done) | (simp; omega) | omega))
      go_ret
      refine ⟨rfl, ?_⟩
      (repeat' (first | (with_reducible exact Below.refl _ _) | (with_reducible refine Below.drew ?_) | (with_reducible refine Below.alloc ?_ ?_ _) | (with_reducible refine Below.setCell ?_ ?_ _) | (with_reducible refine Below.trans ?_ (hbw1.mono ?_)) | (simp; done) | (simp; omega) | omega | (have zzw1 := hbw1.size; first | omega | (simp at zzw1 ⊢; omega))))
    · obtain ⟨hall, h1, h2⟩ := fsr_all hfs
      have hl64 : fs0.length ≤ 64 := by have := (sumB_bounds _ hall).1; omega
      by_cases hB : sumB fs0 ≤ 6
      · have hj := jn_bounds x1 y1 fs0 hall
        have jlt : jn x1 y1 fs0 < 64 := Int.lt_of_lt_of_le hj.2 (two_le (n := 6) (by omega))
        have j0 := hj.1
        have hv : IntKind.u16.wrap (97 + IntKind.u16.wrap (jn x1 y1 fs0)) = 97 + jn x1 y1 fs0 := by simp only [IntKind.wrap_u16]; omega
        have Ha := Lib.hid (show ArgSays 8 0 fs0 x1 y1 (.iface 52 (.int .u16 (97 + jn x1 y1 fs0))) from fun A c W hr => by
          have h := arg_VecSReg fs0 A c 0 x1 y1 W hl64 hr hall h1 h2 (by omega) (by omega) hx1 hx1' hy1 hy1'
          rw [hv] at h
          exact h)
        have Ho := Lib.hid (show OfSays (.iface 52 (.int .u16 (97 + jn x1 y1 fs0))) (.agg #[.int .i64 1, .int .i64 (97 + jn x1 y1 fs0)]) from fun W => argOf_Reg _ (by omega) (by omega) W)
        have Hv := Lib.hid hv
        have Hall := Lib.hid hall
        clear hall hv hj
        go_enter Try.func16, Try.ntmps16
        go_wp2_with (first
          | (go_at_call 18; refine (fieldsRight_any fs0 A0 c0 _ hlen (Hrb.out _ (by repeat' (first | (with_reducible exact Below.refl _ _) | (with_reducible refine Below.drew ?_) | (with_reducible refine Below.alloc ?_ ?_ _) | (with_reducible refine Below.setCell ?_ ?_ _) | (simp; done) | (simp; omega) | omega)))).mono ?_; rw [hfs]; rintro e w1 ⟨rfl, hbw1⟩; obtain ⟨hcw1, hfw1, hsw1, hlw1⟩ := bcellN (w.heap.size + 1) hbw1 (by first | assumption | (simp; done) | (simp; omega) | omega))
          | (go_at_call 19; refine (sum_any fs0 A0 c0 _ hlen (Hrb.out _ (by repeat' (first | (with_reducible exact Below.refl _ _) | (with_reducible refine Below.drew ?_) | (with_reducible refine Below.alloc ?_ ?_ _) | (with_reducible refine Below.setCell ?_ ?_ _) | (with_reducible refine Below.trans ?_ (hbw1.mono ?_)) | (simp; done) | (simp; omega) | omega | (have zzw1 := hbw1.size; first | omega | (simp at zzw1 ⊢; omega))))) Hall.out).mono ?_; rintro e wq ⟨rfl, rfl⟩)
          | (go_at_call 20; refine (parse_of Ha.out Ho.out A0 c0 _ (by omega) (by omega) (by omega) (by omega) hl64 (Hrb.out _ (by repeat' (first | (with_reducible exact Below.refl _ _) | (with_reducible refine Below.drew ?_) | (with_reducible refine Below.alloc ?_ ?_ _) | (with_reducible refine Below.setCell ?_ ?_ _) | (with_reducible refine Below.trans ?_ (hbw1.mono ?_)) | (simp; done) | (simp; omega) | omega | (have zzw1 := hbw1.size; first | omega | (simp at zzw1 ⊢; omega))))) Hall.out h1).mono ?_; rintro e w2 ⟨rfl, hbw2⟩; obtain ⟨hcw2, hfw2, hsw2, hlw2⟩ := bcellN (w.heap.size + 1) hbw2 (by first | assumption | (simp; done) | (simp; omega) | omega)))
        have z0 : w.heap.size < w2.heap.size + 1 := by omega
        have z1 : w.heap.size < w2.heap.size := by omega
        have ex0 : IntKind.i64.wrap (jn x1 y1 fs0) = jn x1 y1 fs0 := IntWalk.i64_in _ (by omega)
        have ex1 : IntKind.i64.wrap (97 + jn x1 y1 fs0) = 97 + jn x1 y1 fs0 := IntWalk.i64_in _ (by omega)
        go_region_held3 (fun w' => w'.cell? ⟨w2.heap.size, 0, none⟩ = some (.int .i64 1) ∧ w'.cell? ⟨w2.heap.size, 1, none⟩ = some (.int .i64 (97 + jn x1 y1 fs0)) ∧ w'.cell? ⟨w.heap.size, 0, none⟩ = some (.int .u32 x1) ∧ w'.cell? ⟨w.heap.size, 1, none⟩ = some (.int .u32 y1)) (go_keep)
          (first | (go_at_call 21; refine (joined_any fs0 A0 c0 x1 y1 _ hlen (Hrb.out _ (by repeat' (first | (with_reducible exact Below.refl _ _) | (with_reducible refine Below.drew ?_) | (with_reducible refine Below.alloc ?_ ?_ _) | (with_reducible refine Below.setCell ?_ ?_ _) | (with_reducible refine Below.trans ?_ (hbw2.mono ?_)) | (with_reducible refine Below.trans ?_ (hbw1.mono ?_)) | (simp; done) | (simp; omega) | omega | (have zzw2 := hbw2.size; have zzw1 := hbw1.size; first | omega | (simp at zzw2 zzw1 ⊢; omega))))) Hall.out h2 hx1 hx1' hy1 hy1').mono ?_; rintro e w3 ⟨rfl, hbw3⟩; obtain ⟨hcw3, hfw3, hsw3, hlw3⟩ := bcellN (w2.heap.size + 1) hbw3 (by first | assumption | (simp; done) | (simp; omega) | omega)))
        go_wp2
        go_ret
        refine ⟨?_, ?_⟩
        · first | rfl | exact ret_bool (by simp) | exact ret_bool (by simp [RowKit.wrap64, IntKind.wrap_i64])
        · (repeat' (first | (with_reducible exact Below.refl _ _) | (with_reducible refine Below.drew ?_) | (with_reducible refine Below.alloc ?_ ?_ _) | (with_reducible refine Below.setCell ?_ ?_ _) | (with_reducible refine Below.trans ?_ (hbw3.mono ?_)) | (with_reducible refine Below.trans ?_ (hbw2.mono ?_)) | (with_reducible refine Below.trans ?_ (hbw1.mono ?_)) | (simp; done) | (simp; omega) | omega | (have zzw3 := hbw3.size; have zzw2 := hbw2.size; have zzw1 := hbw1.size; first | omega | (simp at zzw3 zzw2 zzw1 ⊢; omega))))
      · have Hall := Lib.hid hall
        clear hall
        go_enter Try.func16, Try.ntmps16
        go_wp2_with (first
          | (go_at_call 18; refine (fieldsRight_any fs0 A0 c0 _ hlen (Hrb.out _ (by repeat' (first | (with_reducible exact Below.refl _ _) | (with_reducible refine Below.drew ?_) | (with_reducible refine Below.alloc ?_ ?_ _) | (with_reducible refine Below.setCell ?_ ?_ _) | (simp; done) | (simp; omega) | omega)))).mono ?_; rw [hfs]; rintro e w1 ⟨rfl, hbw1⟩; obtain ⟨hcw1, hfw1, hsw1, hlw1⟩ := bcellN (w.heap.size + 1) hbw1 (by first | assumption | (simp; done) | (simp; omega) | omega))
          | (go_at_call 19; refine (sum_any fs0 A0 c0 _ hlen (Hrb.out _ (by repeat' (first | (with_reducible exact Below.refl _ _) | (with_reducible refine Below.drew ?_) | (with_reducible refine Below.alloc ?_ ?_ _) | (with_reducible refine Below.setCell ?_ ?_ _) | (with_reducible refine Below.trans ?_ (hbw1.mono ?_)) | (simp; done) | (simp; omega) | omega | (have zzw1 := hbw1.size; first | omega | (simp at zzw1 ⊢; omega))))) Hall.out).mono ?_; rintro e wq ⟨rfl, rfl⟩))
        all_goals (try (exfalso; omega))
        all_goals go_ret
        all_goals refine ⟨rfl, ?_⟩
        all_goals (repeat' (first | (with_reducible exact Below.refl _ _) | (with_reducible refine Below.drew ?_) | (with_reducible refine Below.alloc ?_ ?_ _) | (with_reducible refine Below.setCell ?_ ?_ _) | (with_reducible refine Below.trans ?_ (hbw1.mono ?_)) | (simp; done) | (simp; omega) | omega | (have zzw1 := hbw1.size; first | omega | (simp at zzw1 ⊢; omega))))
  · have hl1 : (2147483647 : Int) < (fs0.length : Int) := by omega
    go_enter Try.func16, Try.ntmps16
    go_wp2_with fail
    go_ret
    refine ⟨rfl, ?_⟩
    (repeat' (first | (with_reducible exact Below.refl _ _) | (with_reducible refine Below.drew ?_) | (with_reducible refine Below.alloc ?_ ?_ _) | (with_reducible refine Below.setCell ?_ ?_ _) | (simp; done) | (simp; omega) | omega))

set_option maxRecDepth 100000 in
theorem lifted (os : Os) (started : os.Started) (H : Type) (enc : TypeId × Value → H) :
    ReturnsInHanded {} Try.checked os 16 .any (Rows.fnParseVecSRegSpec.pre6 enc Try.prog Try.f16 Rows.fnParseVecSRegRow.domain false) (Rows.fnParseVecSRegSpec.post enc Try.prog Try.f16 false true false false) := by
  refine returnsInHanded_of_change (C := Try.checked) own started (by kernel_rfl) Try.func16
    (ChangeSpec.witness6 (enc := enc) (C := Try.checked) false ⟨#[], #[.slice none 0 0, .agg #[.int .u32 0, .int .u32 0]], []⟩ 8 (by kernel_rfl) (by kernel_rfl) (by kernel_rfl) (by kernel_rfl)) ?_
  intro W base args ds gs before hval0 hW hcnd _
  have hval : ∀ (j : Nat) t v, Try.f16.params[j]? = some t → args[j]? = some v → Value.okWide Try.prog W .any base t v := hval0
  have hW' := hW
  obtain ⟨p, q, hA0, hV, rfl, hfz, hnd⟩ := hW
  have hA : DataW.TrodAll enc Try.prog W 0 (fun _ => true) true Try.f16.params.toList args.toList ds p := hA0
  rw [Try.params16] at hA hval
  obtain ⟨v0, vs0, e0, ds0, p0, q0, hargs, rfl, rfl, h0, r0⟩ := trodAll_cons hA
  obtain ⟨v1, vs1, e1, ds1, p1, q1, rfl, rfl, rfl, h1, r1⟩ := trodAll_cons r0
  obtain ⟨rfl, rfl, rfl⟩ := trodAll_nil r1
  obtain rfl : args = #[v0, v1] := by cases args; simp_all
  obtain ⟨rfl, rfl⟩ := trodVars_none hV
  have k0 := h0
  have lt0 : ∀ x ∈ p0, x.block < W.heap.size := by obtain ⟨m, hm⟩ := k0; exact DataW.trod_lt m _ _ _ hm
  have k1 := h1
  have lt1 : ∀ x ∈ p1, x.block < W.heap.size := by obtain ⟨m, hm⟩ := k1; exact DataW.trod_lt m _ _ _ hm
  obtain ⟨A0, c0, fs0, rfl, hr0⟩ := open_flds (hval 0 22 v0 rfl rfl) h0
  obtain ⟨x1, y1, rfl, hx1, hx1', hy1, hy1'⟩ := open_words (hval 1 24 v1 rfl rfl) h1
  clear hA0 hval0
  refine (walk W A0 c0 fs0 x1 y1 hr0 hx1 hx1' hy1 hy1').mono fun e W' ⟨he, bel⟩ => ?_
  subst he
  exact ⟨_, rfl, _, _, _, [], _, [], hW', trodAll_mk1 (shut_bool Try.underlying4 _), (trodAll_cons_mk (Below.trod laidOut (by kernel_rfl) (of_decide_eq_true (by kernel_rfl)) k0 bel lt0) (trodAll_cons_mk (Below.trod laidOut (by kernel_rfl) (of_decide_eq_true (by kernel_rfl)) k1 bel lt1) trodAll_mk0)), rfl, bel.frame _, fun h => by cases h⟩

theorem over : Rows.fnParseVecSRegRow.holds Try.pinned (OpenSpec.ofChange Rows.fnParseVecSRegSpec) :=
  OpenClaim.holds_of_wide 16 Try.f16 rfl rfl rfl rfl rfl rfl rfl ⟨rfl, rfl, rfl, rfl, rfl⟩ rfl rfl rfl rfl rfl (by kernel_rfl) Try.func16 (by kernel_rfl)
    (of_decide_eq_true (by kernel_rfl)) (by unfold Func.isWrapper; first | (rw [if_pos (by decide +kernel)]; kernel_rfl) | (rw [if_neg (by decide +kernel)]; exact ⟨rfl, rfl⟩))
    (fun os started H enc _ => lifted os started H enc)

theorem proved : Rows.FnParseVecSRegSaid := over
#print axioms proved
end Go.Proofs.Ytdoibobhjcdcjaa.fnParseVecSReg
