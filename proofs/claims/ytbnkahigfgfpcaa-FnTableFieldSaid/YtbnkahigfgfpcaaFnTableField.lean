/- Each field of the table has a kind, and lies within words, with at most 64 bits together. It holds for every input, with no condition. -/
import Derived.Test.YtbnkahigfgfpcaaRows
import Derived.Test.YtbnkahigfgfpcaaFr
import Derived.WalkKit
import Derived.WalkSpells
import Derived.WalkLawsBesides
import Derived.ProofKit
import Derived.OpenShut
import Derived.ChangeOld
import Derived.Below
import Derived.Carry
import Derived.Handy
import Derived.Lib.Hide
import Derived.Laws.Pointers
import Derived.Test.YtbnkahigfgfpcaaTab
import Derived.Test.YtbnkahigfgfpcaaSay
namespace Go.Proofs.Ytbnkahigfgfpcaa.fnTableField
open Go.ChangeShapes Go.WideShapes Go.ChangeAt Go.RowKit Go.Joins Go.Deep
set_option linter.unusedVariables false

theorem fsr_of {fs : List Fld} (h1 : allR fs = true) (h2 : 1 ≤ sumB fs) (h3 : sumB fs ≤ 64) : fsr fs = true := by
  simp [fsr, h1, h2, h3]

set_option maxRecDepth 100000 in
set_option maxHeartbeats 8000000 in
theorem walk (w : World) (a0 : Int) (wa0 : (Lit.int .i64 a0).wf = true) :
    Calls Try.prog 3 #[.int .i64 a0] w fun e w' => e = .returned (.bool true) ∧ Below w.heap.size w w' := by
  by_cases hN : 1 ≤ a0 ∧ a0 ≤ 104
  · obtain ⟨n, rfl⟩ := Int.eq_ofNat_of_zero_le (show 0 ≤ a0 by omega)
    have hn1 : 1 ≤ n := by omega
    have hn2 : n ≤ 104 := by omega
    have hx1n : (1 : Int) ≤ (n : Int) := by omega
    have hx2n : (n : Int) ≤ 104 := by omega
    have htf := fun W => tabF_any n hn1 hn2 W
    obtain ⟨g1, g2, g3, g4, g5, g6, g7, g8, g9⟩ := tab_good n hn1 hn2
    generalize (tab n).1 = K at *
    generalize (tab n).2.1 = S at *
    generalize (tab n).2.2 = fs at *
    have hlen : fs.length ≤ 2147483647 := by omega
    have hfs : fsr fs = true := fsr_of g6 g7 g8
    clear g6 g7 g8
    go_enter Try.func3, Try.ntmps3
    go_wp2_with (first
      | (go_at_call 5; refine (htf _).mono ?_; rintro e w1 ⟨A, c, rfl, hr1, hbw1⟩; obtain ⟨hcw1, hfw1, hsw1, hlw1⟩ := bcellN (w.heap.size) hbw1 (by first | assumption | (simp; done) | (simp; omega) | omega); have Hrb := Lib.hid (show ∀ W, Below w1.heap.size w1 W → FRow .i64 W A fs from fun W h => hr1.below h))
      | (go_at_call 6; refine (fieldsRight_any fs A c _ hlen (Hrb.out _ (by first | exact Below.refl _ _ | go_grown))).mono ?_; rw [hfs]; rintro e w2 ⟨rfl, hbw2⟩; obtain ⟨hcw2, hfw2, hsw2, hlw2⟩ := bcellN (w.heap.size) hbw2 (by first | assumption | (simp; done) | (simp; omega) | omega)))
    go_ret
    refine ⟨?_, ?_⟩
    · first | rfl | exact ret_bool (by simp) | exact ret_bool (by simp; omega)
    · (repeat' (first | (with_reducible exact Below.refl _ _) | (with_reducible refine Below.drew ?_) | (with_reducible refine Below.alloc ?_ ?_ _) | (with_reducible refine Below.setCell ?_ ?_ _) | (with_reducible refine Below.trans ?_ (hbw2.mono ?_)) | (with_reducible refine Below.trans ?_ (hbw1.mono ?_)) | (simp; done) | (simp; omega) | omega | (have zzw2 := hbw2.size; have zzw1 := hbw1.size; first | omega | (simp at zzw2 zzw1 ⊢; omega))))
  · have hx1n : a0 < 1 ∨ 104 < a0 := by omega
    rcases hx1n with hx1n | hx1n
    all_goals go_enter Try.func3, Try.ntmps3
    all_goals go_wp2_with fail
    all_goals go_ret
    all_goals refine ⟨rfl, ?_⟩
    all_goals (repeat' (first | (with_reducible exact Below.refl _ _) | (with_reducible refine Below.drew ?_) | (with_reducible refine Below.alloc ?_ ?_ _) | (with_reducible refine Below.setCell ?_ ?_ _) | (simp; done) | (simp; omega) | omega))

set_option maxRecDepth 100000 in
theorem lifted (os : Os) (started : os.Started) (H : Type) (enc : TypeId × Value → H) :
    ReturnsInHanded {} Try.checked os 3 .any (Rows.fnTableFieldSpec.pre6 enc Try.prog Try.f3 Rows.fnTableFieldRow.domain false) (Rows.fnTableFieldSpec.post enc Try.prog Try.f3 false true false false) := by
  refine returnsInHanded_of_change (C := Try.checked) own started (by kernel_rfl) Try.func3
    (ChangeSpec.witness6 (enc := enc) (C := Try.checked) false ⟨#[], #[.int .i64 0], []⟩ 8 (by kernel_rfl) (by kernel_rfl) (by kernel_rfl) (by kernel_rfl)) ?_
  intro W base args ds gs before hval0 hW hcnd _
  have hval : ∀ (j : Nat) t v, Try.f3.params[j]? = some t → args[j]? = some v → Value.okWide Try.prog W .any base t v := hval0
  have hW' := hW
  obtain ⟨p, q, hA0, hV, rfl, hfz, hnd⟩ := hW
  have hA : DataW.TrodAll enc Try.prog W 0 (fun _ => true) true Try.f3.params.toList args.toList ds p := hA0
  rw [Try.params3] at hA hval
  obtain ⟨v0, vs0, e0, ds0, p0, q0, hargs, rfl, rfl, h0, r0⟩ := trodAll_cons hA
  obtain ⟨rfl, rfl, rfl⟩ := trodAll_nil r0
  obtain rfl : args = #[v0] := by cases args; simp_all
  obtain ⟨rfl, rfl⟩ := trodVars_none hV
  have k0 := h0
  have lt0 : ∀ x ∈ p0, x.block < W.heap.size := by obtain ⟨m, hm⟩ := k0; exact DataW.trod_lt m _ _ _ hm
  obtain ⟨a0, rfl, _, _, wa0⟩ := open_int Try.underlying3 (hval 0 3 v0 rfl rfl) h0
  clear hA0 hval0
  refine (walk W a0 wa0).mono fun e W' ⟨he, bel⟩ => ?_
  subst he
  exact ⟨_, rfl, _, _, _, [], _, [], hW', trodAll_mk1 (shut_bool Try.underlying4 _), (trodAll_cons_mk (Below.trod laidOut (by kernel_rfl) (of_decide_eq_true (by kernel_rfl)) k0 bel lt0) trodAll_mk0), rfl, bel.frame _, fun h => by cases h⟩

theorem over : Rows.fnTableFieldRow.holds Try.pinned (OpenSpec.ofChange Rows.fnTableFieldSpec) :=
  OpenClaim.holds_of_wide 3 Try.f3 rfl rfl rfl rfl rfl rfl rfl ⟨rfl, rfl, rfl, rfl, rfl⟩ rfl rfl rfl rfl rfl (by kernel_rfl) Try.func3 (by kernel_rfl)
    (of_decide_eq_true (by kernel_rfl)) (by unfold Func.isWrapper; first | (rw [if_pos (by decide +kernel)]; kernel_rfl) | (rw [if_neg (by decide +kernel)]; exact ⟨rfl, rfl⟩))
    (fun os started H enc _ => lifted os started H enc)

theorem proved : Rows.FnTableFieldSaid := over
#print axioms proved
end Go.Proofs.Ytbnkahigfgfpcaa.fnTableField
