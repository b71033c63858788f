/- Unlike places to go have unlike texts, from here and from 0. It holds for every input, with no condition. -/
import Derived.Test.YtmhlfipgomdiaaaDoorCards
import Derived.Test.YtmhlfipgomdiaaaDoorTie
import Derived.Test.YtmhlfipgomdiaaaDoorLaid
import Derived.WalkKit
import Derived.WalkSpells
import Derived.WalkLawsBesides
import Derived.ProofKit
import Derived.OpenShut
import Derived.ChangeOld
import Derived.Below
import Derived.Carry
import Derived.Handy
import Derived.Lib.Hide
import Derived.Laws.Pointers
import Derived.Test.YtmhlfipgomdiaaaDoorWt
import Derived.Deep.DeepHandedRow
import Derived.Lib.LaidTab
namespace Go.Proofs.YtmhlfipgomdiaaaDoor.fnWhereText
open Go.ChangeShapes Go.WideShapes Go.ChangeAt Go.RowKit Go.Joins Go.Deep
set_option linter.unusedVariables false

set_option maxRecDepth 100000 in
set_option maxHeartbeats 4000000 in
theorem walk (w : World) (ht : TabB w) (a0 : Int) (a1 : Int) (wa0 : (Lit.int .i64 a0).wf = true) (wa1 : (Lit.int .i64 a1).wf = true) :
    Calls Tryd.prog 8 #[.int .i64 a0, .int .i64 a1] w fun e w' => e = .returned (.bool true) ∧ Below w.heap.size w w' := by
  by_cases hA : -2147483648 ≤ a0 ∧ a0 ≤ 2147483647
  · by_cases hB : -2147483648 ≤ a1 ∧ a1 ≤ 2147483647
    · have ea0 := and32 a0 (by omega) (by omega)
      have ea1 := and32 a1 (by omega) (by omega)
      have hs : 0 < (pc a0).size := pc_size a0
      have hx : 0 < (lb (a0 % 4294967296)).size := lb_size _
      have hst : ((pc a0).toList == (pc a1).toList) = (a0 == a1) := pc_inj a0 a1 (by omega) (by omega)
      have hxy : ((lb (a0 % 4294967296)).toList == (lb (a1 % 4294967296)).toList) = (a0 == a1) := lb_inj a0 a1 (by omega) (by omega)
      have con0 := fun W hW => pc_any a0 (by omega) (by omega) W hW
      have con1 := fun W hW => pc_any a1 (by omega) (by omega) W hW
      have con2 := fun W hW => lb_any (a0 % 4294967296) (by omega) (by omega) W hW
      have con3 := fun W hW => lb_any (a1 % 4294967296) (by omega) (by omega) W hW
      generalize pc a0 = s at *
      generalize pc a1 = t at *
      generalize lb (a0 % 4294967296) = x at *
      generalize lb (a1 % 4294967296) = y at *
      rw [← ea0] at con2
      rw [← ea1] at con3
      clear ea0 ea1
      go_enter Tryd.func8, Tryd.ntmps8
      have tok0 : True := trivial
      have tok1 : True := trivial
      go_wp2_with (first
        | (go_at_call 19; have _t := tok0; refine (con0 _ ht).mono ?_; rintro e w1 ⟨rfl, hbw1⟩; clear tok0)
        | (go_at_call 19; refine (con1 _ (tabB_below ht hbw1)).mono ?_; rintro e w2 ⟨rfl, hbw2⟩)
        | (go_at_call 20; have _t := tok1; refine (con2 _ (tabB_below (tabB_below ht hbw1) hbw2)).mono ?_; rintro e w3 ⟨rfl, hbw3⟩; clear tok1)
        | (go_at_call 20; refine (con3 _ (tabB_below (tabB_below (tabB_below ht hbw1) hbw2) hbw3)).mono ?_; rintro e w4 ⟨rfl, hbw4⟩))
      all_goals go_ret
      all_goals refine ⟨?_, Below.trans hbw1 (Below.trans hbw2 (Below.trans hbw3 (hbw4.mono hbw3.size) |>.mono hbw2.size) |>.mono hbw1.size)⟩
      all_goals first | exact ret_b (by rw [hst, hxy]; simp) | exact ret_b (by simp) | exact ret_b (by simp [hst, hxy])
    · go_enter Tryd.func8, Tryd.ntmps8
      have h' : a1 < -2147483648 ∨ 2147483647 < a1 := by omega
      rcases h' with h' | h'
      all_goals go_wp2_with fail
      all_goals go_ret
      all_goals exact ⟨rfl, Below.refl _ _⟩
  · go_enter Tryd.func8, Tryd.ntmps8
    have h' : a0 < -2147483648 ∨ 2147483647 < a0 := by omega
    rcases h' with h' | h'
    all_goals go_wp2_with fail
    all_goals go_ret
    all_goals exact ⟨rfl, Below.refl _ _⟩

set_option maxRecDepth 100000 in
theorem contract (H : Type) (enc : TypeId × Value → H) (W : World) (base : Nat) (args : Array Value) (ds gs : List (DataW H)) (before : List MemPlace)
    (hval0 : ∀ (j : Nat) t v, Tryd.f8.params[j]? = some t → args[j]? = some v → Value.okWide Tryd.prog W .any base t v)
    (hW : DataW.Whole enc Tryd.prog Tryd.f8.params.toList Rows.fnWhereTextSpec.vars false W args.toList ds gs before) (hL : laidMetH Tryd.prog Rows.fnWhereTextRow.laid W) :
    Calls Tryd.prog 8 args W fun e W' => ∃ v, e = .returned v ∧ Rows.fnWhereTextSpec.post enc Tryd.prog Tryd.f8 false true false false W args v W' := by
  have hval : ∀ (j : Nat) t v, Tryd.f8.params[j]? = some t → args[j]? = some v → Value.okWide Tryd.prog W .any base t v := hval0
  have hW' := hW
  obtain ⟨p, q, hA0, hV, rfl, hfz, hnd⟩ := hW
  have hA : DataW.TrodAll enc Tryd.prog W 0 (fun _ => true) true Tryd.f8.params.toList args.toList ds p := hA0
  rw [Tryd.params8] at hA hval
  obtain ⟨v0, vs0, e0, ds0, p0, q0, hargs, rfl, rfl, h0, r0⟩ := trodAll_cons hA
  obtain ⟨v1, vs1, e1, ds1, p1, q1, rfl, rfl, rfl, h1, r1⟩ := trodAll_cons r0
  obtain ⟨rfl, rfl, rfl⟩ := trodAll_nil r1
  obtain rfl : args = #[v0, v1] := by cases args; simp_all
  obtain ⟨rfl, rfl⟩ := trodVars_none hV
  have k0 := h0
  have lt0 : ∀ x ∈ p0, x.block < W.heap.size := by obtain ⟨m, hm⟩ := k0; exact DataW.trod_lt m _ _ _ hm
  have k1 := h1
  have lt1 : ∀ x ∈ p1, x.block < W.heap.size := by obtain ⟨m, hm⟩ := k1; exact DataW.trod_lt m _ _ _ hm
  obtain ⟨a0, rfl, _, _, wa0⟩ := open_int Tryd.underlying3 (hval 0 3 v0 rfl rfl) h0
  obtain ⟨a1, rfl, _, _, wa1⟩ := open_int Tryd.underlying3 (hval 1 3 v1 rfl rfl) h1
  clear hA0 hval0
  refine (walk W (tabB_of hL) a0 a1 wa0 wa1).mono fun e W' ⟨he, bel⟩ => ?_
  subst he
  exact ⟨_, rfl, _, _, _, [], _, [], hW', trodAll_mk1 (shut_bool Tryd.underlying4 _), (trodAll_cons_mk (Below.trod laidOut (by kernel_rfl) (of_decide_eq_true (by kernel_rfl)) k0 bel lt0) (trodAll_cons_mk (Below.trod laidOut (by kernel_rfl) (of_decide_eq_true (by kernel_rfl)) k1 bel lt1) trodAll_mk0)), rfl, bel.frame _, fun h => by cases h⟩

theorem laid_met (os : Os) : laidMet Tryd.prog Rows.fnWhereTextRow.laid ((laidWorld os).forCall (fun _ _ => 0) ⟨#[], #[.int .i64 0, .int .i64 0], []⟩).memory :=
  laidMet_of_run' 8 (by kernel_rfl) (by kernel_rfl)
theorem reads (os : Os) {H : Type} (enc : TypeId × Value → H) : ∃ places, DataW.whole enc Tryd.prog ((laidWorld os).forCall (fun _ _ => 0) ⟨#[], #[.int .i64 0, .int .i64 0], []⟩).memory Tryd.f8.params.toList Rows.fnWhereTextSpec.vars false (#[.int .i64 0, .int .i64 0] : Array Value).toList 8 = some ([.lit (.int .i64 0), .lit (.int .i64 0)], [], places) :=
  ⟨[], by kernel_rfl⟩

set_option maxRecDepth 100000 in
theorem lifted (os : Os) (started : os.Started) (H : Type) (enc : TypeId × Value → H) (F : Stop.Interp) :
    ReturnsInHanded {} Tryd.checked os 8 .any ((OpenSpec.ofChange Rows.fnWhereTextSpec).preRow enc Tryd.prog Tryd.f8 Rows.fnWhereTextRow.domain false Rows.fnWhereTextRow.laid) (((OpenSpec.ofChange Rows.fnWhereTextSpec).at F).post enc Tryd.prog Tryd.f8 false true false false) := by
  obtain ⟨places, hx⟩ := reads os enc
  refine returnsInHanded_of_row (C := Tryd.checked) (s := OpenSpec.ofChange Rows.fnWhereTextSpec) own started (by kernel_rfl) Tryd.func8
    (witness_row_at (enc := enc) (C := Tryd.checked) false (laidWorld os) #[.int .i64 0, .int .i64 0] rfl (by kernel_rfl) (by kernel_rfl) (by kernel_rfl)
      (OpenSpec.preRow_of_cond 8 hx (by kernel_rfl) (fun k hk => by cases hk) (by kernel_rfl) (laid_met os))) ?_
  intro W base args ds gs before hval hW _ _ _ hL _ _
  exact contract H enc W base args ds gs before hval hW hL

theorem said : Rows.FnWhereTextSaid :=
  OpenClaim.holds_of_cond 8 Tryd.f8 rfl rfl rfl rfl rfl rfl rfl ⟨rfl, rfl, rfl, rfl, rfl⟩ rfl rfl rfl rfl rfl (by kernel_rfl) Tryd.func8 (by kernel_rfl)
    (of_decide_eq_true (by kernel_rfl)) (by unfold Func.isWrapper; first | (rw [if_pos (by decide +kernel)]; kernel_rfl) | (rw [if_neg (by decide +kernel)]; exact ⟨rfl, rfl⟩))
    (fun os started H enc _ F => by rw [OpenClaim.pre_eq_preRow]; exact lifted os started H enc F)

theorem plain (f : FuncId) (fn : Func) (hf : Tryd.pinned.checked.prog.funcNamed "loop.example/pub-g03340/laws.FnWhereText" = some f) (hfn : Tryd.pinned.checked.prog.funcs[f]? = some fn) :
    false = Tryd.pinned.checked.prog.looks [] ∧ ∀ (j : Nat) t, fn.params[j]? = some t → Tryd.pinned.checked.prog.wantsStandIn t = false := by
  obtain rfl : f = 8 := Option.some.inj ((show Tryd.prog.funcNamed "loop.example/pub-g03340/laws.FnWhereText" = some 8 by kernel_rfl).symm.trans hf) |>.symm
  obtain rfl : fn = Tryd.f8 := (Option.some.inj (Tryd.func8.symm.trans hfn)).symm
  refine ⟨by kernel_rfl, fun j t ht => ?_⟩
  rw [Tryd.params8] at ht
  obtain rfl : t = 3 := by simpa using Array.mem_of_getElem? ht
  exact (show Tryd.prog.wantsStandIn 3 = false by kernel_rfl)

theorem proved : Rows.FnWhereTextCardSaid :=
  Claim7.holds_tied_plain_at .later [] _ _ _ _ said (fun _ h => by cases h) (by kernel_rfl) (fun _ h => by cases h) fnWhereText_row_tie rfl ⟨rfl, rfl⟩ (by kernel_rfl) rfl plain (by kernel_rfl)
#print axioms proved
end Go.Proofs.YtmhlfipgomdiaaaDoor.fnWhereText
