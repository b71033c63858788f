/- Each general, floating point, vector and VSX register has a text of its own. It holds for every input, with no condition. -/
import Derived.Test.YtmhlfipgomdiaaaDoorCards
import Derived.Test.YtmhlfipgomdiaaaDoorTie
import Derived.Test.YtmhlfipgomdiaaaDoorLaid
import Derived.WalkKit
import Derived.WalkSpells
import Derived.WalkLawsBesides
import Derived.ProofKit
import Derived.OpenShut
import Derived.ChangeOld
import Derived.Below
import Derived.Carry
import Derived.Handy
import Derived.Lib.Hide
import Derived.Laws.Pointers
import Derived.Test.YtmhlfipgomdiaaaDoorRt
import Derived.Deep.DeepHandedRow
import Derived.Lib.LaidTab
namespace Go.Proofs.YtmhlfipgomdiaaaDoor.fnRegText
open Go.ChangeShapes Go.WideShapes Go.ChangeAt Go.RowKit Go.Joins Go.Deep
set_option linter.unusedVariables false

set_option maxRecDepth 100000 in
set_option maxHeartbeats 4000000 in
theorem walk (w : World) (a0 : Int) (a1 : Int) (wa0 : (Lit.int .i64 a0).wf = true) (wa1 : (Lit.int .i64 a1).wf = true) :
    Calls Tryd.prog 6 #[.int .i64 a0, .int .i64 a1] w fun e w' => e = .returned (.bool true) ∧ Below w.heap.size w w' := by
  have tok0 : True := trivial
  have tok1 : True := trivial
  by_cases hA : 0 ≤ a0 ∧ a0 ≤ 167
  · obtain ⟨n0, rfl⟩ := Int.eq_ofNat_of_zero_le (show 0 ≤ a0 by omega)
    have e0 : n0 ≤ 167 := by omega
    have rg0 := fun W => register_any n0 e0 W
    by_cases hB : 0 ≤ a1 ∧ a1 ≤ 167
    · obtain ⟨n1, rfl⟩ := Int.eq_ofNat_of_zero_le (show 0 ≤ a1 by omega)
      have e1 : n1 ≤ 167 := by omega
      have rg1 := fun W => register_any n1 e1 W
      have hs : 0 < (rt n0).size := rt_size n0 e0
      have hst := rt_inj n0 n1 e0 e1
      have con0 := fun W => rt_any n0 e0 W
      have con1 := fun W => rt_any n1 e1 W
      generalize rt n0 = s at *
      generalize rt n1 = t at *
      have tok2 : True := trivial
      go_enter Tryd.func6, Tryd.ntmps6
      go_wp2_with (first
        | (go_at_call 16; have _t := tok0; refine (rg0 _).mono ?_; rintro e wr0 ⟨rfl, rfl⟩; clear tok0)
        | (go_at_call 16; have _t := tok1; refine (rg1 _).mono ?_; rintro e wr1 ⟨rfl, rfl⟩; clear tok1)
        | (go_at_call 17; have _t := tok2; refine (con0 _).mono ?_; rintro e w1 ⟨rfl, hbw1⟩; clear tok2)
        | (go_at_call 17; refine (con1 _).mono ?_; rintro e w2 ⟨rfl, hbw2⟩))
      all_goals go_ret
      refine ⟨?_, Below.trans hbw1 (hbw2.mono hbw1.size)⟩
      first | exact ret_b (by rw [hst]; simp) | exact ret_b (by simp) | exact ret_b (by simp [hst])
    · have rg1 := fun W => register_out a1 (by omega) W
      go_enter Tryd.func6, Tryd.ntmps6
      go_wp2_with (first
        | (go_at_call 16; have _t := tok0; refine (rg0 _).mono ?_; rintro e wr0 ⟨rfl, rfl⟩; clear tok0)
        | (go_at_call 16; have _t := tok1; refine (rg1 _).mono ?_; rintro e wr1 ⟨rfl, rfl⟩; clear tok1))
      all_goals go_ret
      all_goals exact ⟨rfl, Below.refl _ _⟩
  · have rg0 := fun W => register_out a0 (by omega) W
    have rg1 : ∃ v b, ∀ W, Calls Tryd.prog 16 #[.int .i64 a1] W fun e w' => e = .returned (.tuple #[.int .i64 v, .bool b]) ∧ w' = W := by
      by_cases hB : 0 ≤ a1 ∧ a1 ≤ 167
      · obtain ⟨n1, rfl⟩ := Int.eq_ofNat_of_zero_le (show 0 ≤ a1 by omega)
        exact ⟨_, _, fun W => register_any n1 (by omega) W⟩
      · exact ⟨_, _, fun W => register_out a1 (by omega) W⟩
    obtain ⟨v1, b1, rg1⟩ := rg1
    go_enter Tryd.func6, Tryd.ntmps6
    go_wp2_with (first
      | (go_at_call 16; have _t := tok0; refine (rg0 _).mono ?_; rintro e wr0 ⟨rfl, rfl⟩; clear tok0)
      | (go_at_call 16; have _t := tok1; refine (rg1 _).mono ?_; rintro e wr1 ⟨rfl, rfl⟩; clear tok1))
    all_goals go_ret
    all_goals exact ⟨rfl, Below.refl _ _⟩

set_option maxRecDepth 100000 in
theorem contract (H : Type) (enc : TypeId × Value → H) (W : World) (base : Nat) (args : Array Value) (ds gs : List (DataW H)) (before : List MemPlace)
    (hval0 : ∀ (j : Nat) t v, Tryd.f6.params[j]? = some t → args[j]? = some v → Value.okWide Tryd.prog W .any base t v)
    (hW : DataW.Whole enc Tryd.prog Tryd.f6.params.toList Rows.fnRegTextSpec.vars false W args.toList ds gs before) (hL : laidMetH Tryd.prog Rows.fnRegTextRow.laid W) :
    Calls Tryd.prog 6 args W fun e W' => ∃ v, e = .returned v ∧ Rows.fnRegTextSpec.post enc Tryd.prog Tryd.f6 false true false false W args v W' := by
  have hval : ∀ (j : Nat) t v, Tryd.f6.params[j]? = some t → args[j]? = some v → Value.okWide Tryd.prog W .any base t v := hval0
  have hW' := hW
  obtain ⟨p, q, hA0, hV, rfl, hfz, hnd⟩ := hW
  have hA : DataW.TrodAll enc Tryd.prog W 0 (fun _ => true) true Tryd.f6.params.toList args.toList ds p := hA0
  rw [Tryd.params6] at hA hval
  obtain ⟨v0, vs0, e0, ds0, p0, q0, hargs, rfl, rfl, h0, r0⟩ := trodAll_cons hA
  obtain ⟨v1, vs1, e1, ds1, p1, q1, rfl, rfl, rfl, h1, r1⟩ := trodAll_cons r0
  obtain ⟨rfl, rfl, rfl⟩ := trodAll_nil r1
  obtain rfl : args = #[v0, v1] := by cases args; simp_all
  obtain ⟨rfl, rfl⟩ := trodVars_none hV
  have k0 := h0
  have lt0 : ∀ x ∈ p0, x.block < W.heap.size := by obtain ⟨m, hm⟩ := k0; exact DataW.trod_lt m _ _ _ hm
  have k1 := h1
  have lt1 : ∀ x ∈ p1, x.block < W.heap.size := by obtain ⟨m, hm⟩ := k1; exact DataW.trod_lt m _ _ _ hm
  obtain ⟨a0, rfl, _, _, wa0⟩ := open_int Tryd.underlying3 (hval 0 3 v0 rfl rfl) h0
  obtain ⟨a1, rfl, _, _, wa1⟩ := open_int Tryd.underlying3 (hval 1 3 v1 rfl rfl) h1
  clear hA0 hval0
  refine (walk W a0 a1 wa0 wa1).mono fun e W' ⟨he, bel⟩ => ?_
  subst he
  exact ⟨_, rfl, _, _, _, [], _, [], hW', trodAll_mk1 (shut_bool Tryd.underlying4 _), (trodAll_cons_mk (Below.trod laidOut (by kernel_rfl) (of_decide_eq_true (by kernel_rfl)) k0 bel lt0) (trodAll_cons_mk (Below.trod laidOut (by kernel_rfl) (of_decide_eq_true (by kernel_rfl)) k1 bel lt1) trodAll_mk0)), rfl, bel.frame _, fun h => by cases h⟩

theorem laid_met (os : Os) : laidMet Tryd.prog Rows.fnRegTextRow.laid ((laidWorld os).forCall (fun _ _ => 0) ⟨#[], #[.int .i64 0, .int .i64 0], []⟩).memory :=
  laidMet_of_run' 8 (by kernel_rfl) (by kernel_rfl)
theorem reads (os : Os) {H : Type} (enc : TypeId × Value → H) : ∃ places, DataW.whole enc Tryd.prog ((laidWorld os).forCall (fun _ _ => 0) ⟨#[], #[.int .i64 0, .int .i64 0], []⟩).memory Tryd.f6.params.toList Rows.fnRegTextSpec.vars false (#[.int .i64 0, .int .i64 0] : Array Value).toList 8 = some ([.lit (.int .i64 0), .lit (.int .i64 0)], [], places) :=
  ⟨[], by kernel_rfl⟩

set_option maxRecDepth 100000 in
theorem lifted (os : Os) (started : os.Started) (H : Type) (enc : TypeId × Value → H) (F : Stop.Interp) :
    ReturnsInHanded {} Tryd.checked os 6 .any ((OpenSpec.ofChange Rows.fnRegTextSpec).preRow enc Tryd.prog Tryd.f6 Rows.fnRegTextRow.domain false Rows.fnRegTextRow.laid) (((OpenSpec.ofChange Rows.fnRegTextSpec).at F).post enc Tryd.prog Tryd.f6 false true false false) := by
  obtain ⟨places, hx⟩ := reads os enc
  refine returnsInHanded_of_row (C := Tryd.checked) (s := OpenSpec.ofChange Rows.fnRegTextSpec) own started (by kernel_rfl) Tryd.func6
    (witness_row_at (enc := enc) (C := Tryd.checked) false (laidWorld os) #[.int .i64 0, .int .i64 0] rfl (by kernel_rfl) (by kernel_rfl) (by kernel_rfl)
      (OpenSpec.preRow_of_cond 8 hx (by kernel_rfl) (fun k hk => by cases hk) (by kernel_rfl) (laid_met os))) ?_
  intro W base args ds gs before hval hW _ _ _ hL _ _
  exact contract H enc W base args ds gs before hval hW hL

theorem said : Rows.FnRegTextSaid :=
  OpenClaim.holds_of_cond 6 Tryd.f6 rfl rfl rfl rfl rfl rfl rfl ⟨rfl, rfl, rfl, rfl, rfl⟩ rfl rfl rfl rfl rfl (by kernel_rfl) Tryd.func6 (by kernel_rfl)
    (of_decide_eq_true (by kernel_rfl)) (by unfold Func.isWrapper; first | (rw [if_pos (by decide +kernel)]; kernel_rfl) | (rw [if_neg (by decide +kernel)]; exact ⟨rfl, rfl⟩))
    (fun os started H enc _ F => by rw [OpenClaim.pre_eq_preRow]; exact lifted os started H enc F)

theorem plain (f : FuncId) (fn : Func) (hf : Tryd.pinned.checked.prog.funcNamed "loop.example/pub-g03340/laws.FnRegText" = some f) (hfn : Tryd.pinned.checked.prog.funcs[f]? = some fn) :
    false = Tryd.pinned.checked.prog.looks [] ∧ ∀ (j : Nat) t, fn.params[j]? = some t → Tryd.pinned.checked.prog.wantsStandIn t = false := by
  obtain rfl : f = 6 := Option.some.inj ((show Tryd.prog.funcNamed "loop.example/pub-g03340/laws.FnRegText" = some 6 by kernel_rfl).symm.trans hf) |>.symm
  obtain rfl : fn = Tryd.f6 := (Option.some.inj (Tryd.func6.symm.trans hfn)).symm
  refine ⟨by kernel_rfl, fun j t ht => ?_⟩
  rw [Tryd.params6] at ht
  obtain rfl : t = 3 := by simpa using Array.mem_of_getElem? ht
  exact (show Tryd.prog.wantsStandIn 3 = false by kernel_rfl)

theorem proved : Rows.FnRegTextCardSaid :=
  Claim7.holds_tied_plain_at .later [] _ _ _ _ said (fun _ h => by cases h) (by kernel_rfl) (fun _ h => by cases h) fnRegText_row_tie rfl ⟨rfl, rfl⟩ (by kernel_rfl) rfl plain (by kernel_rfl)
#print axioms proved
end Go.Proofs.YtmhlfipgomdiaaaDoor.fnRegText
