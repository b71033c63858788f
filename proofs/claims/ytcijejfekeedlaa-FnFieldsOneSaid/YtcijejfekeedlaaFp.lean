/- The thin package's FieldParse: a field is told, or its panic is recovered. -/
import Derived.Test.YtcijejfekeedlaaCore
import Derived.WalkKit
import Derived.WalkSpells
import Derived.WalkLawsBesides
import Derived.Below
import Derived.Defers
import Derived.Recover
import Derived.BigQuiet
import Derived.Deep.QuietTactic
import Derived.Deep.RegionWith
import Derived.Deep.RegionHeld3
import Derived.Laws.Pointers
import Derived.Handy
namespace Go.Proofs.Ytcijejfekeedlaa
open Go.RowKit

theorem catch_Parse_panicking (B : Nat) (x : Int) (y : Bool) (u : TypeId) (pv : Value) (older : List PanicEntry) (w : World) (hc : w.cell? ⟨B, 0, none⟩ = some (.int .u32 x)) (hz : w.frozen? ⟨B, 0, none⟩ = false)
    (hd : w.cell? ⟨B + 1, 0, none⟩ = some (.bool y)) (hy : w.frozen? ⟨B + 1, 0, none⟩ = false) :
    CallsD Try.prog 26 #[.pointer (some ⟨B, 0, none⟩), .pointer (some ⟨B + 1, 0, none⟩)] (.panicking ({ v := .iface u pv, recovered := false } :: older)) w fun e u' w' =>
      e = .returned (.tuple #[]) ∧ u' = .panicking ({ v := .iface u pv, recovered := true } :: older) ∧ w' = (w.setCell ⟨B, 0, none⟩ (.int .u32 0)).setCell ⟨B + 1, 0, none⟩ (.bool false) := by
  refine callsD_of_wpS Try.func26 rfl fun c₀ cs hu => ?_
  apply wpS_seq
  apply wpS_region
  simp [wpOpsS, go_sem, recoverD, hu, Try.ntmps26, Exit.thenS]
  refine wpS_cond (t := true) (by simp [Act.eval, Array.replicate]) ?_
  simp only [if_true]
  apply wpS_region
  simp [wpOpsS, go_sem, hc, hz, hd, hy, bodyPostS, results, Try.results26]

theorem catch_Parse_idle (p q : Addr) (w : World) :
    CallsD Try.prog 26 #[.pointer (some p), .pointer (some q)] .returning w fun e u' w' => e = .returned (.tuple #[]) ∧ u' = .returning ∧ w' = w := by
  refine callsD_of_wpS Try.func26 rfl fun c₀ cs hu => ?_
  apply wpS_seq
  apply wpS_region
  simp [wpOpsS, go_sem, recoverD, hu, Try.ntmps26, Exit.thenS]
  refine wpS_cond (t := false) (by simp [Act.eval, Array.replicate]) ?_
  simp only [Bool.false_eq_true, if_false]
  refine wpS_of_wp (wp_skip ?_)
  cases c₀
  simp_all [bodyPostS, results, Try.results26]

set_option maxHeartbeats 2000000 in
theorem fieldParse_ok (o b wd x0 x1 : Int) (ho : 0 ≤ o) (hb : 1 ≤ b) (hob : o + b ≤ 32) (hw : 0 ≤ wd) (hw' : wd ≤ 1) (hx0 : 0 ≤ x0) (hx0' : x0 < 4294967296) (hx1 : 0 ≤ x1) (hx1' : x1 < 4294967296) (w : World) :
    Calls Try.prog 14 #[.agg #[.int .i64 o, .int .i64 b, .int .i64 wd], .agg #[.int .u32 x0, .int .u32 x1]] w fun e w' => e = .returned (.tuple #[.int .u32 (fv (ws x0 x1 wd) o b), .bool true]) ∧ Below w.heap.size w w' := by
  have hmf : ∀ (fn : Fn) (first cap : Array Value) (w : World), (Instr.makeFunc fn first cap).run Try.prog w = .ok (.func fn first cap) w := fun _ _ _ _ => rfl
  go_enter_defers Try.func14, Try.ntmps14
  go_wp2_with fail
  go_region_with (first
    | (go_at_call 27; refine (bits_any o b wd ho (by omega) (by omega) (by omega) hw (by omega) _).mono ?_; rintro e w1 ⟨rfl, hbel⟩; obtain ⟨hc, hf, hs, hl⟩ := bcellN (w.heap.size + 4) hbel (by first | assumption | (simp; done) | (simp; omega) | omega))
    | (go_at_call 28; refine (parse_ok o b wd x0 x1 ho hb hob hw hw' hx0 hx0' hx1 hx1' _).mono ?_; rintro e w2 ⟨rfl, hbel'⟩; obtain ⟨hc', hf', hs', hl'⟩ := bcellN (w.heap.size + 4) hbel' (by first | assumption | (simp; done) | (simp; omega) | omega)))
  all_goals
    go_wp2
    refine leaves_cons (f := 26) (args := #[.pointer (some ⟨w.heap.size + 2, 0, none⟩), .pointer (some ⟨w.heap.size + 3, 0, none⟩)]) (by simp) (by simp [go_sem]) ?_
    refine (catch_Parse_idle _ _ _).mono ?_
    rintro e u' w'' ⟨rfl, rfl, rfl⟩
    simp [Leaves, settle, results, Try.results14, go_sem, hc, hc']
  all_goals
    repeat' (first | (with_reducible exact Below.refl _ _) | (with_reducible refine Below.setCell ?_ ?_ _) | (with_reducible refine Below.drew ?_) | (with_reducible refine Below.alloc ?_ ?_ _) | (with_reducible refine Below.trans ?_ (hbel'.mono ?_)) | (with_reducible refine Below.trans ?_ (hbel.mono ?_)) | (simp; done) | (simp; omega) | omega)

set_option maxHeartbeats 2000000 in
theorem fieldParse_panic (o b wd x0 x1 : Int) (ho : 0 ≤ o) (ho' : o ≤ 31) (hb : 1 ≤ b) (hb' : b ≤ 32) (hob : 32 < o + b) (hw : 0 ≤ wd) (hw' : wd ≤ 1) (w : World) :
    Calls Try.prog 14 #[.agg #[.int .i64 o, .int .i64 b, .int .i64 wd], .agg #[.int .u32 x0, .int .u32 x1]] w fun e w' => e = .returned (.tuple #[.int .u32 0, .bool false]) ∧ Below w.heap.size w w' := by
  have hmf : ∀ (fn : Fn) (first cap : Array Value) (w : World), (Instr.makeFunc fn first cap).run Try.prog w = .ok (.func fn first cap) w := fun _ _ _ _ => rfl
  go_enter_defers Try.func14, Try.ntmps14
  go_wp2_with fail
  refine wp_region_any (by kernel_rfl) ?_
  change wpAny _ _ _ _ _ _ _ (World.drew _)
  refine wpAny_ready (rs := [0, 2]) (by kernel_rfl) (by simp) ?_
  refine AllReady.cons rfl (fun K hK => ?_) (AllReady.cons rfl (fun K hK => ?_) (AllReady.nil))
  · go_simp
    refine hK _ _ ?_
    clear hK K
    refine wpAny_ready (rs := [1, 2]) (by kernel_rfl) (by simp) ?_
    refine AllReady.cons rfl (fun K hK => ?_) (AllReady.cons rfl (fun K hK => ?_) (AllReady.nil))
    · go_simp
      go_wp2_with (first | (go_at_call 27; refine (bits_any o b wd ho (by omega) (by omega) (by omega) hw (by omega) _).mono ?_; rintro e w1 ⟨rfl, hbel⟩; obtain ⟨hc, hf, hs, hl⟩ := bcellN (w.heap.size + 4) hbel (by first | assumption | (simp; done) | (simp; omega) | omega)))
      refine wpAny_ready (rs := [2]) (by kernel_rfl) (by simp) ?_
      refine AllReady.cons rfl (fun K hK => ?_) (AllReady.nil)
      · go_simp
        refine hK _ _ ?_
        clear hK K
        refine wpAny_ready (rs := [3]) (by kernel_rfl) (by simp) ?_
        refine AllReady.cons rfl (fun K hK => ?_) (AllReady.nil)
        · go_simp
          go_wp2_with (first | (go_at_call 28; refine (parse_panic o b wd x0 x1 ho ho' hb hb' hob _).mono ?_; rintro e w2 ⟨⟨v, rfl⟩, hbel'⟩; obtain ⟨hc', hf', hs', hl'⟩ := bcellN (w.heap.size + 4) hbel' (by first | assumption | (simp; done) | (simp; omega) | omega)))
          refine leaves_cons (f := 26) (args := #[.pointer (some ⟨w.heap.size + 2, 0, none⟩), .pointer (some ⟨w.heap.size + 2 + 1, 0, none⟩)]) (by simp) (by simp [go_sem]) ?_
          refine (catch_Parse_panicking (w.heap.size + 2) 0 false _ _ [] _ (by simp [go_sem, hc, hc']) (by simp [go_sem, hf, hf']) (by simp [go_sem, hc, hc']) (by simp [go_sem, hf, hf'])).mono ?_
          rintro e u' w'' ⟨rfl, rfl, rfl⟩
          simp [Leaves, settle, results, Try.results14, go_sem, hc, hc']
          repeat' (first | (with_reducible exact Below.refl _ _) | (with_reducible refine Below.setCell ?_ ?_ _) | (with_reducible refine Below.drew ?_) | (with_reducible refine Below.alloc ?_ ?_ _) | (with_reducible refine Below.trans ?_ (hbel'.mono ?_)) | (with_reducible refine Below.trans ?_ (hbel.mono ?_)) | (simp; done) | (simp; omega) | omega)
    · go_simp
      refine hK _ _ ?_
      clear hK K
      refine wpAny_ready (rs := [1]) (by kernel_rfl) (by simp) ?_
      refine AllReady.cons rfl (fun K hK => ?_) (AllReady.nil)
      · go_simp
        go_wp2_with (first | (go_at_call 27; refine (bits_any o b wd ho (by omega) (by omega) (by omega) hw (by omega) _).mono ?_; rintro e w1 ⟨rfl, hbel⟩; obtain ⟨hc, hf, hs, hl⟩ := bcellN (w.heap.size + 4) hbel (by first | assumption | (simp; done) | (simp; omega) | omega)))
        refine wpAny_ready (rs := [3]) (by kernel_rfl) (by simp) ?_
        refine AllReady.cons rfl (fun K hK => ?_) (AllReady.nil)
        · go_simp
          go_wp2_with (first | (go_at_call 28; refine (parse_panic o b wd x0 x1 ho ho' hb hb' hob _).mono ?_; rintro e w2 ⟨⟨v, rfl⟩, hbel'⟩; obtain ⟨hc', hf', hs', hl'⟩ := bcellN (w.heap.size + 4) hbel' (by first | assumption | (simp; done) | (simp; omega) | omega)))
          refine leaves_cons (f := 26) (args := #[.pointer (some ⟨w.heap.size + 2, 0, none⟩), .pointer (some ⟨w.heap.size + 2 + 1, 0, none⟩)]) (by simp) (by simp [go_sem]) ?_
          refine (catch_Parse_panicking (w.heap.size + 2) 0 false _ _ [] _ (by simp [go_sem, hc, hc']) (by simp [go_sem, hf, hf']) (by simp [go_sem, hc, hc']) (by simp [go_sem, hf, hf'])).mono ?_
          rintro e u' w'' ⟨rfl, rfl, rfl⟩
          simp [Leaves, settle, results, Try.results14, go_sem, hc, hc']
          repeat' (first | (with_reducible exact Below.refl _ _) | (with_reducible refine Below.setCell ?_ ?_ _) | (with_reducible refine Below.drew ?_) | (with_reducible refine Below.alloc ?_ ?_ _) | (with_reducible refine Below.trans ?_ (hbel'.mono ?_)) | (with_reducible refine Below.trans ?_ (hbel.mono ?_)) | (simp; done) | (simp; omega) | omega)
  · go_simp
    refine hK _ _ ?_
    clear hK K
    refine wpAny_ready (rs := [0]) (by kernel_rfl) (by simp) ?_
    refine AllReady.cons rfl (fun K hK => ?_) (AllReady.nil)
    · go_simp
      refine hK _ _ ?_
      clear hK K
      refine wpAny_ready (rs := [1]) (by kernel_rfl) (by simp) ?_
      refine AllReady.cons rfl (fun K hK => ?_) (AllReady.nil)
      · go_simp
        go_wp2_with (first | (go_at_call 27; refine (bits_any o b wd ho (by omega) (by omega) (by omega) hw (by omega) _).mono ?_; rintro e w1 ⟨rfl, hbel⟩; obtain ⟨hc, hf, hs, hl⟩ := bcellN (w.heap.size + 4) hbel (by first | assumption | (simp; done) | (simp; omega) | omega)))
        refine wpAny_ready (rs := [3]) (by kernel_rfl) (by simp) ?_
        refine AllReady.cons rfl (fun K hK => ?_) (AllReady.nil)
        · go_simp
          go_wp2_with (first | (go_at_call 28; refine (parse_panic o b wd x0 x1 ho ho' hb hb' hob _).mono ?_; rintro e w2 ⟨⟨v, rfl⟩, hbel'⟩; obtain ⟨hc', hf', hs', hl'⟩ := bcellN (w.heap.size + 4) hbel' (by first | assumption | (simp; done) | (simp; omega) | omega)))
          refine leaves_cons (f := 26) (args := #[.pointer (some ⟨w.heap.size + 2, 0, none⟩), .pointer (some ⟨w.heap.size + 2 + 1, 0, none⟩)]) (by simp) (by simp [go_sem]) ?_
          refine (catch_Parse_panicking (w.heap.size + 2) 0 false _ _ [] _ (by simp [go_sem, hc, hc']) (by simp [go_sem, hf, hf']) (by simp [go_sem, hc, hc']) (by simp [go_sem, hf, hf'])).mono ?_
          rintro e u' w'' ⟨rfl, rfl, rfl⟩
          simp [Leaves, settle, results, Try.results14, go_sem, hc, hc']
          repeat' (first | (with_reducible exact Below.refl _ _) | (with_reducible refine Below.setCell ?_ ?_ _) | (with_reducible refine Below.drew ?_) | (with_reducible refine Below.alloc ?_ ?_ _) | (with_reducible refine Below.trans ?_ (hbel'.mono ?_)) | (with_reducible refine Below.trans ?_ (hbel.mono ?_)) | (simp; done) | (simp; omega) | omega)
end Go.Proofs.Ytcijejfekeedlaa
