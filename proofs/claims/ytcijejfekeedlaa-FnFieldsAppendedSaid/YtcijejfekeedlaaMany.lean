/- Fields for the package: the slice that the thin package makes of a slice of fields. -/
import Derived.Test.YtcijejfekeedlaaSl
import Derived.WalkKit
import Derived.WalkSpells
import Derived.WalkLawsBesides
import Derived.Below
import Derived.Laws.Pointers
import Derived.Laws.AppendOwn
import Derived.Laws.OwnMore
import Derived.Deep.AppendLies
import Derived.OwnWalk
import Derived.Handy
import Derived.Lib.Hide
import Derived.LoopTactic
namespace Go.Proofs.Ytcijejfekeedlaa
open Go.RowKit

theorem infoB : (Try.prog.info? 49).map (fun i => (i.zero, i.size, i.bytes)) = some (some (.agg #[.int .u8 0, .int .u8 0, .int .u8 0]), 3, 3) := by kernel_rfl

/-- The cells of fields, one behind the other. -/
def flat (kd : IntKind) (l : List Fld) : List Value := l.flatMap fun f => [.int kd f.o, .int kd f.b, .int kd f.w]
theorem flat_snoc (kd : IntKind) (l : List Fld) (f : Fld) : flat kd (l ++ [f]) = flat kd l ++ [.int kd f.o, .int kd f.b, .int kd f.w] := by simp [flat]
theorem flat_length (kd : IntKind) (l : List Fld) : (flat kd l).length = l.length * 3 := by
  induction l with
  | nil => rfl
  | cons f l ih => simp only [flat, List.flatMap_cons, List.length_append, List.length_cons, List.length_nil] at *; omega
theorem flat_get (kd : IntKind) : ∀ (l : List Fld) (k : Nat) (f : Fld), l[k]? = some f → (flat kd l)[k * 3]? = some (.int kd f.o) ∧ (flat kd l)[k * 3 + 1]? = some (.int kd f.b) ∧ (flat kd l)[k * 3 + 2]? = some (.int kd f.w)
  | [], k, f, h => by simp at h
  | g :: l, 0, f, h => by
    simp at h
    subst h
    simp [flat]
  | g :: l, k + 1, f, h => by
    simp only [List.getElem?_cons_succ] at h
    have := flat_get kd l k f h
    simp only [flat, List.flatMap_cons] at *
    rw [show (k + 1) * 3 = k * 3 + 3 by omega]
    simpa [List.getElem?_append, show ¬ k * 3 + 3 < 3 by omega, show ¬ k * 3 + 3 + 1 < 3 by omega, show ¬ k * 3 + 3 + 2 < 3 by omega] using this

/-- What a slice of the call's own says of its cells. -/
theorem FRow.of_own {kd : IntKind} {W : World} {base : Nat} {e : TypeId} {A : Option Addr} {n c : Nat} {fs : List Fld} (hn : n = fs.length) (h : W.ownsRow base e 3 (.slice A n c) n (flat kd fs)) : FRow kd W A fs := by
  intro hne
  have hpos : 0 < n := by
    rw [hn]
    exact List.length_pos_iff.2 hne
  obtain ⟨g, cap, hv, _, hlt⟩ := h.form hpos
  have hA : A = some ⟨g, 0, none⟩ := by injection hv
  subst hA
  refine ⟨g, 0, rfl, hlt, fun k f hf => ?_⟩
  obtain ⟨q0, q1, q2⟩ := flat_get kd fs k f hf
  have ad : ∀ j, (⟨g, 0, none⟩ : Addr).add j = ⟨g, j, none⟩ := by
    intro j
    by_cases hj : j = 0 <;> simp [Addr.add, hj]
  have c0 := h.cells (g := g) rfl _ _ q0
  have c1 := h.cells (g := g) rfl _ _ q1
  have c2 := h.cells (g := g) rfl _ _ q2
  rw [ad] at c0 c1 c2
  simpa [Nat.add_assoc] using ⟨c0, c1, c2⟩

theorem own_below {W W' : World} {base : Nat} {e : TypeId} {size n : Nat} {v : Value} {xs : List Value} (h : W.ownsRow base e size v n xs) (hb : Below W.heap.size W W') : W'.ownsRow base e size v n xs :=
  h.kept (row := none) ⟨hb.os, hb.tape, hb.output, hb.size, fun i hi _ => hb.block i hi⟩ (Classical.em _)

/-- The call ends with a slice of these fields, in memory of its own. -/
def ManyPost (fs : List Fld) (w : World) (e : Ending) (w' : World) : Prop :=
  ∃ v, e = .returned v ∧ w'.ownsRow w.heap.size 49 3 v fs.length (flat .u8 fs) ∧ Below w.heap.size w w'

set_option maxRecDepth 100000 in
set_option maxHeartbeats 2000000 in
theorem many_any (fs : List Fld) (A : Option Addr) (c : Nat) (w : World) (hn : fs.length ≤ 64) (hr : FRow .i64 w A fs) (hall : allR fs = true) :
    Calls Try.prog 30 #[.slice A fs.length c] w (ManyPost fs w) := by
  have Hall := Lib.hid hall
  clear hall
  obtain ⟨i0, hi, hz0, hz1, hz2⟩ := info_parts infoB
  go_enter Try.func30, Try.ntmps30
  go_wp2
  go_loopw [3, 8] (fun v i wr => ∃ k : Nat, k ≤ fs.length ∧ i = .int .i64 k ∧ wr.ownsRow w.heap.size 49 3 v k (flat .u8 (fs.take k)) ∧ Below w.heap.size w wr) (fun _ i _ => fs.length - (intOf i).toNat)
  case atStart => exact ⟨0, Nat.zero_le _, rfl, by simp [World.ownsRow, flat], Below.refl _ _⟩
  case round =>
    obtain ⟨k, hk, rfl, hown, hbel⟩ := hrel
    by_cases hlt : k < fs.length
    · obtain ⟨f, hf⟩ : ∃ f, fs[k]? = some f := ⟨_, List.getElem?_eq_getElem hlt⟩
      obtain ⟨bl, off, rfl, hbl, hcell⟩ := (hr.below hbel) (by rintro rfl; simp at hlt)
      obtain ⟨h0, h1, h2⟩ := hcell k f hf
      clear hcell
      have hfr := frb_spec (allR_get Hall.out hf)
      go_wp2_with (first
        | (go_at_call 27; refine (bits_any f.o f.b f.w (by omega) (by omega) (by omega) (by omega) (by omega) (by omega) _).mono ?_; rintro e w1 ⟨rfl, hb1⟩; have hown1 := own_below (hown.alloc _) hb1; have hs1 : w.heap.size ≤ w1.heap.size := (by have a1 := hbel.size; have a2 := hb1.size; simp at a2; omega))
        | (at_builtin; refine wpList_append_own _ rfl _ _ 54 rfl w.heap.size 49 i0 _ 3 3 Try.underlying54 hi hz0 hz1 hz2 rfl (by decide) _ k _ rfl (hown1.alloc _) ⟨w1.heap.size, 0, none⟩ 1 1 [.int .u8 f.o, .int .u8 f.b, .int .u8 f.w] rfl rfl (World.news_of_block (cs := #[.int .u8 f.o, .int .u8 f.b, .int .u8 f.w]) (t := 49) (fr := (0, 0)) (heap_alloc_new w1 _)) (by simp [Value.oneCell']) (by unfold maxLen; omega) (by omega) (by simp; omega) ?_; intro v' w2 hown2 hg2 _))
      go_roundw
      case rel =>
        refine ⟨k + 1, by omega, by go_num, by rw [take_snoc fs k f hf, flat_snoc]; exact hown2, ?_⟩
        refine Below.grown (Below.alloc (Below.trans (hbel.alloc hbel.size _) (hb1.mono (by have a1 := hbel.size; simp; omega))) hs1 _) hg2 (by simp; omega) (fun g hg => (hown1.lt g hg).1)
      case measure => simp [intOf]; omega
    · obtain rfl : k = fs.length := by omega
      rw [List.take_length] at hown
      go_wp2
      go_ret
      exact ⟨_, rfl, hown, hbel⟩
end Go.Proofs.Ytcijejfekeedlaa
