/- Fields at the seat of the texts: what a slice of them holds, how one opens. -/
import Derived.Test.YtmhlfipgomdiaaaDoorDec
import Derived.Defers
import Derived.Recover
import Derived.BigQuiet
import Derived.Deep.QuietTactic
import Derived.Deep.RegionHeld3
import Derived.Deep.RegionWith
import Derived.OpenShut
import Derived.Laws.AppendOwn
import Derived.Laws.OwnMore
import Derived.Deep.AppendLies
import Derived.Deep.Slices
import Derived.Deep.Fields
import Derived.ProofKit
import Derived.ChangeOld
import Derived.LoopTactic
import Derived.WalkKit
import Derived.WalkSpells
import Derived.WalkLawsBesides
import Derived.Below
import Derived.Laws.Pointers
import Derived.OwnWalk
import Derived.Handy
import Derived.Lib.Hide
import Derived.Test.YtmhlfipgomdiaaaDoorShelf
import Derived.Laws.BitsAllLaws
namespace Go.Proofs.YtmhlfipgomdiaaaDoor
open Go.RowKit Go.ChangeShapes Go.WideShapes Go.ChangeAt Go.Joins Go.Deep

theorem bcell {W w1 : World} (hb : Below W.heap.size W w1) : (∀ b o, b < W.heap.size → w1.cell? ⟨b, o, none⟩ = W.cell? ⟨b, o, none⟩) ∧ (∀ b o, b < W.heap.size → w1.frozen? ⟨b, o, none⟩ = W.frozen? ⟨b, o, none⟩) :=
  ⟨fun b o h => hb.cell (p := ⟨b, o, none⟩) h, fun b o h => hb.frozen (p := ⟨b, o, none⟩) h⟩
theorem bcellN {W w1 : World} (n : Nat) (hb : Below W.heap.size W w1) (hn : n ≤ W.heap.size) : (∀ b o, b < n → w1.cell? ⟨b, o, none⟩ = W.cell? ⟨b, o, none⟩) ∧ (∀ b o, b < n → w1.frozen? ⟨b, o, none⟩ = W.frozen? ⟨b, o, none⟩) ∧ n ≤ w1.heap.size ∧ (∀ b, b < n → b < w1.heap.size) :=
  ⟨fun b o h => hb.cell (p := ⟨b, o, none⟩) (Nat.lt_of_lt_of_le h hn), fun b o h => hb.frozen (p := ⟨b, o, none⟩) (Nat.lt_of_lt_of_le h hn), Nat.le_trans hn hb.size, fun _ h => Nat.lt_of_lt_of_le h (Nat.le_trans hn hb.size)⟩
theorem below_drewN {B : Nat} {a w : World} (h : Below B a w) (n : Nat) : Below B a (w.drewN n) := ⟨h.os, h.tape, h.output, h.size, h.block⟩
theorem bits_any (o b wd : Int) (ho : 0 ≤ o) (ho' : o ≤ 255) (hb : 0 ≤ b) (hb' : b ≤ 255) (hw : 0 ≤ wd) (hw' : wd ≤ 255) (w : World) :
    Calls Tryd.prog 34 #[.agg #[.int .i64 o, .int .i64 b, .int .i64 wd]] w fun e w' => e = .returned (.agg #[.int .u8 o, .int .u8 b, .int .u8 wd]) ∧ Below w.heap.size w w' := by
  have e1 : IntKind.u8.wrap o = o := IntWalk.u8_in _ (by omega)
  have e2 : IntKind.u8.wrap b = b := IntWalk.u8_in _ (by omega)
  have e3 : IntKind.u8.wrap wd = wd := IntWalk.u8_in _ (by omega)
  go_enter Tryd.func34, Tryd.ntmps34
  go_wp2
  refine bodyPost_ret (v := .agg #[.int .u8 o, .int .u8 b, .int .u8 wd]) (by simp [results, Tryd.results34, go_sem]) rfl ⟨rfl, ?_⟩
  go_grown
/-- Does a field lie within a word? -/
def frb (o b wd : Int) : Bool := decide (1 ≤ b ∧ b ≤ 32 ∧ 0 ≤ o ∧ o ≤ 31 ∧ o + b ≤ 32 ∧ 0 ≤ wd ∧ wd ≤ 1)
theorem ret_bool {a b : Bool} (h : a = b) : Ending.returned (.bool a) = .returned (.bool b) := by rw [h]
theorem right_any (o b wd : Int) (w : World) :
    Calls Tryd.prog 22 #[.agg #[.int .i64 o, .int .i64 b, .int .i64 wd]] w fun e w' => e = .returned (.bool (frb o b wd)) ∧ Below w.heap.size w w' := by
  go_enter Tryd.func22, Tryd.ntmps22
  go_wp2
  all_goals go_ret
  all_goals refine ⟨ret_bool ?_, by go_grown⟩
  all_goals (rw [Bool.eq_iff_iff]; simp [frb]; omega)
/-- A field: where it begins, its bits, its word. -/
structure Fld where
  o : Int
  b : Int
  w : Int
/-- The cells behind a slice of fields. -/
def FRow (kd : IntKind) (W : World) (A : Option Addr) (fs : List Fld) : Prop :=
  fs ≠ [] → ∃ bl off, A = some ⟨bl, off, none⟩ ∧ bl < W.heap.size ∧ ∀ (k : Nat) (f : Fld), fs[k]? = some f →
    W.cell? ⟨bl, off + k * 3, none⟩ = some (.int kd f.o) ∧ W.cell? ⟨bl, off + k * 3 + 1, none⟩ = some (.int kd f.b) ∧ W.cell? ⟨bl, off + k * 3 + 2, none⟩ = some (.int kd f.w)
theorem FRow.below {kd : IntKind} {W W' : World} {A : Option Addr} {fs : List Fld} (h : FRow kd W A fs) (hb : Below W.heap.size W W') : FRow kd W' A fs := by
  intro hne
  obtain ⟨bl, off, hA, hlt, hc⟩ := h hne
  refine ⟨bl, off, hA, Nat.lt_of_lt_of_le hlt hb.size, fun k f hf => ?_⟩
  obtain ⟨h0, h1, h2⟩ := hc k f hf
  exact ⟨(hb.cell (p := ⟨bl, off + k * 3, none⟩) hlt).trans h0, (hb.cell (p := ⟨bl, off + k * 3 + 1, none⟩) hlt).trans h1, (hb.cell (p := ⟨bl, off + k * 3 + 2, none⟩) hlt).trans h2⟩
def allR (fs : List Fld) : Bool := fs.all fun f => frb f.o f.b f.w
theorem take_snoc {α : Type} (l : List α) (k : Nat) (f : α) (h : l[k]? = some f) : l.take (k + 1) = l.take k ++ [f] := by
  obtain ⟨hk, rfl⟩ := List.getElem?_eq_some_iff.1 h
  exact List.take_succ_eq_append_getElem hk
theorem frb_spec {o b w : Int} (h : frb o b w = true) : 1 ≤ b ∧ b ≤ 32 ∧ 0 ≤ o ∧ o ≤ 31 ∧ o + b ≤ 32 ∧ 0 ≤ w ∧ w ≤ 1 := by simpa [frb] using h
theorem allR_get {l : List Fld} (h : allR l = true) {k : Nat} {f : Fld} (hf : l[k]? = some f) : frb f.o f.b f.w = true := by
  rw [allR, List.all_eq_true] at h
  exact h f (List.mem_of_getElem? hf)
theorem infoB : (Tryd.prog.info? 48).map (fun i => (i.zero, i.size, i.bytes)) = some (some (.agg #[.int .u8 0, .int .u8 0, .int .u8 0]), 3, 3) := by kernel_rfl
/-- The cells of fields, one behind the other. -/
def flat (kd : IntKind) (l : List Fld) : List Value := l.flatMap fun f => [.int kd f.o, .int kd f.b, .int kd f.w]
theorem flat_snoc (kd : IntKind) (l : List Fld) (f : Fld) : flat kd (l ++ [f]) = flat kd l ++ [.int kd f.o, .int kd f.b, .int kd f.w] := by simp [flat]
theorem flat_length (kd : IntKind) (l : List Fld) : (flat kd l).length = l.length * 3 := by
  induction l with
  | nil => rfl
  | cons f l ih => simp only [flat, List.flatMap_cons, List.length_append, List.length_cons, List.length_nil] at *; omega
theorem flat_get (kd : IntKind) : ∀ (l : List Fld) (k : Nat) (f : Fld), l[k]? = some f → (flat kd l)[k * 3]? = some (.int kd f.o) ∧ (flat kd l)[k * 3 + 1]? = some (.int kd f.b) ∧ (flat kd l)[k * 3 + 2]? = some (.int kd f.w)
  | [], k, f, h => by simp at h
  | g :: l, 0, f, h => by
    simp at h
    subst h
    simp [flat]
  | g :: l, k + 1, f, h => by
    simp only [List.getElem?_cons_succ] at h
    have := flat_get kd l k f h
    simp only [flat, List.flatMap_cons] at *
    rw [show (k + 1) * 3 = k * 3 + 3 by omega]
    simpa [List.getElem?_append, show ¬ k * 3 + 3 < 3 by omega, show ¬ k * 3 + 3 + 1 < 3 by omega, show ¬ k * 3 + 3 + 2 < 3 by omega] using this
/-- What a slice of the call's own says of its cells. -/
theorem FRow.of_own {kd : IntKind} {W : World} {base : Nat} {e : TypeId} {A : Option Addr} {n c : Nat} {fs : List Fld} (hn : n = fs.length) (h : W.ownsRow base e 3 (.slice A n c) n (flat kd fs)) : FRow kd W A fs := by
  intro hne
  have hpos : 0 < n := by
    rw [hn]
    exact List.length_pos_iff.2 hne
  obtain ⟨g, cap, hv, _, hlt⟩ := h.form hpos
  have hA : A = some ⟨g, 0, none⟩ := by injection hv
  subst hA
  refine ⟨g, 0, rfl, hlt, fun k f hf => ?_⟩
  obtain ⟨q0, q1, q2⟩ := flat_get kd fs k f hf
  have ad : ∀ j, (⟨g, 0, none⟩ : Addr).add j = ⟨g, j, none⟩ := by
    intro j
    by_cases hj : j = 0 <;> simp [Addr.add, hj]
  have c0 := h.cells (g := g) rfl _ _ q0
  have c1 := h.cells (g := g) rfl _ _ q1
  have c2 := h.cells (g := g) rfl _ _ q2
  rw [ad] at c0 c1 c2
  simpa [Nat.add_assoc] using ⟨c0, c1, c2⟩
theorem own_below {W W' : World} {base : Nat} {e : TypeId} {size n : Nat} {v : Value} {xs : List Value} (h : W.ownsRow base e size v n xs) (hb : Below W.heap.size W W') : W'.ownsRow base e size v n xs :=
  h.kept (row := none) ⟨hb.os, hb.tape, hb.output, hb.size, fun i hi _ => hb.block i hi⟩ (Classical.em _)
/-- The call ends with a slice of these fields, in memory of its own. -/
def ManyPost (fs : List Fld) (w : World) (e : Ending) (w' : World) : Prop :=
  ∃ v, e = .returned v ∧ w'.ownsRow w.heap.size 48 3 v fs.length (flat .u8 fs) ∧ Below w.heap.size w w'
set_option maxRecDepth 100000 in
set_option maxHeartbeats 2000000 in
theorem many_any (fs : List Fld) (A : Option Addr) (c : Nat) (w : World) (hn : fs.length ≤ 64) (hr : FRow .i64 w A fs) (hall : allR fs = true) :
    Calls Tryd.prog 36 #[.slice A fs.length c] w (ManyPost fs w) := by
  have Hall := Lib.hid hall
  clear hall
  obtain ⟨i0, hi, hz0, hz1, hz2⟩ := info_parts infoB
  go_enter Tryd.func36, Tryd.ntmps36
  go_wp2
  go_loopw [3, 8] (fun v i wr => ∃ k : Nat, k ≤ fs.length ∧ i = .int .i64 k ∧ wr.ownsRow w.heap.size 48 3 v k (flat .u8 (fs.take k)) ∧ Below w.heap.size w wr) (fun _ i _ => fs.length - (intOf i).toNat)
  case atStart => exact ⟨0, Nat.zero_le _, rfl, by simp [World.ownsRow, flat], Below.refl _ _⟩
  case round =>
    obtain ⟨k, hk, rfl, hown, hbel⟩ := hrel
    by_cases hlt : k < fs.length
    · obtain ⟨f, hf⟩ : ∃ f, fs[k]? = some f := ⟨_, List.getElem?_eq_getElem hlt⟩
      obtain ⟨bl, off, rfl, hbl, hcell⟩ := (hr.below hbel) (by rintro rfl; simp at hlt)
      obtain ⟨h0, h1, h2⟩ := hcell k f hf
      clear hcell
      have hfr := frb_spec (allR_get Hall.out hf)
      go_wp2_with (first
        | (go_at_call 34; refine (bits_any f.o f.b f.w (by omega) (by omega) (by omega) (by omega) (by omega) (by omega) _).mono ?_; rintro e w1 ⟨rfl, hb1⟩; have hown1 := own_below (hown.alloc _) hb1; have hs1 : w.heap.size ≤ w1.heap.size := (by have a1 := hbel.size; have a2 := hb1.size; simp at a2; omega))
        | (at_builtin; refine wpList_append_own _ rfl _ _ 51 rfl w.heap.size 48 i0 _ 3 3 Tryd.underlying51 hi hz0 hz1 hz2 rfl (by decide) _ k _ rfl (hown1.alloc _) ⟨w1.heap.size, 0, none⟩ 1 1 [.int .u8 f.o, .int .u8 f.b, .int .u8 f.w] rfl rfl (World.news_of_block (cs := #[.int .u8 f.o, .int .u8 f.b, .int .u8 f.w]) (t := 48) (fr := (0, 0)) (heap_alloc_new w1 _)) (by simp [Value.oneCell']) (by unfold maxLen; omega) (by omega) (by simp; omega) ?_; intro v' w2 hown2 hg2 _))
      go_roundw
      case rel =>
        refine ⟨k + 1, by omega, by go_num, by rw [take_snoc fs k f hf, flat_snoc]; exact hown2, ?_⟩
        refine Below.grown (Below.alloc (Below.trans (hbel.alloc hbel.size _) (hb1.mono (by have a1 := hbel.size; simp; omega))) hs1 _) hg2 (by simp; omega) (fun g hg => (hown1.lt g hg).1)
      case measure => simp [intOf]; omega
    · obtain rfl : k = fs.length := by omega
      rw [List.take_length] at hown
      go_wp2
      go_ret
      exact ⟨_, rfl, hown, hbel⟩
theorem own_slice {W : World} {base : Nat} {e : TypeId} {v : Value} {n : Nat} {xs : List Value} (h : W.ownsRow base e 3 v n xs) : ∃ A c, v = .slice A n c := by
  rcases h.2 with ⟨rfl, rfl⟩ | ⟨g, cap, cur, rfl, _⟩
  · exact ⟨_, _, rfl⟩
  · exact ⟨_, _, rfl⟩
theorem cellsF : Tryd.prog.cellsOf 29 = 3 := by kernel_rfl
theorem cellsI : Tryd.prog.cellsOf 3 = 1 := by kernel_rfl
theorem open_fld {H : Type} {enc : TypeId × Value → H} {W : World} {base : Nat} {sp : Nat → Bool} {hd : Bool} {v : Value} {d : DataW H} {p : List MemPlace} (hv : Value.okWide Tryd.prog W .any base 29 v) (h : DataW.Trod enc Tryd.prog W 0 sp hd 29 v d p) :
    ∃ o b wd : Int, v = .agg #[.int .i64 o, .int .i64 b, .int .i64 wd] ∧ (Lit.int .i64 o).wf = true ∧ (Lit.int .i64 b).wf = true ∧ (Lit.int .i64 wd).wf = true := by
  obtain ⟨c0, c1, c2, y0, y1, y2, m, rfl, _, _, h0, h1, h2⟩ := open_agg3 Tryd.underlying29 (by kernel_rfl) cellsF hv h
  obtain ⟨o, e0, _, w0⟩ := DataW.trod_int Tryd.underlying3 h0
  obtain ⟨b, e1, _, w1⟩ := DataW.trod_int Tryd.underlying3 h1
  obtain ⟨wd, e2, _, w2⟩ := DataW.trod_int Tryd.underlying3 h2
  simp at e0 e1 e2
  subst e0 e1 e2
  exact ⟨o, b, wd, rfl, w0, w1, w2⟩
end Go.Proofs.YtmhlfipgomdiaaaDoor
