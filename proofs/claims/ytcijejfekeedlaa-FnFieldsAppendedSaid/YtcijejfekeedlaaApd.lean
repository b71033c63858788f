/- A field put behind others: Append, fieldsOf, FieldsAppended, SameFields. -/
import Derived.Test.YtcijejfekeedlaaApp
import Derived.WalkKit
import Derived.WalkSpells
import Derived.WalkLawsBesides
import Derived.Below
import Derived.BigQuiet
import Derived.Deep.QuietTactic
import Derived.Deep.RegionHeld3
import Derived.Deep.RegionLaw
import Derived.Deep.AppendLies
import Derived.Deep.Onto
import Derived.Laws.Pointers
import Derived.Laws.AppendOwn
import Derived.Laws.OwnMore
import Derived.OwnWalk
import Derived.Handy
import Derived.Lib.Hide
import Derived.LoopTactic
namespace Go.Proofs.Ytcijejfekeedlaa
open Go.RowKit

theorem infoF8 : (Try.prog.info? 23).map (fun i => (i.zero, i.size, i.bytes)) = some (some (.agg #[.int .i64 0, .int .i64 0, .int .i64 0]), 3, 24) := by kernel_rfl

/-- The call ends with a slice of these fields, as data, in memory of its own. -/
def OfPost (fs : List Fld) (w : World) (e : Ending) (w' : World) : Prop :=
  ∃ v, e = .returned v ∧ w'.ownsRow w.heap.size 23 3 v fs.length (flat .i64 fs) ∧ Below w.heap.size w w'

set_option maxRecDepth 100000 in
set_option maxHeartbeats 4000000 in
theorem fieldsOf_any (fs : List Fld) (A : Option Addr) (c : Nat) (w : World) (hn : fs.length ≤ 65) (hr : FRow .u8 w A fs) (hall : allR fs = true) :
    Calls Try.prog 36 #[.slice A fs.length c] w (OfPost fs w) := by
  have Hall := Lib.hid hall
  clear hall
  obtain ⟨i0, hi, hz0, hz1, hz2⟩ := info_parts infoF8
  go_enter Try.func36, Try.ntmps36
  go_wp2
  go_loopw [3, 8] (fun v i wr => ∃ k : Nat, k ≤ fs.length ∧ i = .int .i64 k ∧ wr.ownsRow w.heap.size 23 3 v k (flat .i64 (fs.take k)) ∧ Below w.heap.size w wr) (fun _ i _ => fs.length - (intOf i).toNat)
  case atStart => exact ⟨0, Nat.zero_le _, rfl, by simp [World.ownsRow, flat], Below.refl _ _⟩
  case round =>
    obtain ⟨k, hk, rfl, hown, hbel⟩ := hrel
    by_cases hlt : k < fs.length
    · obtain ⟨f, hf⟩ : ∃ f, fs[k]? = some f := ⟨_, List.getElem?_eq_getElem hlt⟩
      obtain ⟨bl, off, rfl, hbl, hcell⟩ := (hr.below hbel) (by rintro rfl; simp at hlt)
      obtain ⟨h0, h1, h2⟩ := hcell k f hf
      clear hcell
      have hfr := frb_spec (allR_get Hall.out hf)
      have v0 : IntKind.i64.wrap f.o = f.o := by rw [IntKind.wrap_i64]; omega
      have v1 : IntKind.i64.wrap f.b = f.b := by rw [IntKind.wrap_i64]; omega
      have v2 : IntKind.i64.wrap f.w = f.w := by rw [IntKind.wrap_i64]; omega
      have hs1 : w.heap.size ≤ wr.heap.size := hbel.size
      go_wp2_with (first
        | (at_builtin; refine wpList_append_own _ rfl _ _ 31 rfl w.heap.size 23 i0 _ 3 24 Try.underlying31 hi hz0 hz1 hz2 rfl (by decide) _ k _ rfl ((hown.alloc _).alloc _) ⟨wr.heap.size + 1, 0, none⟩ 1 1 [.int .i64 f.o, .int .i64 f.b, .int .i64 f.w] rfl rfl (World.news_of_block (cs := #[.int .i64 f.o, .int .i64 f.b, .int .i64 f.w]) (t := 23) (fr := (0, 0)) (by simpa using heap_alloc_new (wr.alloc (.cells #[.int .u8 f.o, .int .u8 f.b, .int .u8 f.w] 49)) (.cells #[.int .i64 f.o, .int .i64 f.b, .int .i64 f.w] 23))) (by simp [Value.oneCell']) (by unfold maxLen; omega) (by omega) (by simp; omega) ?_; intro v' w2 hown2 hg2 _))
      go_roundw
      case rel =>
        refine ⟨k + 1, by omega, by go_num, by rw [take_snoc fs k f hf, flat_snoc]; exact hown2, ?_⟩
        refine Below.grown (Below.alloc (Below.alloc hbel hbel.size _) (by have a1 := hbel.size; simp; omega) _) hg2 (by have a1 := hbel.size; simp; omega) (fun g hg => (hown.lt g hg).1)
      case measure => simp [intOf]; omega
    · obtain rfl : k = fs.length := by omega
      rw [List.take_length] at hown
      go_wp2
      go_ret
      exact ⟨_, rfl, hown, hbel⟩
theorem own_slc {W : World} {base : Nat} {e : TypeId} {v : Value} {n : Nat} {xs : List Value} (h : W.ownsRow base e 3 v n xs) : ∃ A c, v = .slice A n c := by
  rcases h.2 with ⟨rfl, rfl⟩ | ⟨g, cap, cur, rfl, _⟩
  · exact ⟨_, _, rfl⟩
  · exact ⟨_, _, rfl⟩


theorem own_set {W : World} {base : Nat} {e : TypeId} {size n : Nat} {v : Value} {xs : List Value} (h : W.ownsRow base e size v n xs) (a : Addr) (u : Value) (hne : v.ownBlock ≠ some a.block) : (W.setCell a u).ownsRow base e size v n xs :=
  h.kept (row := some a.block) ⟨rfl, rfl, rfl, by simp [World.setCell], fun i _ hn => Below.heap_setCell W a u i (fun e => hn (by rw [e]))⟩ (Or.inr hne)
set_option maxRecDepth 100000 in
set_option maxHeartbeats 4000000 in
theorem apd_any (fs : List Fld) (f : Fld) (base p : Nat) (A : Option Addr) (c : Nat) (w : World)
    (hp : w.cell? ⟨p, 0, none⟩ = some (.slice A fs.length c)) (hpf : w.frozen? ⟨p, 0, none⟩ = false) (hpb : base ≤ p)
    (hown : w.ownsRow base 49 3 (.slice A fs.length c) fs.length (flat .u8 fs)) (hne : (Value.slice A fs.length c).ownBlock ≠ some p) (hl : fs.length ≤ 64) :
    Calls Try.prog 35 #[.pointer (some ⟨p, 0, none⟩), .agg #[.int .u8 f.o, .int .u8 f.b, .int .u8 f.w]] w fun e w' => e = .returned (.tuple #[]) ∧
      ∃ g c', w'.cell? ⟨p, 0, none⟩ = some (.slice (some ⟨g, 0, none⟩) (fs.length + 1) c') ∧ w'.ownsRow base 49 3 (.slice (some ⟨g, 0, none⟩) (fs.length + 1) c') (fs.length + 1) (flat .u8 (fs ++ [f])) ∧ Below base w w' := by
  obtain ⟨i0, hi, hz0, hz1, hz2⟩ := info_parts infoB
  have lp := World.block_lt_of_cell? w _ hp
  have hbase : base ≤ w.heap.size := by
    have : p < w.heap.size := lp
    omega
  have hpn : p ≠ w.heap.size := by
    have : p < w.heap.size := lp
    omega
  have hnw : (Value.slice A fs.length c).ownBlock ≠ some w.heap.size := fun h => by
    have := (hown.lt _ h).2
    omega
  have hpf1 : ∀ o, (w.alloc o).frozen? ⟨p, 0, none⟩ = false := fun o => ((Below.alloc (Below.refl w.heap.size w) (Nat.le_refl _) o).frozen (p := ⟨p, 0, none⟩) lp).trans hpf
  have hpf2 : ∀ o o', ((w.alloc o).alloc o').frozen? ⟨p, 0, none⟩ = false := fun o o' => ((Below.alloc (Below.alloc (Below.refl w.heap.size w) (Nat.le_refl _) o) (by simp) o').frozen (p := ⟨p, 0, none⟩) lp).trans hpf
  have hpc1 : ∀ o, (w.alloc o).cell? ⟨p, 0, none⟩ = some (.slice A fs.length c) := fun o => ((Below.alloc (Below.refl w.heap.size w) (Nat.le_refl _) o).cell (p := ⟨p, 0, none⟩) lp).trans hp
  have hpc2 : ∀ o o', ((w.alloc o).alloc o').cell? ⟨p, 0, none⟩ = some (.slice A fs.length c) := fun o o' => ((Below.alloc (Below.alloc (Below.refl w.heap.size w) (Nat.le_refl _) o) (by simp) o').cell (p := ⟨p, 0, none⟩) lp).trans hp
  have hnews : ((w.alloc (.cells #[.int .u8 f.o, .int .u8 f.b, .int .u8 f.w] 49)).alloc (.cells #[.int .u8 f.o, .int .u8 f.b, .int .u8 f.w] 49)).heap[w.heap.size + 1]? = some (.cells #[.int .u8 f.o, .int .u8 f.b, .int .u8 f.w] 49 (0, 0)) := by
    simpa using heap_alloc_new (w.alloc (.cells #[.int .u8 f.o, .int .u8 f.b, .int .u8 f.w] 49)) (.cells #[.int .u8 f.o, .int .u8 f.b, .int .u8 f.w] 49)
  have Hn := Lib.hid hnews
  clear hnews
  go_enter Try.func35, Try.ntmps35
  go_wp2_with fail
  go_region_law
    ((refine step_append_lies _ (by rfl) _ _ _ (by rfl) base 49 i0 _ 3 3 Try.underlying54 hi hz0 hz1 hz2 rfl (by omega) _ fs.length _ (by rfl) (((hown.alloc _).alloc _).drew)
        ⟨w.heap.size + 1, 0, none⟩ 1 1 [.int .u8 f.o, .int .u8 f.b, .int .u8 f.w] (by rfl) (by rfl) (World.news_of_block (cs := #[.int .u8 f.o, .int .u8 f.b, .int .u8 f.w]) (t := 49) (fr := (0, 0)) Hn.out) (by simp [Value.oneCell'])
        (by omega) (by unfold maxLen; omega) (by omega) (by simp; omega) (w.heap.size + 2) (by simp) ?_; intro g cap w1 hown1 hgrow hat hlt; have hc1 : w1.cell? ⟨p, 0, none⟩ = some (.slice A fs.length c) := hgrow.cell (by simpa using hpc2 _ _) (Ne.symm hne); have hf1 : w1.frozen? ⟨p, 0, none⟩ = false := (hgrow.frozen_far _ (by simp; omega) (Ne.symm hne)).trans (by simpa using hpf2 _ _)))
  all_goals go_wp2
  all_goals go_returns
  all_goals
    have hgp : g ≠ p := by
      rcases hat with hat | hat
      · intro e
        exact hne (by rw [hat, e])
      · omega
    have hown2 : w1.ownsRow base 49 3 (.slice (some ⟨g, 0, none⟩) (fs.length + 1) cap) (fs.length + 1) (flat .u8 (fs ++ [f])) := by
      rw [flat_snoc]
      exact hown1
    exact ⟨rfl, g, cap, World.cell?_setCell_same _ _ _ hc1, own_set hown2 _ _ (by simpa [Value.ownBlock] using hgp), Below.setCell (Below.grown (Below.drew (Below.alloc (Below.alloc (Below.refl _ _) hbase _) (by simp; omega) _)) hgrow (by simp; omega) (fun k hk => (hown.lt k hk).1)) hpb _⟩
theorem own_slc3 {W : World} {base : Nat} {e : TypeId} {v : Value} {n : Nat} {xs : List Value} (h : W.ownsRow base e 3 v n xs) : ∃ A c, v = .slice A n c := own_slice h
set_option maxRecDepth 100000 in
set_option maxHeartbeats 4000000 in
theorem fa_any (fs : List Fld) (f : Fld) (A : Option Addr) (c : Nat) (w : World) (hr : FRow .i64 w A fs) (hall : allR fs = true) (hf : frb f.o f.b f.w = true) (hl : fs.length ≤ 64) :
    Calls Try.prog 23 #[.slice A fs.length c, .agg #[.int .i64 f.o, .int .i64 f.b, .int .i64 f.w]] w (OfPost (fs ++ [f]) w) := by
  have hfb := frb_spec hf
  have hall2 : allR (fs ++ [f]) = true := by rw [allR_snoc, hall, hf]; rfl
  have hlen : (fs ++ [f]).length = fs.length + 1 := by simp
  have Hall := Lib.hid hall
  have Hall2 := Lib.hid hall2
  have Hlen := Lib.hid hlen
  have Hr := Lib.hid (show ∀ W, Below w.heap.size w W → FRow .i64 W A fs from fun W h => hr.below h)
  clear hall hall2 hlen hr
  go_enter Try.func23, Try.ntmps23
  go_wp2_with (first
    | (go_at_call 30; refine (many_any fs A c _ hl (Hr.out _ (by go_grown)) Hall.out).mono ?_; rintro e w1 ⟨v1, rfl, hown1, hb1⟩; obtain ⟨A1, c1, rfl⟩ := own_slc3 hown1; obtain ⟨hc1, hf1, hs1, hl1⟩ := bcellN (w.heap.size + 1) hb1 (by simp)))
  have hz0 : (w.alloc (.cells #[.int .i64 f.o, .int .i64 f.b, .int .i64 f.w] 23)).heap.size = w.heap.size + 1 := by simp
  rw [hz0] at hown1 hb1
  refine (bits_any f.o f.b f.w (by omega) (by omega) (by omega) (by omega) (by omega) (by omega) _).mono ?_
  rintro e w2 ⟨rfl, hb2⟩
  have hz1 : (w1.alloc (.cells #[.slice A1 fs.length c1] 54)).heap.size = w1.heap.size + 1 := by simp
  rw [hz1] at hb2
  have hp2 : w2.cell? ⟨w1.heap.size, 0, none⟩ = some (.slice A1 fs.length c1) := (hb2.cell (p := ⟨w1.heap.size, 0, none⟩) (by simp)).trans (by rw [World.cell?_alloc_new]; rfl)
  have hpf2 : w2.frozen? ⟨w1.heap.size, 0, none⟩ = false := (hb2.frozen (p := ⟨w1.heap.size, 0, none⟩) (by simp)).trans (World.frozen?_alloc_new _ _ _ _)
  have hown2 : w2.ownsRow (w.heap.size + 1) 49 3 (.slice A1 fs.length c1) fs.length (flat .u8 fs) := own_below (hown1.alloc _) (by rw [hz1]; exact hb2)
  have hne2 : (Value.slice A1 fs.length c1).ownBlock ≠ some w1.heap.size := fun h => by
    have := (hown1.lt _ h).2
    omega
  have Hown1 := Lib.hid hown1
  have Hb1 := Lib.hid hb1
  clear hown1 hb1 hc1 hf1
  go_wp2_with fail
  refine (apd_any fs f (w.heap.size + 1) w1.heap.size A1 c1 w2 hp2 hpf2 hs1 hown2 hne2 hl).mono ?_
  rintro e w3 ⟨rfl, g, c3, hp3, hown3, hb3⟩
  go_wp2_with fail
  have hown4 := hown3
  rw [show fs.length + 1 = (fs ++ [f]).length from Hlen.out.symm] at hown4
  rw [show fs.length + 1 = (fs ++ [f]).length from Hlen.out.symm]
  refine (fieldsOf_any (fs ++ [f]) _ c3 w3 (by rw [Hlen.out]; omega) (FRow.of_own rfl hown4) Hall2.out).mono ?_
  rintro e w4 ⟨v4, rfl, hown5, hb4⟩
  have z2 : w1.heap.size + 1 ≤ w2.heap.size := by
    have := hb2.size
    simpa using this
  have z3 := hb3.size
  have hbase : w.heap.size ≤ w3.heap.size := by omega
  have hbel : Below w.heap.size w w4 := by
    refine Below.trans (b := w3) ?_ (hb4.mono hbase)
    refine Below.trans (b := w2) ?_ (hb3.mono (by omega))
    refine Below.trans (b := w1.alloc (.cells #[.slice A1 fs.length c1] 54)) ?_ (hb2.mono (by omega))
    refine Below.alloc ?_ (by omega) _
    exact Below.trans (Below.alloc (Below.refl _ _) (Nat.le_refl _) _) (Hb1.out.mono (by omega))
  have hown6 := hown5.mono hbase
  clear hown5 hown4 hown3 hown2 hp3 hp2
  go_wp2
  go_ret
  exact ⟨_, rfl, hown6, hbel⟩
set_option maxRecDepth 100000 in
set_option maxHeartbeats 2000000 in
theorem same_any (fs : List Fld) (A1 : Option Addr) (c1 : Nat) (A2 : Option Addr) (c2 : Nat) (w : World) (hl : fs.length ≤ 65) (h1 : FRow .i64 w A1 fs) (h2 : FRow .i64 w A2 fs) :
    Calls Try.prog 22 #[.slice A1 fs.length c1, .slice A2 fs.length c2] w fun e w' => e = .returned (.bool true) ∧ Below w.heap.size w w' := by
  have H1 := Lib.hid (show ∀ W, Below w.heap.size w W → FRow .i64 W A1 fs from fun W h => h1.below h)
  have H2 := Lib.hid (show ∀ W, Below w.heap.size w W → FRow .i64 W A2 fs from fun W h => h2.below h)
  clear h1 h2
  go_enter Try.func22, Try.ntmps22
  go_wp2
  go_loopw [5] (fun i wr => ∃ k : Nat, k ≤ fs.length ∧ i = .int .i64 k ∧ Below w.heap.size w wr) (fun i _ => fs.length - (intOf i).toNat)
  case atStart => exact ⟨0, Nat.zero_le _, rfl, Below.refl _ _⟩
  case round =>
    obtain ⟨k, hk, rfl, hbel⟩ := hrel
    by_cases hlt : k < fs.length
    · obtain ⟨f, hf⟩ : ∃ f, fs[k]? = some f := ⟨_, List.getElem?_eq_getElem hlt⟩
      obtain ⟨bl1, off1, rfl, hbl1, hcell1⟩ := (H1.out _ hbel) (by rintro rfl; simp at hlt)
      obtain ⟨bl2, off2, rfl, hbl2, hcell2⟩ := (H2.out _ hbel) (by rintro rfl; simp at hlt)
      obtain ⟨p0, p1, p2⟩ := hcell1 k f hf
      obtain ⟨q0, q1, q2⟩ := hcell2 k f hf
      clear hcell1 hcell2
      have k0 : (0 : Int) ≤ (k : Int) := by omega
      have k1 : (k : Int) < (fs.length : Int) := by omega
      go_wp2_with fail
      go_quiet (fail)
      go_wp2
      go_roundw
      case rel => exact ⟨k + 1, by omega, by go_num, below_drewN hbel _⟩
      case measure => simp [intOf]; omega
    · obtain rfl : k = fs.length := by omega
      go_wp2
      go_ret
      exact ⟨rfl, hbel⟩

/-- The cells of a block of fields. -/
def Blk (W : World) (g : Nat) (cs : Array Value) : Prop := W.heap[g]? = some (.cells cs 23 (0, 0))
theorem Blk.fresh (W : World) (cs : Array Value) (g : Nat) (h : g = W.heap.size) : Blk (W.alloc (.cells cs 23)) g cs := by
  subst h
  exact heap_alloc_new W _
theorem Blk.lt {W : World} {g : Nat} {cs : Array Value} (h : Blk W g cs) : g < W.heap.size := by
  rcases Nat.lt_or_ge g W.heap.size with h' | h'
  · exact h'
  · rw [Blk, Array.getElem?_eq_none h'] at h
    cases h
theorem Blk.old {W : World} {g : Nat} {cs : Array Value} {o : Obj} (h : Blk W g cs) : Blk (W.alloc o) g cs := (Below.heap_alloc W o g h.lt).trans h
theorem Blk.draw {W : World} {g : Nat} {cs : Array Value} (h : Blk W g cs) : Blk W.drew g cs := h
theorem Blk.below {W W' : World} {g : Nat} {cs : Array Value} (h : Blk W g cs) (hb : Below W.heap.size W W') : Blk W' g cs := (hb.block g h.lt).trans h
theorem Blk.grown {W W' : World} {g : Nat} {cs : Array Value} {row : Option Nat} (h : Blk W g cs) (hg : W.grownBy W' row) (hne : some g ≠ row) : Blk W' g cs := (hg.block g h.lt hne).trans h
theorem own_grown {W W' : World} {base : Nat} {e : TypeId} {size n : Nat} {v : Value} {xs : List Value} {row : Option Nat} (h : W.ownsRow base e size v n xs) (hg : W.grownBy W' row) (hne : v.ownBlock ≠ row) : W'.ownsRow base e size v n xs := h.kept hg (Or.inr hne)
theorem own_alloc {W : World} {base : Nat} {e : TypeId} {size n : Nat} {v : Value} {xs : List Value} {o : Obj} (h : W.ownsRow base e size v n xs) : (W.alloc o).ownsRow base e size v n xs := h.alloc o
theorem own_draw {W : World} {base : Nat} {e : TypeId} {size n : Nat} {v : Value} {xs : List Value} (h : W.ownsRow base e size v n xs) : W.drew.ownsRow base e size v n xs := h.drew

/-- 'append([]Field{}, l...)', as a step of a region that draws. -/
theorem step_l {P : Program} {w : World} {ops : Array Oper} {o : Oper} {a : Act} {K : Act → World → Prop} {Q : Exit → Act → World → Prop} {E : Prop} (hgd : o.guard = none) (s x : Operand) (t : TypeId)
    (ho : o.op = .call { callee := .builtin .append, args := #[s, x], argTypes := #[t, t] }) (i : TypeInfo) (ht : P.underlying t = some (.slice 23)) (hi : P.info? 23 = some i) (hz : i.zero = some (.agg #[.int .i64 0, .int .i64 0, .int .i64 0])) (hsize : i.size = 3) (hby : i.bytes = 24)
    (N g0 : Nat) (hs : a.eval s = .slice (some ⟨g0, 0, none⟩) 0 0) (ad : Addr) (fs : List Fld) (c : Nat) (hx : a.eval x = .slice (some ad) fs.length c)
    (hb : Blk w g0 #[]) (hN : N ≤ g0) (hr : FRow .i64 w (some ad) fs) (hp : 0 < fs.length) (hl : fs.length ≤ 64)
    (h : ∀ g cap w', w'.ownsRow N 23 3 (.slice (some ⟨g, 0, none⟩) fs.length cap) fs.length (flat .i64 fs) → w.grownBy w' (some g0) → (g0 = g ∨ g = w.heap.size) → g < w'.heap.size → (∀ k, some g0 = some k → N ≤ k) → K (a.put o.dst (.slice (some ⟨g, 0, none⟩) fs.length cap)) w') :
    if Region.wanted o (yielded ops a.tmps) = true then Oper.wp P o a w K Q else E := by
  have hlt := hb.lt
  refine step_append_lies _ hgd s x t ho N 23 i _ 3 24 ht hi hz hsize hby rfl (by decide) _ 0 [] hs ⟨rfl, Or.inr ⟨g0, 0, #[], rfl, hN, hb, Nat.le_refl _, Nat.zero_le _, rfl, rfl⟩⟩
    ad fs.length c (flat .i64 fs) hx (flat_length _ _) hr.news (flat_one _ _) hp (by unfold maxLen; omega) (by omega) (by omega) w.heap.size rfl ?_
  intro g cap w' h1 h2 h3 h4
  rw [Nat.zero_add, List.nil_append] at h1
  rw [Nat.zero_add]
  exact h g cap w' h1 h2 (h3.imp (fun h => by simpa [Value.ownBlock] using h) id) h4 (fun k hk => by cases hk; exact hN)
/-- 'append(.., f)', as a step of a region that draws. -/
theorem step_f {P : Program} {w : World} {ops : Array Oper} {o : Oper} {a : Act} {K : Act → World → Prop} {Q : Exit → Act → World → Prop} {E : Prop} (hgd : o.guard = none) (s x : Operand) (t : TypeId)
    (ho : o.op = .call { callee := .builtin .append, args := #[s, x], argTypes := #[t, t] }) (i : TypeInfo) (ht : P.underlying t = some (.slice 23)) (hi : P.info? 23 = some i) (hz : i.zero = some (.agg #[.int .i64 0, .int .i64 0, .int .i64 0])) (hsize : i.size = 3) (hby : i.bytes = 24)
    (N g0 cap0 : Nat) (fs gs : List Fld) (f : Fld) (hs : a.eval s = .slice (some ⟨g0, 0, none⟩) fs.length cap0) (g1 : Nat) (hx : a.eval x = .slice (some ⟨g1, 0, none⟩) 1 1)
    (hown : w.ownsRow N 23 3 (.slice (some ⟨g0, 0, none⟩) fs.length cap0) fs.length (flat .i64 fs)) (hb : Blk w g1 #[.int .i64 f.o, .int .i64 f.b, .int .i64 f.w]) (hN : N ≤ w.heap.size) (hl : fs.length ≤ 64) (hgs : gs = fs ++ [f])
    (h : ∀ g cap w', w'.ownsRow N 23 3 (.slice (some ⟨g, 0, none⟩) gs.length cap) gs.length (flat .i64 gs) → w.grownBy w' (some g0) → (g0 = g ∨ g = w.heap.size) → g < w'.heap.size → (∀ k, some g0 = some k → N ≤ k) → K (a.put o.dst (.slice (some ⟨g, 0, none⟩) gs.length cap)) w') :
    if Region.wanted o (yielded ops a.tmps) = true then Oper.wp P o a w K Q else E := by
  refine step_append_lies _ hgd s x t ho N 23 i _ 3 24 ht hi hz hsize hby rfl (by decide) _ fs.length _ hs hown
    ⟨g1, 0, none⟩ 1 1 [.int .i64 f.o, .int .i64 f.b, .int .i64 f.w] hx rfl (World.news_of_block (cs := #[.int .i64 f.o, .int .i64 f.b, .int .i64 f.w]) hb) (by simp [Value.oneCell']) (by decide) (by unfold maxLen; omega) (by omega) hN w.heap.size rfl ?_
  intro g cap w' h1 h2 h3 h4
  have e : gs.length = fs.length + 1 := by simp [hgs]
  rw [← flat_snoc, ← hgs, ← e] at h1
  rw [← e]
  exact h g cap w' h1 h2 (h3.imp (fun h => by simpa [Value.ownBlock] using h) id) h4 (fun k hk => (hown.lt k hk).1)

theorem same_own (gs : List Fld) (N g5 c5 g7 c7 : Nat) (W : World) (h65 : gs.length ≤ 65) (h5 : W.ownsRow N 23 3 (.slice (some ⟨g5, 0, none⟩) gs.length c5) gs.length (flat .i64 gs)) (h7 : W.ownsRow N 23 3 (.slice (some ⟨g7, 0, none⟩) gs.length c7) gs.length (flat .i64 gs)) :
    Calls Try.prog 22 #[.slice (some ⟨g5, 0, none⟩) gs.length c5, .slice (some ⟨g7, 0, none⟩) gs.length c7] W fun e w' => e = .returned (.bool true) ∧ Below W.heap.size W w' :=
  same_any gs _ c5 _ c7 W h65 (FRow.of_own rfl h5) (FRow.of_own rfl h7)
end Go.Proofs.Ytcijejfekeedlaa
