/- The texts of fields. -/
import Derived.Test.YtmhlfipgomdiaaaDoorFc
import Derived.Defers
import Derived.Recover
import Derived.BigQuiet
import Derived.Deep.QuietTactic
import Derived.Deep.RegionHeld3
import Derived.Deep.RegionWith
import Derived.OpenShut
import Derived.Laws.AppendOwn
import Derived.Laws.OwnMore
import Derived.Deep.AppendLies
import Derived.Deep.Slices
import Derived.Deep.Fields
import Derived.ProofKit
import Derived.ChangeOld
import Derived.LoopTactic
import Derived.WalkKit
import Derived.WalkSpells
import Derived.WalkLawsBesides
import Derived.Below
import Derived.Laws.Pointers
import Derived.OwnWalk
import Derived.Handy
import Derived.Lib.Hide
import Derived.Test.YtmhlfipgomdiaaaDoorShelf
import Derived.Laws.BitsAllLaws
namespace Go.Proofs.YtmhlfipgomdiaaaDoor
open Go.RowKit Go.ChangeShapes Go.WideShapes Go.ChangeAt Go.Joins Go.Deep


def dgb (k : Nat) : ByteArray := ⟨(Lib.decDigits k).toArray⟩
theorem dgb_len (k : Nat) (h : k < 100) : (Lib.decDigits k).length ≤ 2 := by
  have h' : ∀ m : Fin 100, (Lib.decDigits m.1).length ≤ 2 := by decide +kernel
  exact h' ⟨k, h⟩
/-- The text of a field. -/
def bt (O B : Nat) : ByteArray := if B = 1 then "[".toUTF8 ++ dgb O ++ "]".toUTF8 else "[".toUTF8 ++ dgb O ++ ":".toUTF8 ++ dgb (O + B - 1) ++ "]".toUTF8
set_option maxRecDepth 100000 in
set_option maxHeartbeats 4000000 in
theorem bs_one (O : Nat) (W : Int) (h2 : O + 1 ≤ 32) (w : World) : Calls Tryd.prog 35 #[.agg #[.int .u8 O, .int .u8 1, .int .u8 W]] w fun e w' => e = .returned (.string (bt O 1)) ∧ Below w.heap.size w w' := by
  have e1 : IntKind.i64.wrap (O : Int) = O := IntWalk.i64_in _ (by omega)
  have l := dgb_len O (by omega)
  go_enter Tryd.func35, Tryd.ntmps35
  go_wp2_with (first
    | (go_at_call 38; (try rw [e1]); refine (Tryd.strconv_FormatInt_10_small O (by omega) _).mono ?_; rintro e w1 ⟨rfl, rfl⟩))
  all_goals (try (exfalso; omega))
  all_goals go_returns
  all_goals exact ⟨rfl, by go_grown⟩
set_option maxRecDepth 100000 in
set_option maxHeartbeats 4000000 in
theorem bs_more (O B : Nat) (W : Int) (h1 : 2 ≤ B) (h2 : O + B ≤ 32) (w : World) : Calls Tryd.prog 35 #[.agg #[.int .u8 O, .int .u8 B, .int .u8 W]] w fun e w' => e = .returned (.string (bt O B)) ∧ Below w.heap.size w w' := by
  have e1 : IntKind.i64.wrap (O : Int) = O := IntWalk.i64_in _ (by omega)
  have e2 : IntKind.u8.wrap ((O : Int) + B) = O + B := IntWalk.u8_in _ (by omega)
  have e3 : IntKind.i64.wrap ((O : Int) + B) = O + B := IntWalk.i64_in _ (by omega)
  have e4 : IntKind.i64.wrap ((O : Int) + B - 1) = ((O + B - 1 : Nat) : Int) := by rw [IntKind.wrap_i64]; omega
  have l := dgb_len O (by omega)
  have l2 := dgb_len (O + B - 1) (by omega)
  have b1 : (1 : Int) < (B : Int) := by omega
  go_enter Tryd.func35, Tryd.ntmps35
  go_wp2_with fail
  go_quiet ((first
    | (go_at_call 38; (try rw [e1]); exact Calls.quiet_of_same (Tryd.strconv_FormatInt_10_small O (by omega) _))
    | (go_at_call 38; (try rw [e4]); exact Calls.quiet_of_same (Tryd.strconv_FormatInt_10_small (O + B - 1) (by omega) _))))
  go_wp2
  go_returns
  have hB : B ≠ 1 := by omega
  exact ⟨by rw [bt, if_neg hB]; rfl, below_drewN (by go_grown) _⟩
theorem bs_any (O B : Nat) (W : Int) (h1 : 1 ≤ B) (h2 : O + B ≤ 32) (w : World) : Calls Tryd.prog 35 #[.agg #[.int .u8 O, .int .u8 B, .int .u8 W]] w fun e w' => e = .returned (.string (bt O B)) ∧ Below w.heap.size w w' := by
  by_cases h : B = 1
  · subst h
    exact bs_one O W h2 w
  · exact bs_more O B W (by omega) h2 w
theorem bt_len (O B : Nat) (h1 : 1 ≤ B) (h2 : O + B ≤ 32) : (bt O B).size ≤ 8 ∧ 0 < (bt O B).size := by
  have h' : ∀ (i : Fin 32) (j : Fin 33), 1 ≤ j.1 → i.1 + j.1 ≤ 32 → (bt i.1 j.1).size ≤ 8 ∧ 0 < (bt i.1 j.1).size := by decide +kernel
  exact h' ⟨O, by omega⟩ ⟨B, by omega⟩ h1 h2
theorem ft_any (f : Fld) (hf : frb f.o f.b f.w = true) (w : World) : Calls Tryd.prog 23 #[.agg #[.int .i64 f.o, .int .i64 f.b, .int .i64 f.w]] w fun e w' => e = .returned (.string (bt f.o.toNat f.b.toNat)) ∧ Below w.heap.size w w' := by
  have hb := frb_spec hf
  have con : ∀ W, Calls Tryd.prog 35 #[.agg #[.int .u8 f.o, .int .u8 f.b, .int .u8 f.w]] W fun e w' => e = .returned (.string (bt f.o.toNat f.b.toNat)) ∧ Below W.heap.size W w' := fun W => by
    have := bs_any f.o.toNat f.b.toNat f.w (by omega) (by omega) W
    rwa [show ((f.o.toNat : Nat) : Int) = f.o from by omega, show ((f.b.toNat : Nat) : Int) = f.b from by omega] at this
  generalize bt f.o.toNat f.b.toNat = s at *
  go_enter Tryd.func23, Tryd.ntmps23
  go_wp2_with (first
    | (go_at_call 34; refine (bits_any f.o f.b f.w (by omega) (by omega) (by omega) (by omega) (by omega) (by omega) _).mono ?_; rintro e w1 ⟨rfl, hb1⟩)
    | (go_at_call 35; refine (con _).mono ?_; rintro e w2 ⟨rfl, hb2⟩))
  go_returns
  refine ⟨rfl, ?_⟩
  exact Below.trans (Below.alloc (Below.refl _ _) (Nat.le_refl _) _) (Below.mono (Below.trans hb1 (hb2.mono hb1.size)) (by simp))
theorem mk1 (w : World) : (Instr.makeSlice 56 (.int .i64 1) (.int .i64 1)).run Tryd.prog w = .ok (.slice (some ⟨w.heap.size, 0, none⟩) 1 1) (w.alloc (.cells #[.string ⟨#[]⟩] 9)) := by kernel_rfl
/-- Join of one text. -/
theorem join_one (g c : Nat) (s sep : ByteArray) (w : World) (hc : w.cell? ⟨g, 0, none⟩ = some (.string s)) : Calls Tryd.prog 41 #[.slice (some ⟨g, 0, none⟩) 1 c, .string sep] w fun e w' => e = .returned (.string s) ∧ Below w.heap.size w w' := by
  go_enter Tryd.func41, Tryd.ntmps41
  go_wp2_with fail
  all_goals go_returns
  all_goals exact ⟨rfl, Below.refl _ _⟩
set_option maxRecDepth 100000 in
set_option maxHeartbeats 4000000 in
theorem bss_any (f : Fld) (hf : frb f.o f.b f.w = true) (A : Option Addr) (c : Nat) (w : World) (hr : FRow .u8 w A [f]) : Calls Tryd.prog 37 #[.slice A 1 c] w fun e w' => e = .returned (.string ("<".toUTF8 ++ bt f.o.toNat f.b.toNat ++ ">".toUTF8)) ∧ Below w.heap.size w w' := by
  have hb := frb_spec hf
  have con : ∀ W, Calls Tryd.prog 35 #[.agg #[.int .u8 f.o, .int .u8 f.b, .int .u8 f.w]] W fun e w' => e = .returned (.string (bt f.o.toNat f.b.toNat)) ∧ Below W.heap.size W w' := fun W => by
    have := bs_any f.o.toNat f.b.toNat f.w (by omega) (by omega) W
    rwa [show ((f.o.toNat : Nat) : Int) = f.o from by omega, show ((f.b.toNat : Nat) : Int) = f.b from by omega] at this
  have hl := bt_len f.o.toNat f.b.toNat (by omega) (by omega)
  generalize bt f.o.toNat f.b.toNat = s at *
  obtain ⟨bl, off, rfl, hbl, hcell⟩ := hr (by simp)
  obtain ⟨q0, q1, q2⟩ := hcell 0 f rfl
  simp only [Nat.zero_mul, Nat.add_zero] at q0 q1 q2
  clear hcell hr
  have HQ := Lib.hid (show ∀ W, Below w.heap.size w W → W.cell? ⟨bl, off, none⟩ = some (.int .u8 f.o) ∧ W.cell? ⟨bl, off + 1, none⟩ = some (.int .u8 f.b) ∧ W.cell? ⟨bl, off + 2, none⟩ = some (.int .u8 f.w) from fun W h => ⟨(h.cell (p := ⟨bl, off, none⟩) hbl).trans q0, (h.cell (p := ⟨bl, off + 1, none⟩) hbl).trans q1, (h.cell (p := ⟨bl, off + 2, none⟩) hbl).trans q2⟩)
  clear q0 q1 q2
  have hmk := mk1 w
  go_enter Tryd.func37, Tryd.ntmps37
  go_wp2_with fail
  go_loopw [11] (fun i wr => ∃ k : Nat, k ≤ 1 ∧ i = .int .i64 k ∧ Below w.heap.size w wr ∧ w.heap.size < wr.heap.size ∧ wr.cell? ⟨w.heap.size, 0, none⟩ = some (.string (if k = 0 then ⟨#[]⟩ else s)) ∧ wr.frozen? ⟨w.heap.size, 0, none⟩ = false) (fun i _ => 1 - (intOf i).toNat)
  case atStart => exact ⟨0, Nat.zero_le _, rfl, Below.alloc (Below.refl _ _) (Nat.le_refl _) _, by simp, by simp, by simp⟩
  case round =>
    obtain ⟨k, hk, rfl, hbel, hlt, hss, hfz⟩ := hrel
    by_cases h0 : k = 0
    · subst h0
      obtain ⟨q0, q1, q2⟩ := HQ.out _ hbel
      rw [if_pos rfl] at hss
      go_wp2_with (first
        | (go_at_call 35; refine (con _).mono ?_; rintro e w2 ⟨rfl, hb2⟩; have hb3 : Below wr.heap.size wr w2 := Below.trans (Below.alloc (Below.refl _ _) (Nat.le_refl _) _) (hb2.mono (by simp)); have hc2 := (hb3.cell (p := ⟨w.heap.size, 0, none⟩) hlt).trans hss; have hf2 := (hb3.frozen (p := ⟨w.heap.size, 0, none⟩) hlt).trans hfz))
      go_roundw
      case rel =>
        exact ⟨1, Nat.le_refl _, by go_num, Below.setCell (Below.trans hbel (hb3.mono hbel.size)) (Nat.le_refl _) _, by simpa [World.setCell] using Nat.lt_of_lt_of_le hlt hb3.size, World.cell?_setCell_same _ _ _ hc2, by rw [World.frozen?_setCell]; exact hf2⟩
      case measure => simp [intOf]
    · obtain rfl : k = 1 := by omega
      rw [if_neg (by decide)] at hss
      go_wp2_with (first
        | (go_at_call 41; refine (join_one _ _ s _ _ hss).mono ?_; rintro e w3 ⟨rfl, hb3⟩))
      all_goals (try (exfalso; omega))
      all_goals go_returns
      all_goals exact ⟨rfl, hbel.trans (hb3.mono hbel.size)⟩
/-- The text of a list of one field. -/
def xt (O B : Nat) : ByteArray := "<".toUTF8 ++ bt O B ++ ">".toUTF8
theorem fst_any (f : Fld) (hf : frb f.o f.b f.w = true) (A : Option Addr) (c : Nat) (w : World) (hr : FRow .i64 w A [f]) : Calls Tryd.prog 24 #[.slice A 1 c] w fun e w' => e = .returned (.string (xt f.o.toNat f.b.toNat)) ∧ Below w.heap.size w w' := by
  have hall : allR [f] = true := by simpa [allR] using hf
  have con := fun A c W hr => bss_any f hf A c W hr
  unfold xt
  generalize "<".toUTF8 ++ bt f.o.toNat f.b.toNat ++ ">".toUTF8 = s at *
  have hm : Calls Tryd.prog 36 #[.slice A 1 c] w (ManyPost [f] w) := many_any [f] A c w (by simp) hr hall
  go_enter Tryd.func24, Tryd.ntmps24
  go_wp2_with (first
    | (go_at_call 36; refine hm.mono ?_; rintro e w1 ⟨v1, rfl, hown1, hb1⟩; obtain ⟨A1, c1, rfl⟩ := own_slice hown1))
  refine (con A1 c1 w1 (FRow.of_own rfl hown1)).mono ?_
  rintro e w2 ⟨rfl, hb2⟩
  clear hown1
  go_wp2
  go_returns
  exact ⟨rfl, hb1.trans (hb2.mono hb1.size)⟩
/-- What a text of a field tells: where it begins, and its bits. -/
def btd (l : List UInt8) : Nat × Nat :=
  let r := l.foldl (fun (a : Nat × Nat × Bool) (d : UInt8) => if d.toNat = 58 then (a.1, 0, true) else if 48 ≤ d.toNat ∧ d.toNat ≤ 57 then (if a.2.2 then (a.1, a.2.1 * 10 + (d.toNat - 48), true) else (a.1 * 10 + (d.toNat - 48), a.2.1, false)) else a) (0, 0, false)
  (r.1, if r.2.2 then r.2.1 + 1 - r.1 else 1)
theorem btd_bt (O B : Nat) (h1 : 1 ≤ B) (h2 : O + B ≤ 32) : btd (bt O B).toList = (O, B) ∧ btd (xt O B).toList = (O, B) ∧ 0 < (xt O B).size := by
  have h' : ∀ (i : Fin 32) (j : Fin 33), 1 ≤ j.1 → i.1 + j.1 ≤ 32 → btd (bt i.1 j.1).toList = (i.1, j.1) ∧ btd (xt i.1 j.1).toList = (i.1, j.1) ∧ 0 < (xt i.1 j.1).size := by decide +kernel
  exact h' ⟨O, by omega⟩ ⟨B, by omega⟩ h1 h2
theorem bt_inj (f g : Fld) (hf : frb f.o f.b f.w = true) (hg : frb g.o g.b g.w = true) : ((bt f.o.toNat f.b.toNat).toList == (bt g.o.toNat g.b.toNat).toList) = ((f.o == g.o) && (f.b == g.b)) ∧ ((xt f.o.toNat f.b.toNat).toList == (xt g.o.toNat g.b.toNat).toList) = ((f.o == g.o) && (f.b == g.b)) := by
  have hb := frb_spec hf
  have hc := frb_spec hg
  obtain ⟨p1, p2, _⟩ := btd_bt f.o.toNat f.b.toNat (by omega) (by omega)
  obtain ⟨q1, q2, _⟩ := btd_bt g.o.toNat g.b.toNat (by omega) (by omega)
  have key : f.o = g.o → f.b = g.b → f.o.toNat = g.o.toNat ∧ f.b.toNat = g.b.toNat := fun h h' => by rw [h, h']; exact ⟨rfl, rfl⟩
  refine ⟨?_, ?_⟩
  all_goals
    rw [Bool.eq_iff_iff, Bool.and_eq_true, beq_iff_eq, beq_iff_eq, beq_iff_eq]
    refine ⟨fun h => ?_, fun h => by rw [(key h.1 h.2).1, (key h.1 h.2).2]⟩
    have e := congrArg btd h
    first | rw [p1, q1, Prod.mk.injEq] at e | rw [p2, q2, Prod.mk.injEq] at e
    omega
/-- The cells of a block of fields. -/
def Blk (W : World) (g : Nat) (cs : Array Value) : Prop := W.heap[g]? = some (.cells cs 29 (0, 0))
theorem Blk.fresh (W : World) (cs : Array Value) (g : Nat) (h : g = W.heap.size) : Blk (W.alloc (.cells cs 29)) g cs := by
  subst h
  exact heap_alloc_new W _
theorem Blk.lt {W : World} {g : Nat} {cs : Array Value} (h : Blk W g cs) : g < W.heap.size := by
  rcases Nat.lt_or_ge g W.heap.size with h' | h'
  · exact h'
  · rw [Blk, Array.getElem?_eq_none h'] at h
    cases h
theorem Blk.old {W : World} {g : Nat} {cs : Array Value} {o : Obj} (h : Blk W g cs) : Blk (W.alloc o) g cs := (Below.heap_alloc W o g h.lt).trans h
theorem Blk.draw {W : World} {g : Nat} {cs : Array Value} (h : Blk W g cs) : Blk W.drew g cs := h
theorem Blk.below {W W' : World} {g : Nat} {cs : Array Value} (h : Blk W g cs) (hb : Below W.heap.size W W') : Blk W' g cs := (hb.block g h.lt).trans h
theorem Blk.row {W : World} {g : Nat} {f : Fld} (h : Blk W g #[.int .i64 f.o, .int .i64 f.b, .int .i64 f.w]) : FRow .i64 W (some ⟨g, 0, none⟩) [f] := by
  intro _
  refine ⟨g, 0, rfl, h.lt, fun k f' hk => ?_⟩
  have hk0 : k = 0 := by
    rcases Nat.eq_zero_or_pos k with h0 | h0
    · exact h0
    · rw [List.getElem?_eq_none (by simp; omega)] at hk
      cases hk
  subst hk0
  simp at hk
  subst hk
  have ad : ∀ j, (⟨g, 0, none⟩ : Addr).add j = ⟨g, j, none⟩ := by
    intro j
    by_cases hj : j = 0 <;> simp [Addr.add, hj]
  have c := World.news_of_block (cs := #[.int .i64 f.o, .int .i64 f.b, .int .i64 f.w]) h
  have c0 := c 0 (.int .i64 f.o) rfl
  have c1 := c 1 (.int .i64 f.b) rfl
  have c2 := c 2 (.int .i64 f.w) rfl
  rw [ad] at c0 c1 c2
  exact ⟨by simpa using c0, by simpa using c1, by simpa using c2⟩
end Go.Proofs.YtmhlfipgomdiaaaDoor
