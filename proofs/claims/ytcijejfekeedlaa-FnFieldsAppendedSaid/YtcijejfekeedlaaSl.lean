/- Fields in a slice: what a slice holds; the reference's functions on slices of fields. -/
import Derived.Test.YtcijejfekeedlaaCore
import Derived.WalkKit
import Derived.WalkSpells
import Derived.WalkLawsBesides
import Derived.Below
import Derived.BigQuiet
import Derived.Deep.QuietTactic
import Derived.Laws.Pointers
import Derived.Handy
import Derived.Lib.Hide
import Derived.LoopTactic
namespace Go.Proofs.Ytcijejfekeedlaa
open Go.RowKit

/-- A field: where it begins, its bits, its word. -/
structure Fld where
  o : Int
  b : Int
  w : Int

/-- The cells behind a slice of fields. -/
def FRow (kd : IntKind) (W : World) (A : Option Addr) (fs : List Fld) : Prop :=
  fs ≠ [] → ∃ bl off, A = some ⟨bl, off, none⟩ ∧ bl < W.heap.size ∧ ∀ (k : Nat) (f : Fld), fs[k]? = some f →
    W.cell? ⟨bl, off + k * 3, none⟩ = some (.int kd f.o) ∧ W.cell? ⟨bl, off + k * 3 + 1, none⟩ = some (.int kd f.b) ∧ W.cell? ⟨bl, off + k * 3 + 2, none⟩ = some (.int kd f.w)

theorem FRow.below {kd : IntKind} {W W' : World} {A : Option Addr} {fs : List Fld} (h : FRow kd W A fs) (hb : Below W.heap.size W W') : FRow kd W' A fs := by
  intro hne
  obtain ⟨bl, off, hA, hlt, hc⟩ := h hne
  refine ⟨bl, off, hA, Nat.lt_of_lt_of_le hlt hb.size, fun k f hf => ?_⟩
  obtain ⟨h0, h1, h2⟩ := hc k f hf
  exact ⟨(hb.cell (p := ⟨bl, off + k * 3, none⟩) hlt).trans h0, (hb.cell (p := ⟨bl, off + k * 3 + 1, none⟩) hlt).trans h1, (hb.cell (p := ⟨bl, off + k * 3 + 2, none⟩) hlt).trans h2⟩

def sumB (fs : List Fld) : Int := (fs.map (·.b)).sum
def allR (fs : List Fld) : Bool := fs.all fun f => frb f.o f.b f.w
def fsr (fs : List Fld) : Bool := allR fs && decide (1 ≤ sumB fs ∧ sumB fs ≤ 64)

theorem take_snoc {α : Type} (l : List α) (k : Nat) (f : α) (h : l[k]? = some f) : l.take (k + 1) = l.take k ++ [f] := by
  obtain ⟨hk, rfl⟩ := List.getElem?_eq_some_iff.1 h
  exact List.take_succ_eq_append_getElem hk
theorem sumB_snoc (l : List Fld) (f : Fld) : sumB (l ++ [f]) = sumB l + f.b := by simp [sumB]
theorem allR_snoc (l : List Fld) (f : Fld) : allR (l ++ [f]) = (allR l && frb f.o f.b f.w) := by simp [allR]
theorem frb_spec {o b w : Int} (h : frb o b w = true) : 1 ≤ b ∧ b ≤ 32 ∧ 0 ≤ o ∧ o ≤ 31 ∧ o + b ≤ 32 ∧ 0 ≤ w ∧ w ≤ 1 := by simpa [frb] using h
theorem sumB_bounds (l : List Fld) (h : allR l = true) : (l.length : Int) ≤ sumB l ∧ sumB l ≤ 32 * l.length := by
  induction l with
  | nil => simp [sumB]
  | cons f l ih =>
    simp only [allR, List.all_cons, Bool.and_eq_true] at h
    have hf := frb_spec h.1
    have := ih h.2
    simp only [sumB, List.map_cons, List.sum_cons, List.length_cons] at *
    omega

theorem fsr_no {l : List Fld} {k : Nat} {f : Fld} (h : l[k]? = some f) (hf : frb f.o f.b f.w = false) : fsr l = false := by
  have hm : f ∈ l := List.mem_of_getElem? h
  have : allR l = false := by
    cases he : allR l
    · rfl
    · rw [allR, List.all_eq_true] at he
      have := he f hm
      rw [hf] at this
      cases this
  simp [fsr, this]
theorem fsr_all {l : List Fld} (h : fsr l = true) : allR l = true ∧ 1 ≤ sumB l ∧ sumB l ≤ 64 := by simpa [fsr] using h

set_option maxHeartbeats 1000000 in
theorem fieldsRight_any (fs : List Fld) (A : Option Addr) (c : Nat) (w : World) (hn : fs.length ≤ 2147483647) (hr : FRow .i64 w A fs) :
    Calls Try.prog 17 #[.slice A fs.length c] w fun e w' => e = .returned (.bool (fsr fs)) ∧ Below w.heap.size w w' := by
  go_enter Try.func17, Try.ntmps17
  go_wp2
  go_loopw [3, 4] (fun n i wr => ∃ k : Nat, k ≤ fs.length ∧ i = .int .i64 k ∧ n = .int .i64 (sumB (fs.take k)) ∧ allR (fs.take k) = true ∧ Below w.heap.size w wr) (fun _ i _ => fs.length - (intOf i).toNat)
  case atStart => exact ⟨0, Nat.zero_le _, rfl, by simp [sumB], by simp [allR], Below.refl _ _⟩
  case round =>
    obtain ⟨k, hk, rfl, rfl, hall, hbel⟩ := hrel
    have hb := sumB_bounds _ hall
    rw [List.length_take] at hb
    by_cases hlt : k < fs.length
    · obtain ⟨f, hf⟩ : ∃ f, fs[k]? = some f := ⟨_, List.getElem?_eq_getElem hlt⟩
      obtain ⟨bl, off, rfl, hbl, hcell⟩ := (hr.below hbel) (by rintro rfl; simp at hlt)
      obtain ⟨h0, h1, h2⟩ := hcell k f hf
      clear hcell
      have Hall := Lib.hid hall
      clear hall
      cases hfr : frb f.o f.b f.w
      · go_wp2_with (go_at_call 15; refine (right_any f.o f.b f.w _).mono ?_; rw [hfr]; rintro e w1 ⟨rfl, hb1⟩; obtain ⟨hc, hf', hs, hl⟩ := bcellN wr.heap.size hb1 (Nat.le_refl _))
        go_ret
        exact ⟨ret_bool (fsr_no hf hfr).symm, hbel.trans (hb1.mono hbel.size)⟩
      · have hb3 := frb_spec hfr
        go_wp2_with (go_at_call 15; refine (right_any f.o f.b f.w _).mono ?_; rw [hfr]; rintro e w1 ⟨rfl, hb1⟩; obtain ⟨hc, hf', hs, hl⟩ := bcellN wr.heap.size hb1 (Nat.le_refl _))
        go_roundw
        case rel => exact ⟨k + 1, by omega, by go_num, by rw [take_snoc fs k f hf, sumB_snoc], by rw [take_snoc fs k f hf, allR_snoc, Hall.out, hfr]; rfl, hbel.trans (hb1.mono hbel.size)⟩
        case measure => simp [intOf]; omega
    · obtain rfl : k = fs.length := by omega
      rw [List.take_length] at hall hb ⊢
      go_wp2
      all_goals go_ret
      all_goals refine ⟨ret_bool ?_, hbel⟩
      all_goals (rw [fsr, hall, Bool.true_and, Bool.eq_iff_iff]; simp; omega)

/-- The bits of fields joined, one field behind the other. -/
def jn (x0 x1 : Int) (l : List Fld) : Int := l.foldl (fun a f => a * 2 ^ f.b.toNat + fv (ws x0 x1 f.w) f.o f.b) 0
theorem jn_snoc (x0 x1 : Int) (l : List Fld) (f : Fld) : jn x0 x1 (l ++ [f]) = jn x0 x1 l * 2 ^ f.b.toNat + fv (ws x0 x1 f.w) f.o f.b := by simp [jn]
theorem allR_take {l : List Fld} (h : allR l = true) (k : Nat) : allR (l.take k) = true := by
  rw [allR, List.all_eq_true] at *
  exact fun f hf => h f (List.mem_of_mem_take hf)
theorem allR_get {l : List Fld} (h : allR l = true) {k : Nat} {f : Fld} (hf : l[k]? = some f) : frb f.o f.b f.w = true := by
  rw [allR, List.all_eq_true] at h
  exact h f (List.mem_of_getElem? hf)
theorem sumB_append (a b : List Fld) : sumB (a ++ b) = sumB a + sumB b := by simp [sumB]
theorem sumB_take_le {l : List Fld} (h : allR l = true) (k : Nat) : sumB (l.take k) ≤ sumB l := by
  have hd : allR (l.drop k) = true := by
    rw [allR, List.all_eq_true] at *
    exact fun f hf => h f (List.mem_of_mem_drop hf)
  have h1 := (sumB_bounds _ hd).1
  have e := sumB_append (l.take k) (l.drop k)
  rw [List.take_append_drop] at e
  omega
theorem jn_bounds (x0 x1 : Int) (l : List Fld) (h : allR l = true) : 0 ≤ jn x0 x1 l ∧ jn x0 x1 l < 2 ^ (sumB l).toNat := by
  suffices H : ∀ n, n ≤ l.length → 0 ≤ jn x0 x1 (l.take n) ∧ jn x0 x1 (l.take n) < 2 ^ (sumB (l.take n)).toNat by
    have := H l.length (Nat.le_refl _)
    rwa [List.take_length] at this
  intro n
  induction n with
  | zero => intro _; simp [jn, sumB]
  | succ n ih =>
    intro hn
    have hf : l[n]? = some l[n] := List.getElem?_eq_getElem (by omega)
    obtain ⟨i0, i1⟩ := ih (by omega)
    have hr := frb_spec (allR_get h hf)
    have hs := (sumB_bounds _ (allR_take h n)).1
    rw [take_snoc l n _ hf, jn_snoc, sumB_snoc]
    generalize l[n] = f at *
    have b0 := fv_nonneg (ws x0 x1 f.w) f.o f.b
    have b1 := fv_lt (ws x0 x1 f.w) f.o f.b
    have p := two_pos f.b.toNat
    have e : (sumB (l.take n) + f.b).toNat = (sumB (l.take n)).toNat + f.b.toNat := by omega
    rw [e, two_add]
    have m1 : 0 ≤ jn x0 x1 (l.take n) * 2 ^ f.b.toNat := Int.mul_nonneg i0 (Int.le_of_lt p)
    have m2 : (jn x0 x1 (l.take n) + 1) * 2 ^ f.b.toNat ≤ 2 ^ (sumB (l.take n)).toNat * 2 ^ f.b.toNat := Int.mul_le_mul_of_nonneg_right (by omega) (Int.le_of_lt p)
    rw [Int.add_mul, Int.one_mul] at m2
    omega
end Go.Proofs.Ytcijejfekeedlaa
