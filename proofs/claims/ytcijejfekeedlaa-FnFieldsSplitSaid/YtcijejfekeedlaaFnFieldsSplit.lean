/- A list of fields is its first part, and behind it the second. It holds for every input, with no condition. -/
import Derived.Test.YtcijejfekeedlaaRows
import Derived.Test.YtcijejfekeedlaaFr
import Derived.WalkKit
import Derived.WalkSpells
import Derived.WalkLawsBesides
import Derived.ProofKit
import Derived.OpenShut
import Derived.ChangeOld
import Derived.Below
import Derived.Carry
import Derived.Handy
import Derived.Lib.Hide
import Derived.Laws.Pointers
import Derived.Test.YtcijejfekeedlaaFf
import Derived.Test.YtcijejfekeedlaaVal
import Derived.Test.YtcijejfekeedlaaApp
import Derived.OwnWalk
namespace Go.Proofs.Ytcijejfekeedlaa.fnFieldsSplit
open Go.ChangeShapes Go.WideShapes Go.ChangeAt Go.RowKit Go.Joins Go.Deep
set_option linter.unusedVariables false

theorem or_joinN (J v b S : Int) (hb : 1 ≤ b) (hS0 : 0 ≤ S) (hS : S + b ≤ 64) (J0 : 0 ≤ J) (J1 : J < 2 ^ S.toNat) (v0 : 0 ≤ v) (v1 : v < 2 ^ b.toNat) :
    bits .or .u64 (IntKind.u64.wrap (J * 2 ^ b.toNat)) v = J * 2 ^ b.toNat + v := by
  have p := two_pos b.toNat
  have a1 : (J + 1) * 2 ^ b.toNat ≤ 2 ^ S.toNat * 2 ^ b.toNat := Int.mul_le_mul_of_nonneg_right (by omega) (Int.le_of_lt p)
  have a2 : 0 ≤ J * 2 ^ b.toNat := Int.mul_nonneg J0 (Int.le_of_lt p)
  rw [Int.add_mul, Int.one_mul, ← two_add] at a1
  have a3 : (2 : Int) ^ (S.toNat + b.toNat) ≤ 18446744073709551616 := two_le (n := 64) (by omega)
  rw [IntKind.wrap_u64, Int.emod_eq_of_lt a2 (by omega)]
  obtain ⟨U, rfl⟩ := Int.eq_ofNat_of_zero_le J0
  obtain ⟨V, rfl⟩ := Int.eq_ofNat_of_zero_le v0
  have e : (U : Int) * 2 ^ b.toNat = ((U * 2 ^ b.toNat : Nat) : Int) := by simp
  have hv : V < 2 ^ b.toNat := by exact_mod_cast v1
  have hU : ((U * 2 ^ b.toNat : Nat) : Int) < 18446744073709551616 := by rw [← e]; omega
  have hV : V < 18446744073709551616 := by omega
  rw [e, u64_or_nat _ _ (by omega) hV, nat_join b.toNat _ _ (by simp) hv]
  simp

set_option maxRecDepth 100000 in
set_option maxHeartbeats 2000000 in
theorem wk0 (w : World) (A0 : Option Addr) (c0 : Nat) (fs0 : List Fld) (A1 : Option Addr) (c1 : Nat) (fs1 : List Fld) (x2 y2 : Int) (hr0 : FRow .i64 w A0 fs0) (hnil0 : A0 = none → c0 = 0) (hr1 : FRow .i64 w A1 fs1) (hnil1 : A1 = none → c1 = 0) (hx2 : 0 ≤ x2) (hx2' : x2 < 4294967296) (hy2 : 0 ≤ y2) (hy2' : y2 < 4294967296) (hl0 : fs0.length ≤ 2147483647) (hl1 : fs1.length ≤ 2147483647) (hf0 : fsr fs0 = false) :
    Calls Try.prog 12 #[.slice A0 fs0.length c0, .slice A1 fs1.length c1, .agg #[.int .u32 x2, .int .u32 y2]] w fun e w' => e = .returned (.bool true) ∧ Below w.heap.size w w' := by
  obtain ⟨fs2, Hfs2⟩ : ∃ l : List Fld, Hid (l = fs0 ++ fs1) := ⟨_, Lib.hid rfl⟩
  obtain ⟨i0, hi, hz0, hz1, hz2⟩ := info_parts infoF
  have hown0 : ((w.alloc (.cells #[.int .u32 x2, .int .u32 y2] 25)).alloc (.cells #[] 23)).ownsRow (w.heap.size + 1) 23 3 (.slice (some ⟨w.heap.size + 1, 0, none⟩) 0 0) 0 [] := by
    have h := own_empty (w.alloc (.cells #[.int .u32 x2, .int .u32 y2] 25)) 23
    simpa using h
  have Hr0 := Lib.hid (show ∀ W, Below w.heap.size w W → FRow .i64 W A0 fs0 from fun W h => hr0.below h)
  have Hr1 := Lib.hid (show ∀ W, Below w.heap.size w W → FRow .i64 W A1 fs1 from fun W h => hr1.below h)
  have tok1 : True := trivial
  have tok2 : True := trivial
  go_enter Try.func12, Try.ntmps12
  go_wp2_with (first
    | (at_builtin; have _t := tok1; refine wpList_append_flds rfl _ _ 31 rfl (w.heap.size + 1) 23 i0 _ Try.underlying31 hi hz0 hz1 hz2 rfl (.slice (some ⟨w.heap.size + 1, 0, none⟩) 0 0) 0 [] rfl hown0 A0 fs0 c0 rfl (Hr0.out _ (by go_grown)) hnil0 (by omega) (by simp) ?_; intro v1 w1 hownv1 hgv1; clear tok1; have hbv1 : Below (w.heap.size + 1) (w.alloc (.cells #[.int .u32 x2, .int .u32 y2] 25)) w1 := Below.grown (Below.alloc (Below.refl _ _) (by simp) _) hgv1 (by simp) (fun g hg => by simp [Value.ownBlock] at hg; omega); have hbw1 : Below w.heap.size w w1 := Below.trans (by go_grown) (hbv1.mono (by omega)))
    | (at_builtin; have _t := tok2; refine wpList_append_flds rfl _ _ 31 rfl (w.heap.size + 1) 23 i0 _ Try.underlying31 hi hz0 hz1 hz2 rfl v1 (0 + fs0.length) _ rfl hownv1 A1 fs1 c1 rfl (Hr1.out _ hbw1) hnil1 (by omega) (by have zs := hbv1.size; simp at zs; omega) ?_; intro v2 w2 hownv2 hgv2; clear tok2; have hbv2 : Below (w.heap.size + 1) (w.alloc (.cells #[.int .u32 x2, .int .u32 y2] 25)) w2 := Below.grown hbv1 hgv2 (by have zs := hbv1.size; simp at zs; omega) (fun g hg => (hownv1.lt g hg).1); have hbw2 : Below w.heap.size w w2 := Below.trans (by go_grown) (hbv2.mono (by omega)); rw [List.nil_append, ← flat_append, Nat.zero_add, ← List.length_append, ← Hfs2.out] at hownv2; obtain ⟨A2, c2, rfl⟩ := own_slice hownv2))
  have hr2 := FRow.of_own (fs := fs2) rfl hownv2
  have Hr2 := Lib.hid (show ∀ W, Below w2.heap.size w2 W → FRow .i64 W A2 fs2 from fun W h => hr2.below h)
  have hz2 : w.heap.size + 1 ≤ w2.heap.size := by have := hbv2.size; simp at this; omega
  have hc0 : w2.cell? ⟨w.heap.size, 0, none⟩ = some (.int .u32 x2) := (hbv2.cell (p := ⟨w.heap.size, 0, none⟩) (by simp)).trans (by simp [go_sem])
  have hc1 : w2.cell? ⟨w.heap.size, 1, none⟩ = some (.int .u32 y2) := (hbv2.cell (p := ⟨w.heap.size, 1, none⟩) (by simp)).trans (by simp [go_sem])
  have hfz : w.heap.size < w2.heap.size := by omega
  clear hownv2 hr2 hownv1 hgv1 hgv2
  go_wp2_with fail
  refine (fieldsRight_any fs0 A0 c0 _ hl0 (Hr0.out _ hbw2)).mono ?_
  rw [hf0]
  rintro e w3 ⟨rfl, hbw3⟩
  obtain ⟨hcw3, hfw3, hsw3, hlw3⟩ := bcellN (w.heap.size + 1) hbw3 (by first | assumption | (simp; done) | (simp; omega) | omega)
  go_wp2
  go_ret
  refine ⟨rfl, ?_⟩
  (repeat' (first | (with_reducible exact Below.refl _ _) | (with_reducible refine Below.drew ?_) | (with_reducible refine Below.alloc ?_ ?_ _) | (with_reducible refine Below.setCell ?_ ?_ _) | (with_reducible refine Below.trans ?_ (hbw3.mono ?_)) | (with_reducible refine Below.trans ?_ (hbw2.mono ?_)) | (simp; done) | (simp; omega) | omega | (have zzw3 := hbw3.size; have zzw2 := hbw2.size; first | omega | (simp at zzw3 zzw2 ⊢; omega))))


set_option maxRecDepth 100000 in
set_option maxHeartbeats 2000000 in
theorem wk1 (w : World) (A0 : Option Addr) (c0 : Nat) (fs0 : List Fld) (A1 : Option Addr) (c1 : Nat) (fs1 : List Fld) (x2 y2 : Int) (hr0 : FRow .i64 w A0 fs0) (hnil0 : A0 = none → c0 = 0) (hr1 : FRow .i64 w A1 fs1) (hnil1 : A1 = none → c1 = 0) (hx2 : 0 ≤ x2) (hx2' : x2 < 4294967296) (hy2 : 0 ≤ y2) (hy2' : y2 < 4294967296) (hl0 : fs0.length ≤ 2147483647) (hl1 : fs1.length ≤ 2147483647) (hf0 : fsr fs0 = true) (hf1 : fsr fs1 = false) :
    Calls Try.prog 12 #[.slice A0 fs0.length c0, .slice A1 fs1.length c1, .agg #[.int .u32 x2, .int .u32 y2]] w fun e w' => e = .returned (.bool true) ∧ Below w.heap.size w w' := by
  obtain ⟨fs2, Hfs2⟩ : ∃ l : List Fld, Hid (l = fs0 ++ fs1) := ⟨_, Lib.hid rfl⟩
  obtain ⟨i0, hi, hz0, hz1, hz2⟩ := info_parts infoF
  have hown0 : ((w.alloc (.cells #[.int .u32 x2, .int .u32 y2] 25)).alloc (.cells #[] 23)).ownsRow (w.heap.size + 1) 23 3 (.slice (some ⟨w.heap.size + 1, 0, none⟩) 0 0) 0 [] := by
    have h := own_empty (w.alloc (.cells #[.int .u32 x2, .int .u32 y2] 25)) 23
    simpa using h
  have Hr0 := Lib.hid (show ∀ W, Below w.heap.size w W → FRow .i64 W A0 fs0 from fun W h => hr0.below h)
  have Hr1 := Lib.hid (show ∀ W, Below w.heap.size w W → FRow .i64 W A1 fs1 from fun W h => hr1.below h)
  have tok1 : True := trivial
  have tok2 : True := trivial
  go_enter Try.func12, Try.ntmps12
  go_wp2_with (first
    | (at_builtin; have _t := tok1; refine wpList_append_flds rfl _ _ 31 rfl (w.heap.size + 1) 23 i0 _ Try.underlying31 hi hz0 hz1 hz2 rfl (.slice (some ⟨w.heap.size + 1, 0, none⟩) 0 0) 0 [] rfl hown0 A0 fs0 c0 rfl (Hr0.out _ (by go_grown)) hnil0 (by omega) (by simp) ?_; intro v1 w1 hownv1 hgv1; clear tok1; have hbv1 : Below (w.heap.size + 1) (w.alloc (.cells #[.int .u32 x2, .int .u32 y2] 25)) w1 := Below.grown (Below.alloc (Below.refl _ _) (by simp) _) hgv1 (by simp) (fun g hg => by simp [Value.ownBlock] at hg; omega); have hbw1 : Below w.heap.size w w1 := Below.trans (by go_grown) (hbv1.mono (by omega)))
    | (at_builtin; have _t := tok2; refine wpList_append_flds rfl _ _ 31 rfl (w.heap.size + 1) 23 i0 _ Try.underlying31 hi hz0 hz1 hz2 rfl v1 (0 + fs0.length) _ rfl hownv1 A1 fs1 c1 rfl (Hr1.out _ hbw1) hnil1 (by omega) (by have zs := hbv1.size; simp at zs; omega) ?_; intro v2 w2 hownv2 hgv2; clear tok2; have hbv2 : Below (w.heap.size + 1) (w.alloc (.cells #[.int .u32 x2, .int .u32 y2] 25)) w2 := Below.grown hbv1 hgv2 (by have zs := hbv1.size; simp at zs; omega) (fun g hg => (hownv1.lt g hg).1); have hbw2 : Below w.heap.size w w2 := Below.trans (by go_grown) (hbv2.mono (by omega)); rw [List.nil_append, ← flat_append, Nat.zero_add, ← List.length_append, ← Hfs2.out] at hownv2; obtain ⟨A2, c2, rfl⟩ := own_slice hownv2))
  have hr2 := FRow.of_own (fs := fs2) rfl hownv2
  have Hr2 := Lib.hid (show ∀ W, Below w2.heap.size w2 W → FRow .i64 W A2 fs2 from fun W h => hr2.below h)
  have hz2 : w.heap.size + 1 ≤ w2.heap.size := by have := hbv2.size; simp at this; omega
  have hc0 : w2.cell? ⟨w.heap.size, 0, none⟩ = some (.int .u32 x2) := (hbv2.cell (p := ⟨w.heap.size, 0, none⟩) (by simp)).trans (by simp [go_sem])
  have hc1 : w2.cell? ⟨w.heap.size, 1, none⟩ = some (.int .u32 y2) := (hbv2.cell (p := ⟨w.heap.size, 1, none⟩) (by simp)).trans (by simp [go_sem])
  have hfz : w.heap.size < w2.heap.size := by omega
  clear hownv2 hr2 hownv1 hgv1 hgv2
  go_wp2_with fail
  refine (fieldsRight_any fs0 A0 c0 _ hl0 (Hr0.out _ hbw2)).mono ?_
  rw [hf0]
  rintro e w3 ⟨rfl, hbw3⟩
  obtain ⟨hcw3, hfw3, hsw3, hlw3⟩ := bcellN (w.heap.size + 1) hbw3 (by first | assumption | (simp; done) | (simp; omega) | omega)
  go_wp2_with fail
  refine (fieldsRight_any fs1 A1 c1 _ hl1 (Hr1.out _ (by repeat' (first | (with_reducible exact Below.refl _ _) | (with_reducible refine Below.drew ?_) | (with_reducible refine Below.alloc ?_ ?_ _) | (with_reducible refine Below.setCell ?_ ?_ _) | (with_reducible refine Below.trans ?_ (hbw3.mono ?_)) | (with_reducible refine Below.trans ?_ (hbw2.mono ?_)) | (simp; done) | (simp; omega) | omega | (have zzw3 := hbw3.size; have zzw2 := hbw2.size; first | omega | (simp at zzw3 zzw2 ⊢; omega)))))).mono ?_
  rw [hf1]
  rintro e w4 ⟨rfl, hbw4⟩
  obtain ⟨hcw4, hfw4, hsw4, hlw4⟩ := bcellN (w.heap.size + 1) hbw4 (by first | assumption | (simp; done) | (simp; omega) | omega)
  go_wp2
  go_ret
  refine ⟨rfl, ?_⟩
  (repeat' (first | (with_reducible exact Below.refl _ _) | (with_reducible refine Below.drew ?_) | (with_reducible refine Below.alloc ?_ ?_ _) | (with_reducible refine Below.setCell ?_ ?_ _) | (with_reducible refine Below.trans ?_ (hbw4.mono ?_)) | (with_reducible refine Below.trans ?_ (hbw3.mono ?_)) | (with_reducible refine Below.trans ?_ (hbw2.mono ?_)) | (simp; done) | (simp; omega) | omega | (have zzw4 := hbw4.size; have zzw3 := hbw3.size; have zzw2 := hbw2.size; first | omega | (simp at zzw4 zzw3 zzw2 ⊢; omega))))


set_option maxRecDepth 100000 in
set_option maxHeartbeats 2000000 in
theorem wk2 (w : World) (A0 : Option Addr) (c0 : Nat) (fs0 : List Fld) (A1 : Option Addr) (c1 : Nat) (fs1 : List Fld) (x2 y2 : Int) (hr0 : FRow .i64 w A0 fs0) (hnil0 : A0 = none → c0 = 0) (hr1 : FRow .i64 w A1 fs1) (hnil1 : A1 = none → c1 = 0) (hx2 : 0 ≤ x2) (hx2' : x2 < 4294967296) (hy2 : 0 ≤ y2) (hy2' : y2 < 4294967296) (hl0 : fs0.length ≤ 2147483647) (hl1 : fs1.length ≤ 2147483647) (hf0 : fsr fs0 = true) (hf1 : fsr fs1 = true) (hS : ¬ sumB (fs0 ++ fs1) ≤ 64) :
    Calls Try.prog 12 #[.slice A0 fs0.length c0, .slice A1 fs1.length c1, .agg #[.int .u32 x2, .int .u32 y2]] w fun e w' => e = .returned (.bool true) ∧ Below w.heap.size w w' := by
  obtain ⟨fs2, Hfs2⟩ : ∃ l : List Fld, Hid (l = fs0 ++ fs1) := ⟨_, Lib.hid rfl⟩
  obtain ⟨i0, hi, hz0, hz1, hz2⟩ := info_parts infoF
  have hown0 : ((w.alloc (.cells #[.int .u32 x2, .int .u32 y2] 25)).alloc (.cells #[] 23)).ownsRow (w.heap.size + 1) 23 3 (.slice (some ⟨w.heap.size + 1, 0, none⟩) 0 0) 0 [] := by
    have h := own_empty (w.alloc (.cells #[.int .u32 x2, .int .u32 y2] 25)) 23
    simpa using h
  have Hr0 := Lib.hid (show ∀ W, Below w.heap.size w W → FRow .i64 W A0 fs0 from fun W h => hr0.below h)
  have Hr1 := Lib.hid (show ∀ W, Below w.heap.size w W → FRow .i64 W A1 fs1 from fun W h => hr1.below h)
  obtain ⟨ha0, hp0, hq0⟩ := fsr_all hf0
  obtain ⟨ha1, hp1, hq1⟩ := fsr_all hf1
  have hall : allR (fs0 ++ fs1) = true := by
    rw [show allR (fs0 ++ fs1) = (allR fs0 && allR fs1) from by simp [allR], ha0, ha1]
    rfl
  have hsum := sumB_append fs0 fs1
  have hlen2 : (fs0 ++ fs1).length ≤ 2147483647 := by have := (sumB_bounds _ hall).1; omega
  rw [← Hfs2.out] at hall hsum hlen2 hS
  have Hall := Lib.hid hall
  clear hall hsum
  have tok1 : True := trivial
  have tok2 : True := trivial
  go_enter Try.func12, Try.ntmps12
  go_wp2_with (first
    | (at_builtin; have _t := tok1; refine wpList_append_flds rfl _ _ 31 rfl (w.heap.size + 1) 23 i0 _ Try.underlying31 hi hz0 hz1 hz2 rfl (.slice (some ⟨w.heap.size + 1, 0, none⟩) 0 0) 0 [] rfl hown0 A0 fs0 c0 rfl (Hr0.out _ (by go_grown)) hnil0 (by omega) (by simp) ?_; intro v1 w1 hownv1 hgv1; clear tok1; have hbv1 : Below (w.heap.size + 1) (w.alloc (.cells #[.int .u32 x2, .int .u32 y2] 25)) w1 := Below.grown (Below.alloc (Below.refl _ _) (by simp) _) hgv1 (by simp) (fun g hg => by simp [Value.ownBlock] at hg; omega); have hbw1 : Below w.heap.size w w1 := Below.trans (by go_grown) (hbv1.mono (by omega)))
    | (at_builtin; have _t := tok2; refine wpList_append_flds rfl _ _ 31 rfl (w.heap.size + 1) 23 i0 _ Try.underlying31 hi hz0 hz1 hz2 rfl v1 (0 + fs0.length) _ rfl hownv1 A1 fs1 c1 rfl (Hr1.out _ hbw1) hnil1 (by omega) (by have zs := hbv1.size; simp at zs; omega) ?_; intro v2 w2 hownv2 hgv2; clear tok2; have hbv2 : Below (w.heap.size + 1) (w.alloc (.cells #[.int .u32 x2, .int .u32 y2] 25)) w2 := Below.grown hbv1 hgv2 (by have zs := hbv1.size; simp at zs; omega) (fun g hg => (hownv1.lt g hg).1); have hbw2 : Below w.heap.size w w2 := Below.trans (by go_grown) (hbv2.mono (by omega)); rw [List.nil_append, ← flat_append, Nat.zero_add, ← List.length_append, ← Hfs2.out] at hownv2; obtain ⟨A2, c2, rfl⟩ := own_slice hownv2))
  have hr2 := FRow.of_own (fs := fs2) rfl hownv2
  have Hr2 := Lib.hid (show ∀ W, Below w2.heap.size w2 W → FRow .i64 W A2 fs2 from fun W h => hr2.below h)
  have hz2 : w.heap.size + 1 ≤ w2.heap.size := by have := hbv2.size; simp at this; omega
  have hc0 : w2.cell? ⟨w.heap.size, 0, none⟩ = some (.int .u32 x2) := (hbv2.cell (p := ⟨w.heap.size, 0, none⟩) (by simp)).trans (by simp [go_sem])
  have hc1 : w2.cell? ⟨w.heap.size, 1, none⟩ = some (.int .u32 y2) := (hbv2.cell (p := ⟨w.heap.size, 1, none⟩) (by simp)).trans (by simp [go_sem])
  have hfz : w.heap.size < w2.heap.size := by omega
  clear hownv2 hr2 hownv1 hgv1 hgv2
  go_wp2_with fail
  refine (fieldsRight_any fs0 A0 c0 _ hl0 (Hr0.out _ hbw2)).mono ?_
  rw [hf0]
  rintro e w3 ⟨rfl, hbw3⟩
  obtain ⟨hcw3, hfw3, hsw3, hlw3⟩ := bcellN (w.heap.size + 1) hbw3 (by first | assumption | (simp; done) | (simp; omega) | omega)
  go_wp2_with fail
  refine (fieldsRight_any fs1 A1 c1 _ hl1 (Hr1.out _ (by repeat' (first | (with_reducible exact Below.refl _ _) | (with_reducible refine Below.drew ?_) | (with_reducible refine Below.alloc ?_ ?_ _) | (with_reducible refine Below.setCell ?_ ?_ _) | (with_reducible refine Below.trans ?_ (hbw3.mono ?_)) | (with_reducible refine Below.trans ?_ (hbw2.mono ?_)) | (simp; done) | (simp; omega) | omega | (have zzw3 := hbw3.size; have zzw2 := hbw2.size; first | omega | (simp at zzw3 zzw2 ⊢; omega)))))).mono ?_
  rw [hf1]
  rintro e w4 ⟨rfl, hbw4⟩
  obtain ⟨hcw4, hfw4, hsw4, hlw4⟩ := bcellN (w.heap.size + 1) hbw4 (by first | assumption | (simp; done) | (simp; omega) | omega)
  go_wp2_with fail
  refine (sum_any fs2 A2 c2 _ hlen2 (Hr2.out _ (by repeat' (first | (with_reducible exact Below.refl _ _) | (with_reducible refine Below.drew ?_) | (with_reducible refine Below.alloc ?_ ?_ _) | (with_reducible refine Below.setCell ?_ ?_ _) | (with_reducible refine Below.trans ?_ (hbw4.mono ?_)) | (with_reducible refine Below.trans ?_ (hbw3.mono ?_)) | (simp; done) | (simp; omega) | omega | (have zzw4 := hbw4.size; have zzw3 := hbw3.size; first | omega | (simp at zzw4 zzw3 ⊢; omega))))) Hall.out).mono ?_
  rintro e w5 ⟨rfl, rfl⟩
  go_wp2
  go_ret
  refine ⟨rfl, ?_⟩
  (repeat' (first | (with_reducible exact Below.refl _ _) | (with_reducible refine Below.drew ?_) | (with_reducible refine Below.alloc ?_ ?_ _) | (with_reducible refine Below.setCell ?_ ?_ _) | (with_reducible refine Below.trans ?_ (hbw4.mono ?_)) | (with_reducible refine Below.trans ?_ (hbw3.mono ?_)) | (with_reducible refine Below.trans ?_ (hbw2.mono ?_)) | (simp; done) | (simp; omega) | omega | (have zzw4 := hbw4.size; have zzw3 := hbw3.size; have zzw2 := hbw2.size; first | omega | (simp at zzw4 zzw3 zzw2 ⊢; omega))))


set_option maxRecDepth 100000 in
set_option maxHeartbeats 2000000 in
theorem wk3 (w : World) (A0 : Option Addr) (c0 : Nat) (fs0 : List Fld) (A1 : Option Addr) (c1 : Nat) (fs1 : List Fld) (x2 y2 : Int) (hr0 : FRow .i64 w A0 fs0) (hnil0 : A0 = none → c0 = 0) (hr1 : FRow .i64 w A1 fs1) (hnil1 : A1 = none → c1 = 0) (hx2 : 0 ≤ x2) (hx2' : x2 < 4294967296) (hy2 : 0 ≤ y2) (hy2' : y2 < 4294967296) (hl0 : fs0.length ≤ 2147483647) (hl1 : fs1.length ≤ 2147483647) (hf0 : fsr fs0 = true) (hf1 : fsr fs1 = true) (hS : sumB (fs0 ++ fs1) ≤ 64) :
    Calls Try.prog 12 #[.slice A0 fs0.length c0, .slice A1 fs1.length c1, .agg #[.int .u32 x2, .int .u32 y2]] w fun e w' => e = .returned (.bool true) ∧ Below w.heap.size w w' := by
  obtain ⟨fs2, Hfs2⟩ : ∃ l : List Fld, Hid (l = fs0 ++ fs1) := ⟨_, Lib.hid rfl⟩
  obtain ⟨i0, hi, hz0, hz1, hz2⟩ := info_parts infoF
  have hown0 : ((w.alloc (.cells #[.int .u32 x2, .int .u32 y2] 25)).alloc (.cells #[] 23)).ownsRow (w.heap.size + 1) 23 3 (.slice (some ⟨w.heap.size + 1, 0, none⟩) 0 0) 0 [] := by
    have h := own_empty (w.alloc (.cells #[.int .u32 x2, .int .u32 y2] 25)) 23
    simpa using h
  have Hr0 := Lib.hid (show ∀ W, Below w.heap.size w W → FRow .i64 W A0 fs0 from fun W h => hr0.below h)
  have Hr1 := Lib.hid (show ∀ W, Below w.heap.size w W → FRow .i64 W A1 fs1 from fun W h => hr1.below h)
  obtain ⟨ha0, hp0, hq0⟩ := fsr_all hf0
  obtain ⟨ha1, hp1, hq1⟩ := fsr_all hf1
  have hall : allR (fs0 ++ fs1) = true := by
    rw [show allR (fs0 ++ fs1) = (allR fs0 && allR fs1) from by simp [allR], ha0, ha1]
    rfl
  have hsum := sumB_append fs0 fs1
  have hlen2 : (fs0 ++ fs1).length ≤ 2147483647 := by have := (sumB_bounds _ hall).1; omega
  rw [← Hfs2.out] at hall hsum hlen2 hS
  have Hall := Lib.hid hall
  have hl64 : fs2.length ≤ 64 := by have := (sumB_bounds _ hall).1; omega
  have h064 : fs0.length ≤ 64 := by have := (sumB_bounds _ ha0).1; omega
  have h164 : fs1.length ≤ 64 := by have := (sumB_bounds _ ha1).1; omega
  have hSp : 1 ≤ sumB fs2 := by omega
  have b0 := jn_bounds x2 y2 fs0 ha0
  have b1 := jn_bounds x2 y2 fs1 ha1
  have t1 : (jn x2 y2 fs2 == bits .or .u64 (IntKind.u64.wrap (jn x2 y2 fs0 * 2 ^ (sumB fs1).toNat)) (jn x2 y2 fs1)) = true := by
    rw [Hfs2.out, jn_append _ _ _ _ ha1]
    exact beq_iff_eq.2 (or_joinN _ _ _ (sumB fs0) (by omega) (by omega) (by omega) b0.1 b0.2 b1.1 b1.2).symm
  clear b0 b1 hall hsum
  have Ha0 := Lib.hid ha0
  have Ha1 := Lib.hid ha1
  clear ha0 ha1
  have tok1 : True := trivial
  have tok2 : True := trivial
  go_enter Try.func12, Try.ntmps12
  go_wp2_with (first
    | (at_builtin; have _t := tok1; refine wpList_append_flds rfl _ _ 31 rfl (w.heap.size + 1) 23 i0 _ Try.underlying31 hi hz0 hz1 hz2 rfl (.slice (some ⟨w.heap.size + 1, 0, none⟩) 0 0) 0 [] rfl hown0 A0 fs0 c0 rfl (Hr0.out _ (by go_grown)) hnil0 (by omega) (by simp) ?_; intro v1 w1 hownv1 hgv1; clear tok1; have hbv1 : Below (w.heap.size + 1) (w.alloc (.cells #[.int .u32 x2, .int .u32 y2] 25)) w1 := Below.grown (Below.alloc (Below.refl _ _) (by simp) _) hgv1 (by simp) (fun g hg => by simp [Value.ownBlock] at hg; omega); have hbw1 : Below w.heap.size w w1 := Below.trans (by go_grown) (hbv1.mono (by omega)))
    | (at_builtin; have _t := tok2; refine wpList_append_flds rfl _ _ 31 rfl (w.heap.size + 1) 23 i0 _ Try.underlying31 hi hz0 hz1 hz2 rfl v1 (0 + fs0.length) _ rfl hownv1 A1 fs1 c1 rfl (Hr1.out _ hbw1) hnil1 (by omega) (by have zs := hbv1.size; simp at zs; omega) ?_; intro v2 w2 hownv2 hgv2; clear tok2; have hbv2 : Below (w.heap.size + 1) (w.alloc (.cells #[.int .u32 x2, .int .u32 y2] 25)) w2 := Below.grown hbv1 hgv2 (by have zs := hbv1.size; simp at zs; omega) (fun g hg => (hownv1.lt g hg).1); have hbw2 : Below w.heap.size w w2 := Below.trans (by go_grown) (hbv2.mono (by omega)); rw [List.nil_append, ← flat_append, Nat.zero_add, ← List.length_append, ← Hfs2.out] at hownv2; obtain ⟨A2, c2, rfl⟩ := own_slice hownv2))
  have hr2 := FRow.of_own (fs := fs2) rfl hownv2
  have Hr2 := Lib.hid (show ∀ W, Below w2.heap.size w2 W → FRow .i64 W A2 fs2 from fun W h => hr2.below h)
  have hz2 : w.heap.size + 1 ≤ w2.heap.size := by have := hbv2.size; simp at this; omega
  have hc0 : w2.cell? ⟨w.heap.size, 0, none⟩ = some (.int .u32 x2) := (hbv2.cell (p := ⟨w.heap.size, 0, none⟩) (by simp)).trans (by simp [go_sem])
  have hc1 : w2.cell? ⟨w.heap.size, 1, none⟩ = some (.int .u32 y2) := (hbv2.cell (p := ⟨w.heap.size, 1, none⟩) (by simp)).trans (by simp [go_sem])
  have hfz : w.heap.size < w2.heap.size := by omega
  clear hownv2 hr2 hownv1 hgv1 hgv2
  go_wp2_with fail
  refine (fieldsRight_any fs0 A0 c0 _ hl0 (Hr0.out _ hbw2)).mono ?_
  rw [hf0]
  rintro e w3 ⟨rfl, hbw3⟩
  obtain ⟨hcw3, hfw3, hsw3, hlw3⟩ := bcellN (w.heap.size + 1) hbw3 (by first | assumption | (simp; done) | (simp; omega) | omega)
  go_wp2_with fail
  refine (fieldsRight_any fs1 A1 c1 _ hl1 (Hr1.out _ (by repeat' (first | (with_reducible exact Below.refl _ _) | (with_reducible refine Below.drew ?_) | (with_reducible refine Below.alloc ?_ ?_ _) | (with_reducible refine Below.setCell ?_ ?_ _) | (with_reducible refine Below.trans ?_ (hbw3.mono ?_)) | (with_reducible refine Below.trans ?_ (hbw2.mono ?_)) | (simp; done) | (simp; omega) | omega | (have zzw3 := hbw3.size; have zzw2 := hbw2.size; first | omega | (simp at zzw3 zzw2 ⊢; omega)))))).mono ?_
  rw [hf1]
  rintro e w4 ⟨rfl, hbw4⟩
  obtain ⟨hcw4, hfw4, hsw4, hlw4⟩ := bcellN (w.heap.size + 1) hbw4 (by first | assumption | (simp; done) | (simp; omega) | omega)
  go_wp2_with fail
  refine (sum_any fs2 A2 c2 _ hlen2 (Hr2.out _ (by repeat' (first | (with_reducible exact Below.refl _ _) | (with_reducible refine Below.drew ?_) | (with_reducible refine Below.alloc ?_ ?_ _) | (with_reducible refine Below.setCell ?_ ?_ _) | (with_reducible refine Below.trans ?_ (hbw4.mono ?_)) | (with_reducible refine Below.trans ?_ (hbw3.mono ?_)) | (simp; done) | (simp; omega) | omega | (have zzw4 := hbw4.size; have zzw3 := hbw3.size; first | omega | (simp at zzw4 zzw3 ⊢; omega))))) Hall.out).mono ?_
  rintro e w5 ⟨rfl, rfl⟩
  go_wp2_with fail
  refine (fieldsParse_any fs0 A0 c0 x2 y2 _ h064 (Hr0.out _ (by repeat' (first | (with_reducible exact Below.refl _ _) | (with_reducible refine Below.drew ?_) | (with_reducible refine Below.alloc ?_ ?_ _) | (with_reducible refine Below.setCell ?_ ?_ _) | (with_reducible refine Below.trans ?_ (hbw4.mono ?_)) | (with_reducible refine Below.trans ?_ (hbw3.mono ?_)) | (with_reducible refine Below.trans ?_ (hbw2.mono ?_)) | (simp; done) | (simp; omega) | omega | (have zzw4 := hbw4.size; have zzw3 := hbw3.size; have zzw2 := hbw2.size; first | omega | (simp at zzw4 zzw3 zzw2 ⊢; omega))))) Ha0.out hp0 hq0 hx2 hx2' hy2 hy2').mono ?_
  rintro e w6 ⟨rfl, hbw6⟩
  obtain ⟨hcw6, hfw6, hsw6, hlw6⟩ := bcellN (w.heap.size + 1) hbw6 (by first | assumption | (simp; done) | (simp; omega) | omega)
  go_wp2_with fail
  refine (fieldsParse_any fs1 A1 c1 x2 y2 _ h164 (Hr1.out _ (by repeat' (first | (with_reducible exact Below.refl _ _) | (with_reducible refine Below.drew ?_) | (with_reducible refine Below.alloc ?_ ?_ _) | (with_reducible refine Below.setCell ?_ ?_ _) | (with_reducible refine Below.trans ?_ (hbw6.mono ?_)) | (with_reducible refine Below.trans ?_ (hbw4.mono ?_)) | (with_reducible refine Below.trans ?_ (hbw3.mono ?_)) | (with_reducible refine Below.trans ?_ (hbw2.mono ?_)) | (simp; done) | (simp; omega) | omega | (have zzw6 := hbw6.size; have zzw4 := hbw4.size; have zzw3 := hbw3.size; have zzw2 := hbw2.size; first | omega | (simp at zzw6 zzw4 zzw3 zzw2 ⊢; omega))))) Ha1.out hp1 hq1 hx2 hx2' hy2 hy2').mono ?_
  rintro e w7 ⟨rfl, hbw7⟩
  obtain ⟨hcw7, hfw7, hsw7, hlw7⟩ := bcellN (w.heap.size + 1) hbw7 (by first | assumption | (simp; done) | (simp; omega) | omega)
  go_wp2_with fail
  refine (fieldsParse_any fs2 A2 c2 x2 y2 _ hl64 (Hr2.out _ (by repeat' (first | (with_reducible exact Below.refl _ _) | (with_reducible refine Below.drew ?_) | (with_reducible refine Below.alloc ?_ ?_ _) | (with_reducible refine Below.setCell ?_ ?_ _) | (with_reducible refine Below.trans ?_ (hbw7.mono ?_)) | (with_reducible refine Below.trans ?_ (hbw6.mono ?_)) | (with_reducible refine Below.trans ?_ (hbw4.mono ?_)) | (with_reducible refine Below.trans ?_ (hbw3.mono ?_)) | (simp; done) | (simp; omega) | omega | (have zzw7 := hbw7.size; have zzw6 := hbw6.size; have zzw4 := hbw4.size; have zzw3 := hbw3.size; first | omega | (simp at zzw7 zzw6 zzw4 zzw3 ⊢; omega))))) Hall.out hSp hS hx2 hx2' hy2 hy2').mono ?_
  rintro e w8 ⟨rfl, hbw8⟩
  obtain ⟨hcw8, hfw8, hsw8, hlw8⟩ := bcellN (w.heap.size + 1) hbw8 (by first | assumption | (simp; done) | (simp; omega) | omega)
  go_wp2_with fail
  refine (sum_any fs1 A1 c1 _ hl1 (Hr1.out _ (by repeat' (first | (with_reducible exact Below.refl _ _) | (with_reducible refine Below.drew ?_) | (with_reducible refine Below.alloc ?_ ?_ _) | (with_reducible refine Below.setCell ?_ ?_ _) | (with_reducible refine Below.trans ?_ (hbw8.mono ?_)) | (with_reducible refine Below.trans ?_ (hbw7.mono ?_)) | (with_reducible refine Below.trans ?_ (hbw6.mono ?_)) | (with_reducible refine Below.trans ?_ (hbw4.mono ?_)) | (with_reducible refine Below.trans ?_ (hbw3.mono ?_)) | (with_reducible refine Below.trans ?_ (hbw2.mono ?_)) | (simp; done) | (simp; omega) | omega | (have zzw8 := hbw8.size; have zzw7 := hbw7.size; have zzw6 := hbw6.size; have zzw4 := hbw4.size; have zzw3 := hbw3.size; have zzw2 := hbw2.size; first | omega | (simp at zzw8 zzw7 zzw6 zzw4 zzw3 zzw2 ⊢; omega))))) Ha1.out).mono ?_
  rintro e w9 ⟨rfl, rfl⟩
  go_wp2
  go_ret
  refine ⟨?_, ?_⟩
  · rfl
  · (repeat' (first | (with_reducible exact Below.refl _ _) | (with_reducible refine Below.drew ?_) | (with_reducible refine Below.alloc ?_ ?_ _) | (with_reducible refine Below.setCell ?_ ?_ _) | (with_reducible refine Below.trans ?_ (hbw8.mono ?_)) | (with_reducible refine Below.trans ?_ (hbw7.mono ?_)) | (with_reducible refine Below.trans ?_ (hbw6.mono ?_)) | (with_reducible refine Below.trans ?_ (hbw4.mono ?_)) | (with_reducible refine Below.trans ?_ (hbw3.mono ?_)) | (with_reducible refine Below.trans ?_ (hbw2.mono ?_)) | (simp; done) | (simp; omega) | omega | (have zzw8 := hbw8.size; have zzw7 := hbw7.size; have zzw6 := hbw6.size; have zzw4 := hbw4.size; have zzw3 := hbw3.size; have zzw2 := hbw2.size; first | omega | (simp at zzw8 zzw7 zzw6 zzw4 zzw3 zzw2 ⊢; omega))))


set_option maxRecDepth 100000 in
set_option maxHeartbeats 4000000 in
theorem walk (w : World) (A0 : Option Addr) (c0 : Nat) (fs0 : List Fld) (A1 : Option Addr) (c1 : Nat) (fs1 : List Fld) (x2 y2 : Int) (hr0 : FRow .i64 w A0 fs0) (hnil0 : A0 = none → c0 = 0) (hr1 : FRow .i64 w A1 fs1) (hnil1 : A1 = none → c1 = 0) (hx2 : 0 ≤ x2) (hx2' : x2 < 4294967296) (hy2 : 0 ≤ y2) (hy2' : y2 < 4294967296) :
    Calls Try.prog 12 #[.slice A0 fs0.length c0, .slice A1 fs1.length c1, .agg #[.int .u32 x2, .int .u32 y2]] w fun e w' => e = .returned (.bool true) ∧ Below w.heap.size w w' := by
  by_cases hl0 : fs0.length ≤ 2147483647
  · by_cases hl1 : fs1.length ≤ 2147483647
    · cases hf0 : fsr fs0
      · exact wk0 w A0 c0 fs0 A1 c1 fs1 x2 y2 hr0 hnil0 hr1 hnil1 hx2 hx2' hy2 hy2' hl0 hl1 hf0
      · cases hf1 : fsr fs1
        · exact wk1 w A0 c0 fs0 A1 c1 fs1 x2 y2 hr0 hnil0 hr1 hnil1 hx2 hx2' hy2 hy2' hl0 hl1 hf0 hf1
        · by_cases hS : sumB (fs0 ++ fs1) ≤ 64
          · exact wk3 w A0 c0 fs0 A1 c1 fs1 x2 y2 hr0 hnil0 hr1 hnil1 hx2 hx2' hy2 hy2' hl0 hl1 hf0 hf1 hS
          · exact wk2 w A0 c0 fs0 A1 c1 fs1 x2 y2 hr0 hnil0 hr1 hnil1 hx2 hx2' hy2 hy2' hl0 hl1 hf0 hf1 hS
    · have hx1 : (2147483647 : Int) < (fs1.length : Int) := by omega
      go_enter Try.func12, Try.ntmps12
      go_wp2_with fail
      go_ret
      refine ⟨rfl, ?_⟩
      (repeat' (first | (with_reducible exact Below.refl _ _) | (with_reducible refine Below.drew ?_) | (with_reducible refine Below.alloc ?_ ?_ _) | (with_reducible refine Below.setCell ?_ ?_ _) | (simp; done) | (simp; omega) | omega))
  · have hx1 : (2147483647 : Int) < (fs0.length : Int) := by omega
    go_enter Try.func12, Try.ntmps12
    go_wp2_with fail
    go_ret
    refine ⟨rfl, ?_⟩
    (repeat' (first | (with_reducible exact Below.refl _ _) | (with_reducible refine Below.drew ?_) | (with_reducible refine Below.alloc ?_ ?_ _) | (with_reducible refine Below.setCell ?_ ?_ _) | (simp; done) | (simp; omega) | omega))

set_option maxRecDepth 100000 in
theorem lifted (os : Os) (started : os.Started) (H : Type) (enc : TypeId × Value → H) :
    ReturnsInHanded {} Try.checked os 12 .any (Rows.fnFieldsSplitSpec.pre6 enc Try.prog Try.f12 Rows.fnFieldsSplitRow.domain false) (Rows.fnFieldsSplitSpec.post enc Try.prog Try.f12 false true false false) := by
  refine returnsInHanded_of_change (C := Try.checked) own started (by kernel_rfl) Try.func12
    (ChangeSpec.witness6 (enc := enc) (C := Try.checked) false ⟨#[], #[.slice none 0 0, .slice none 0 0, .agg #[.int .u32 0, .int .u32 0]], []⟩ 8 (by kernel_rfl) (by kernel_rfl) (by kernel_rfl) (by kernel_rfl)) ?_
  intro W base args ds gs before hval0 hW hcnd _
  have hval : ∀ (j : Nat) t v, Try.f12.params[j]? = some t → args[j]? = some v → Value.okWide Try.prog W .any base t v := hval0
  have hW' := hW
  obtain ⟨p, q, hA0, hV, rfl, hfz, hnd⟩ := hW
  have hA : DataW.TrodAll enc Try.prog W 0 (fun _ => true) true Try.f12.params.toList args.toList ds p := hA0
  rw [Try.params12] at hA hval
  obtain ⟨v0, vs0, e0, ds0, p0, q0, hargs, rfl, rfl, h0, r0⟩ := trodAll_cons hA
  obtain ⟨v1, vs1, e1, ds1, p1, q1, rfl, rfl, rfl, h1, r1⟩ := trodAll_cons r0
  obtain ⟨v2, vs2, e2, ds2, p2, q2, rfl, rfl, rfl, h2, r2⟩ := trodAll_cons r1
  obtain ⟨rfl, rfl, rfl⟩ := trodAll_nil r2
  obtain rfl : args = #[v0, v1, v2] := by cases args; simp_all
  obtain ⟨rfl, rfl⟩ := trodVars_none hV
  have k0 := h0
  have lt0 : ∀ x ∈ p0, x.block < W.heap.size := by obtain ⟨m, hm⟩ := k0; exact DataW.trod_lt m _ _ _ hm
  have k1 := h1
  have lt1 : ∀ x ∈ p1, x.block < W.heap.size := by obtain ⟨m, hm⟩ := k1; exact DataW.trod_lt m _ _ _ hm
  have k2 := h2
  have lt2 : ∀ x ∈ p2, x.block < W.heap.size := by obtain ⟨m, hm⟩ := k2; exact DataW.trod_lt m _ _ _ hm
  obtain ⟨A0, c0, fs0, rfl, hr0⟩ := open_flds (hval 0 31 v0 rfl rfl) h0
  have hnil0 := open_nil h0
  obtain ⟨A1, c1, fs1, rfl, hr1⟩ := open_flds (hval 1 31 v1 rfl rfl) h1
  have hnil1 := open_nil h1
  obtain ⟨x2, y2, rfl, hx2, hx2', hy2, hy2'⟩ := open_words (hval 2 25 v2 rfl rfl) h2
  clear hA0 hval0
  refine (walk W A0 c0 fs0 A1 c1 fs1 x2 y2 hr0 hnil0 hr1 hnil1 hx2 hx2' hy2 hy2').mono fun e W' ⟨he, bel⟩ => ?_
  subst he
  exact ⟨_, rfl, _, _, _, [], _, [], hW', trodAll_mk1 (shut_bool Try.underlying4 _), (trodAll_cons_mk (Below.trod laidOut (by kernel_rfl) (of_decide_eq_true (by kernel_rfl)) k0 bel lt0) (trodAll_cons_mk (Below.trod laidOut (by kernel_rfl) (of_decide_eq_true (by kernel_rfl)) k1 bel lt1) (trodAll_cons_mk (Below.trod laidOut (by kernel_rfl) (of_decide_eq_true (by kernel_rfl)) k2 bel lt2) trodAll_mk0))), rfl, bel.frame _, fun h => by cases h⟩

theorem over : Rows.fnFieldsSplitRow.holds Try.pinned (OpenSpec.ofChange Rows.fnFieldsSplitSpec) :=
  OpenClaim.holds_of_wide 12 Try.f12 rfl rfl rfl rfl rfl rfl rfl ⟨rfl, rfl, rfl, rfl, rfl⟩ rfl rfl rfl rfl rfl (by kernel_rfl) Try.func12 (by kernel_rfl)
    (of_decide_eq_true (by kernel_rfl)) (by unfold Func.isWrapper; first | (rw [if_pos (by decide +kernel)]; kernel_rfl) | (rw [if_neg (by decide +kernel)]; exact ⟨rfl, rfl⟩))
    (fun os started H enc _ => lifted os started H enc)

theorem proved : Rows.FnFieldsSplitSaid := over
#print axioms proved
end Go.Proofs.Ytcijejfekeedlaa.fnFieldsSplit
