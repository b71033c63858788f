/- The table of fields: what TableField returns. -/
import Derived.Test.YtbnkahigfgfpcaaFo1
import Derived.Test.YtbnkahigfgfpcaaFo2
import Derived.Test.YtbnkahigfgfpcaaFo3
import Derived.Test.YtbnkahigfgfpcaaFo4
import Derived.LoopTactic
import Derived.Laws.AppendOwn
import Derived.Laws.OwnMore
import Derived.Deep.AppendLies
namespace Go.Proofs.Ytbnkahigfgfpcaa
open Go.RowKit

theorem fo_any (w : World) : ∀ n : Nat, 1 ≤ n → n ≤ 104 → Calls Try.prog 15 #[.int .u8 n] w (FoPost w (tab n).1 (tab n).2.1 (tab n).2.2)
  | 0, h, _ => by omega
  | 1, _, _ => fo_1 w
  | 2, _, _ => fo_2 w
  | 3, _, _ => fo_3 w
  | 4, _, _ => fo_4 w
  | 5, _, _ => fo_5 w
  | 6, _, _ => fo_6 w
  | 7, _, _ => fo_7 w
  | 8, _, _ => fo_8 w
  | 9, _, _ => fo_9 w
  | 10, _, _ => fo_10 w
  | 11, _, _ => fo_11 w
  | 12, _, _ => fo_12 w
  | 13, _, _ => fo_13 w
  | 14, _, _ => fo_14 w
  | 15, _, _ => fo_15 w
  | 16, _, _ => fo_16 w
  | 17, _, _ => fo_17 w
  | 18, _, _ => fo_18 w
  | 19, _, _ => fo_19 w
  | 20, _, _ => fo_20 w
  | 21, _, _ => fo_21 w
  | 22, _, _ => fo_22 w
  | 23, _, _ => fo_23 w
  | 24, _, _ => fo_24 w
  | 25, _, _ => fo_25 w
  | 26, _, _ => fo_26 w
  | 27, _, _ => fo_27 w
  | 28, _, _ => fo_28 w
  | 29, _, _ => fo_29 w
  | 30, _, _ => fo_30 w
  | 31, _, _ => fo_31 w
  | 32, _, _ => fo_32 w
  | 33, _, _ => fo_33 w
  | 34, _, _ => fo_34 w
  | 35, _, _ => fo_35 w
  | 36, _, _ => fo_36 w
  | 37, _, _ => fo_37 w
  | 38, _, _ => fo_38 w
  | 39, _, _ => fo_39 w
  | 40, _, _ => fo_40 w
  | 41, _, _ => fo_41 w
  | 42, _, _ => fo_42 w
  | 43, _, _ => fo_43 w
  | 44, _, _ => fo_44 w
  | 45, _, _ => fo_45 w
  | 46, _, _ => fo_46 w
  | 47, _, _ => fo_47 w
  | 48, _, _ => fo_48 w
  | 49, _, _ => fo_49 w
  | 50, _, _ => fo_50 w
  | 51, _, _ => fo_51 w
  | 52, _, _ => fo_52 w
  | 53, _, _ => fo_53 w
  | 54, _, _ => fo_54 w
  | 55, _, _ => fo_55 w
  | 56, _, _ => fo_56 w
  | 57, _, _ => fo_57 w
  | 58, _, _ => fo_58 w
  | 59, _, _ => fo_59 w
  | 60, _, _ => fo_60 w
  | 61, _, _ => fo_61 w
  | 62, _, _ => fo_62 w
  | 63, _, _ => fo_63 w
  | 64, _, _ => fo_64 w
  | 65, _, _ => fo_65 w
  | 66, _, _ => fo_66 w
  | 67, _, _ => fo_67 w
  | 68, _, _ => fo_68 w
  | 69, _, _ => fo_69 w
  | 70, _, _ => fo_70 w
  | 71, _, _ => fo_71 w
  | 72, _, _ => fo_72 w
  | 73, _, _ => fo_73 w
  | 74, _, _ => fo_74 w
  | 75, _, _ => fo_75 w
  | 76, _, _ => fo_76 w
  | 77, _, _ => fo_77 w
  | 78, _, _ => fo_78 w
  | 79, _, _ => fo_79 w
  | 80, _, _ => fo_80 w
  | 81, _, _ => fo_81 w
  | 82, _, _ => fo_82 w
  | 83, _, _ => fo_83 w
  | 84, _, _ => fo_84 w
  | 85, _, _ => fo_85 w
  | 86, _, _ => fo_86 w
  | 87, _, _ => fo_87 w
  | 88, _, _ => fo_88 w
  | 89, _, _ => fo_89 w
  | 90, _, _ => fo_90 w
  | 91, _, _ => fo_91 w
  | 92, _, _ => fo_92 w
  | 93, _, _ => fo_93 w
  | 94, _, _ => fo_94 w
  | 95, _, _ => fo_95 w
  | 96, _, _ => fo_96 w
  | 97, _, _ => fo_97 w
  | 98, _, _ => fo_98 w
  | 99, _, _ => fo_99 w
  | 100, _, _ => fo_100 w
  | 101, _, _ => fo_101 w
  | 102, _, _ => fo_102 w
  | 103, _, _ => fo_103 w
  | 104, _, _ => fo_104 w
  | n + 105, _, h => by omega

/-- ZZField returns the kind, the shift and the fields as they stand in the table. -/
def ZzPost (w : World) (K S : Int) (fs : List Fld) (e : Ending) (w' : World) : Prop :=
  ∃ g, e = .returned (.tuple #[.int .i8 K, .int .u8 S, .slice (some ⟨g, 0, none⟩) fs.length fs.length]) ∧ FRow .u8 w' (some ⟨g, 0, none⟩) fs ∧ Below w.heap.size w w'

theorem zz_any (n : Nat) (h1 : 1 ≤ n) (h2 : n ≤ 104) (w : World) : Calls Try.prog 8 #[.int .u8 n] w (ZzPost w (tab n).1 (tab n).2.1 (tab n).2.2) := by
  have hw : IntKind.u8.wrap (n : Int) = (n : Int) := by rw [IntKind.wrap_u8]; omega
  go_enter Try.func8, Try.ntmps8
  go_wp2_with (first
    | (go_at_call 15; (try rw [hw]); refine (fo_any _ n h1 h2).mono ?_; rintro e w1 ⟨rfl, hr1, hb1⟩; obtain ⟨hc1, hf1, hs1, hl1⟩ := bcellN (w.heap.size) hb1 (by first | assumption | (simp; done) | (simp; omega) | omega)))
  go_region
  go_wp2
  go_ret3
  exact ⟨_, rfl, hr1.below (by repeat' (first | (with_reducible exact Below.refl _ _) | (with_reducible refine Below.drew ?_) | (with_reducible refine Below.alloc ?_ ?_ _) | (simp; done))), by repeat' (first | (with_reducible exact Below.refl _ _) | (with_reducible refine Below.drew ?_) | (with_reducible refine Below.alloc ?_ ?_ _) | (with_reducible exact hb1) | (simp; done) | (simp; omega) | omega)⟩

theorem infoF8 : (Try.prog.info? 43).map (fun i => (i.zero, i.size, i.bytes)) = some (some (.agg #[.int .i64 0, .int .i64 0, .int .i64 0]), 3, 24) := by kernel_rfl

/-- The call ends with a slice of these fields, as data, in memory of its own. -/
def OfPost (fs : List Fld) (w : World) (e : Ending) (w' : World) : Prop :=
  ∃ v, e = .returned v ∧ w'.ownsRow w.heap.size 43 3 v fs.length (flat .i64 fs) ∧ Below w.heap.size w w'

set_option maxRecDepth 100000 in
set_option maxHeartbeats 4000000 in
theorem fieldsOf_any (fs : List Fld) (A : Option Addr) (c : Nat) (w : World) (hn : fs.length ≤ 64) (hr : FRow .u8 w A fs) (hall : allR fs = true) :
    Calls Try.prog 9 #[.slice A fs.length c] w (OfPost fs w) := by
  have Hall := Lib.hid hall
  clear hall
  obtain ⟨i0, hi, hz0, hz1, hz2⟩ := info_parts infoF8
  go_enter Try.func9, Try.ntmps9
  go_wp2
  go_loopw [3, 8] (fun v i wr => ∃ k : Nat, k ≤ fs.length ∧ i = .int .i64 k ∧ wr.ownsRow w.heap.size 43 3 v k (flat .i64 (fs.take k)) ∧ Below w.heap.size w wr) (fun _ i _ => fs.length - (intOf i).toNat)
  case atStart => exact ⟨0, Nat.zero_le _, rfl, by simp [World.ownsRow, flat], Below.refl _ _⟩
  case round =>
    obtain ⟨k, hk, rfl, hown, hbel⟩ := hrel
    by_cases hlt : k < fs.length
    · obtain ⟨f, hf⟩ : ∃ f, fs[k]? = some f := ⟨_, List.getElem?_eq_getElem hlt⟩
      obtain ⟨bl, off, rfl, hbl, hcell⟩ := (hr.below hbel) (by rintro rfl; simp at hlt)
      obtain ⟨h0, h1, h2⟩ := hcell k f hf
      clear hcell
      have hfr := frb_spec (allR_get Hall.out hf)
      have v0 : IntKind.i64.wrap f.o = f.o := by rw [IntKind.wrap_i64]; omega
      have v1 : IntKind.i64.wrap f.b = f.b := by rw [IntKind.wrap_i64]; omega
      have v2 : IntKind.i64.wrap f.w = f.w := by rw [IntKind.wrap_i64]; omega
      have hs1 : w.heap.size ≤ wr.heap.size := hbel.size
      go_wp2_with (first
        | (at_builtin; refine wpList_append_own _ rfl _ _ 22 rfl w.heap.size 43 i0 _ 3 24 Try.underlying22 hi hz0 hz1 hz2 rfl (by decide) _ k _ rfl ((hown.alloc _).alloc _) ⟨wr.heap.size + 1, 0, none⟩ 1 1 [.int .i64 f.o, .int .i64 f.b, .int .i64 f.w] rfl rfl (World.news_of_block (cs := #[.int .i64 f.o, .int .i64 f.b, .int .i64 f.w]) (t := 43) (fr := (0, 0)) (by simpa using heap_alloc_new (wr.alloc (.cells #[.int .u8 f.o, .int .u8 f.b, .int .u8 f.w] 54)) (.cells #[.int .i64 f.o, .int .i64 f.b, .int .i64 f.w] 43))) (by simp [Value.oneCell']) (by unfold maxLen; omega) (by omega) (by simp; omega) ?_; intro v' w2 hown2 hg2 _))
      go_roundw
      case rel =>
        refine ⟨k + 1, by omega, by go_num, by rw [take_snoc fs k f hf, flat_snoc]; exact hown2, ?_⟩
        refine Below.grown (Below.alloc (Below.alloc hbel hbel.size _) (by have a1 := hbel.size; simp; omega) _) hg2 (by have a1 := hbel.size; simp; omega) (fun g hg => (hown.lt g hg).1)
      case measure => simp [intOf]; omega
    · obtain rfl : k = fs.length := by omega
      rw [List.take_length] at hown
      go_wp2
      go_ret
      exact ⟨_, rfl, hown, hbel⟩
theorem own_slc {W : World} {base : Nat} {e : TypeId} {v : Value} {n : Nat} {xs : List Value} (h : W.ownsRow base e 3 v n xs) : ∃ A c, v = .slice A n c := by
  rcases h.2 with ⟨rfl, rfl⟩ | ⟨g, cap, cur, rfl, _⟩
  · exact ⟨_, _, rfl⟩
  · exact ⟨_, _, rfl⟩

/-- TableField returns the kind, the shift and the fields as they stand in the table. -/
def TabPost (w : World) (K S : Int) (fs : List Fld) (e : Ending) (w' : World) : Prop :=
  ∃ A c, e = .returned (.tuple #[.int .i64 K, .int .i64 S, .slice A fs.length c]) ∧ FRow .i64 w' A fs ∧ Below w.heap.size w w'

/-- What is told of each row of the table. -/
theorem tab_good (n : Nat) (h1 : 1 ≤ n) (h2 : n ≤ 104) : 1 ≤ (tab n).1 ∧ (tab n).1 < 16 ∧ 0 ≤ (tab n).2.1 ∧ (tab n).2.1 ≤ 32 ∧ (tab n).2.2.length ≤ 64 ∧ allR (tab n).2.2 = true ∧ 1 ≤ sumB (tab n).2.2 ∧ sumB (tab n).2.2 ≤ 64 ∧ (tab n).2.1 + sumB (tab n).2.2 ≤ 63 := by
  have h : ∀ m : Fin 104, 1 ≤ (tab (m.1 + 1)).1 ∧ (tab (m.1 + 1)).1 < 16 ∧ 0 ≤ (tab (m.1 + 1)).2.1 ∧ (tab (m.1 + 1)).2.1 ≤ 32 ∧ (tab (m.1 + 1)).2.2.length ≤ 64 ∧ allR (tab (m.1 + 1)).2.2 = true ∧ 1 ≤ sumB (tab (m.1 + 1)).2.2 ∧ sumB (tab (m.1 + 1)).2.2 ≤ 64 ∧ (tab (m.1 + 1)).2.1 + sumB (tab (m.1 + 1)).2.2 ≤ 63 := by decide +kernel
  have := h ⟨n - 1, by omega⟩
  rwa [show n - 1 + 1 = n from by omega] at this

set_option maxRecDepth 100000 in
set_option maxHeartbeats 4000000 in
theorem tabF_any (n : Nat) (h1 : 1 ≤ n) (h2 : n ≤ 104) (w : World) : Calls Try.prog 5 #[.int .i64 n] w (TabPost w (tab n).1 (tab n).2.1 (tab n).2.2) := by
  have hw : IntKind.u8.wrap (n : Int) = (n : Int) := by rw [IntKind.wrap_u8]; omega
  obtain ⟨g1, g2, g3, g4, g5, g6, g7, g8, g9⟩ := tab_good n h1 h2
  have hK : IntKind.i64.wrap (tab n).1 = (tab n).1 := by rw [IntKind.wrap_i64]; omega
  have hS : IntKind.i64.wrap (tab n).2.1 = (tab n).2.1 := by rw [IntKind.wrap_i64]; omega
  have hx1 : (1 : Int) ≤ (n : Int) := by omega
  have hx2 : (n : Int) ≤ 104 := by omega
  have hzz := fun W => zz_any n h1 h2 W
  have Hg6 := Lib.hid g6
  clear g6
  generalize (tab n).1 = K at *
  generalize (tab n).2.1 = S at *
  generalize (tab n).2.2 = fs at *
  go_enter Try.func5, Try.ntmps5
  go_wp2_with (first
    | (go_at_call 8; (try rw [hw]); refine (hzz _).mono ?_; rintro e w1 ⟨ga, rfl, hr1, hb1⟩; obtain ⟨hc1, hf1, hs1, hl1⟩ := bcellN (w.heap.size) hb1 (by first | assumption | (simp; done) | (simp; omega) | omega)))
  refine (fieldsOf_any fs _ _ _ g5 hr1 Hg6.out).mono ?_
  rintro e w2 ⟨v, rfl, hown2, hb2⟩
  obtain ⟨A2, c2, rfl⟩ := own_slc hown2
  go_wp2
  go_ret3
  exact ⟨_, _, rfl, FRow.of_own rfl hown2, Below.trans hb1 (hb2.mono hs1)⟩
end Go.Proofs.Ytbnkahigfgfpcaa
