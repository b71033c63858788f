/- The hexadecimal numeral at the program: what FormatInt tells of base 16. -/
import Derived.Test.YtmhlfipgomdiaaaDoorDec
import Derived.Lib.ItoaWalk
import Derived.Lib.ItoaNum
import Derived.Laws.IdiomStrings
import Derived.LoopTactic
import Derived.WalkKit
import Derived.WalkSpells
import Derived.WalkLawsBesides
import Derived.Below
import Derived.Laws.Pointers
import Derived.OwnWalk
import Derived.Handy
import Derived.Lib.Hide
import Derived.Test.YtmhlfipgomdiaaaDoorShelf
import Derived.Laws.BitsAllLaws
namespace Go.Proofs.YtmhlfipgomdiaaaDoor
open Go.RowKit


/-- A hexadecimal digit, and a numeral of at most n of them. -/
def hc (k : Nat) : UInt8 := Lib.digits36.data.toList.getD k 0
def hexF : Nat → Nat → List UInt8
  | 0, _ => []
  | n + 1, u => if u < 16 then [hc u] else hexF n (u / 16) ++ [hc (u % 16)]
def hexd (u : Nat) : List UInt8 := hexF 16 u
def hvb (b : UInt8) : Nat := if b.toNat < 58 then b.toNat - 48 else b.toNat - 87
def hval (l : List UInt8) : Nat := l.foldl (fun a d => a * 16 + hvb d) 0
theorem hvb_hc (k : Nat) (h : k < 16) : hvb (hc k) = k := by
  have h' : ∀ m : Fin 16, hvb (hc m.1) = m.1 := by decide +kernel
  exact h' ⟨k, h⟩
theorem hval_hex : ∀ n u : Nat, u < 16 ^ n → 1 ≤ n → hval (hexF n u) = u
  | 0, _, _, h => by omega
  | n + 1, u, hu, _ => by
    unfold hexF
    by_cases h : u < 16
    · rw [if_pos h]
      simp [hval, hvb_hc u h]
    · rw [if_neg h]
      rw [Nat.pow_succ] at hu
      have hn : 1 ≤ n := by
        rcases Nat.eq_zero_or_pos n with h0 | h0
        · subst h0
          simp at hu
          omega
        · exact h0
      have ih := hval_hex n (u / 16) (by omega) hn
      have e := hvb_hc (u % 16) (by omega)
      unfold hval at ih ⊢
      rw [List.foldl_append, ih]
      simp [e]
      omega
theorem hex_inj {u v : Nat} (hu : u < 18446744073709551616) (hv : v < 18446744073709551616) (h : hexd u = hexd v) : u = v := by
  have := congrArg hval h
  rwa [hexd, hexd, hval_hex 16 u hu (by decide), hval_hex 16 v hv (by decide)] at this
theorem hex_step {n v : Nat} (h : 16 ≤ v) (hv : v < 16 ^ (n + 1)) : hexF (n + 1) v = hexF n (v / 16) ++ [hc (v % 16)] ∧ v / 16 < 16 ^ n ∧ 1 ≤ n := by
  refine ⟨by rw [hexF, if_neg (by omega)], by rw [Nat.pow_succ] at hv; omega, ?_⟩
  rcases Nat.eq_zero_or_pos n with h0 | h0
  · subst h0
    simp at hv
    omega
  · exact h0
theorem hex_last {n v : Nat} (h : v < 16) : hexF (n + 1) v = [hc v] := by rw [hexF, if_pos h]
theorem hexF_length : ∀ n u : Nat, (hexF n u).length ≤ n
  | 0, _ => by simp [hexF]
  | n + 1, u => by
    unfold hexF
    split
    · simp
    · have := hexF_length n (u / 16)
      simp
      omega

/-- What the local array of formatBits holds: a tail of a numeral. -/
structure HRow (w wr : World) (m : Nat) (T : List UInt8) : Prop where
  len : m + T.length = 65
  below : Below w.heap.size w wr
  lt : w.heap.size < wr.heap.size
  cells : ∀ j, j < 65 → ∃ x : Int, wr.cell? ⟨w.heap.size, j, none⟩ = some (.int .u8 x)
  free : ∀ j, j < 65 → wr.frozen? ⟨w.heap.size, j, none⟩ = false
  row : ∀ (j : Nat) (hj : j < T.length), wr.cell? ⟨w.heap.size, m + j, none⟩ = some (.int .u8 (T[j].toNat : Int))
theorem HRow.put {w wr : World} {m : Nat} {T : List UInt8} (h : HRow w wr (m + 1) T) (b : UInt8) : HRow w (wr.setCell ⟨w.heap.size, m, none⟩ (.int .u8 (b.toNat : Int))) m (b :: T) := by
  have hm : m < 65 := by
    have := h.len
    omega
  obtain ⟨x, hx⟩ := h.cells m hm
  refine ⟨by have := h.len; simp; omega, Below.setCell h.below (Nat.le_refl _) _, by simpa [World.setCell] using h.lt, fun j hj => ?_, fun j hj => ?_, fun j hj => ?_⟩
  · by_cases e : j = m
    · subst e
      exact ⟨_, World.cell?_setCell_same _ _ _ hx⟩
    · obtain ⟨y, hy⟩ := h.cells j hj
      exact ⟨y, by rw [World.cell?_setCell_other _ _ _ _ (by simp <;> omega)]; exact hy⟩
  · rw [World.frozen?_setCell]
    exact h.free j hj
  · cases j with
    | zero => exact World.cell?_setCell_same _ _ _ hx
    | succ i =>
      have := h.row i (by simpa using hj)
      rw [World.cell?_setCell_other _ _ _ _ (by simp <;> omega), show m + (i + 1) = m + 1 + i from by omega]
      simpa using this
theorem HRow.draw {w wr : World} {m : Nat} {T : List UInt8} (h : HRow w wr m T) : HRow w wr.drew m T := ⟨h.len, h.below.drew, h.lt, h.cells, h.free, h.row⟩
def zeros65 : Array Value := #[Value.int .u8 0, Value.int .u8 0, Value.int .u8 0, Value.int .u8 0, Value.int .u8 0, Value.int .u8 0, Value.int .u8 0, Value.int .u8 0, Value.int .u8 0, Value.int .u8 0, Value.int .u8 0, Value.int .u8 0, Value.int .u8 0, Value.int .u8 0, Value.int .u8 0, Value.int .u8 0, Value.int .u8 0, Value.int .u8 0, Value.int .u8 0, Value.int .u8 0, Value.int .u8 0, Value.int .u8 0, Value.int .u8 0, Value.int .u8 0, Value.int .u8 0, Value.int .u8 0, Value.int .u8 0, Value.int .u8 0, Value.int .u8 0, Value.int .u8 0, Value.int .u8 0, Value.int .u8 0, Value.int .u8 0, Value.int .u8 0, Value.int .u8 0, Value.int .u8 0, Value.int .u8 0, Value.int .u8 0, Value.int .u8 0, Value.int .u8 0, Value.int .u8 0, Value.int .u8 0, Value.int .u8 0, Value.int .u8 0, Value.int .u8 0, Value.int .u8 0, Value.int .u8 0, Value.int .u8 0, Value.int .u8 0, Value.int .u8 0, Value.int .u8 0, Value.int .u8 0, Value.int .u8 0, Value.int .u8 0, Value.int .u8 0, Value.int .u8 0, Value.int .u8 0, Value.int .u8 0, Value.int .u8 0, Value.int .u8 0, Value.int .u8 0, Value.int .u8 0, Value.int .u8 0, Value.int .u8 0, Value.int .u8 0]
theorem zeros65_at (i : Nat) (h : i < 65) : zeros65[i]? = some (.int .u8 0) := by
  have e : zeros65 = Array.replicate 65 (.int .u8 0) := rfl
  rw [e, Array.getElem?_replicate, if_pos h]
theorem HRow.start (w : World) (T : TypeId) : HRow w (w.alloc (.cells zeros65 T)) 65 [] :=
  ⟨rfl, Below.alloc (Below.refl _ _) (Nat.le_refl _) _, by simp, fun j hj => ⟨0, by rw [World.cell?_alloc_new]; exact zeros65_at j hj⟩, fun j _ => World.frozen?_alloc_new _ _ _ _, fun j hj => by simp at hj⟩

/-- 'string(a[i:])' -/
theorem HRow.text {w wr : World} {m : Nat} {T : List UInt8} (h : HRow w wr m T) : (convert 59 9 (.slice (some ⟨w.heap.size, m, none⟩) T.length T.length)).run Tryd.prog wr = .ok (.string ⟨T.toArray⟩) wr :=
  run_convert_bytes_back (P := Tryd.prog) wr 59 9 5 ⟨w.heap.size, m, none⟩ T.length T Tryd.underlying59 Tryd.underlying5 Tryd.underlying9 (fun j hj => by
    rw [Lib.add_plain]
    exact h.row j hj)
theorem arr65 : Tryd.prog.arrayLen 76 = 65 := by kernel_rfl
theorem cut65 (W : World) (b m K : Nat) (h : m + K = 65) (hK : 1 ≤ K) : (Instr.sliceAt 76 (.pointer (some ⟨b, 0, none⟩)) (some (.int .i64 (m : Int))) none none).run Tryd.prog W = .ok (.slice (some ⟨b, m, none⟩) K K) W := by
  rw [run_sliceAt_array_l W 76 ⟨b, 0, none⟩ (by simp [Program.arrayLen, Program.elem, Tryd.underlying76]) .i64 (m : Int) (by omega) (by rw [arr65]; omega)]
  have hs : (sizeOf (Tryd.prog.elem 76)).run Tryd.prog W = .ok 1 W := by kernel_rfl
  rw [hs]
  simp only [Result.andThen, slicedAt, arr65, Int.toNat_natCast]
  rw [show 65 - m = K from by omega, Lib.add_plain]
  simp
  omega
theorem idx_hex (k : IntKind) (i : Nat) (hi : i < 16) (w : World) : (Instr.index 9 (.string Lib.digits36) (.int k (i : Int))).run Tryd.prog w = .ok (.int .u8 ((hc i).toNat : Int)) w := by
  rw [run_index_string w 9 Lib.digits36 k _ Tryd.underlying9, dif_pos ⟨by omega, by rw [Lib.digits36_size]; omega⟩]
  have e : ((i : Int)).toNat = i := by omega
  simp only [e]
  rw [Lib.getD_at Lib.digits36 i (by rw [Lib.digits36_size]; omega)]
  rfl

/-- The table of the trailing zeros. -/
def debTab : List Int := [0, 1, 56, 2, 57, 49, 28, 3, 61, 58, 42, 50, 38, 29, 17, 4, 62, 47, 59, 36, 45, 43, 51, 22, 53, 39, 33, 30, 24, 18, 12, 5, 63, 55, 48, 27, 60, 41, 37, 16, 46, 35, 44, 21, 52, 32, 23, 11, 54, 26, 40, 15, 34, 20, 31, 10, 25, 14, 19, 9, 13, 8, 7, 6]
abbrev TabB (w : World) : Prop := Lib.TabIs Tryd.prog w "math/bits.deBruijn64tab" .u8 debTab
theorem gTabB : Tryd.prog.globalNamed "math/bits.deBruijn64tab" = some 3 := by kernel_rfl
theorem gTabBType : (Tryd.prog.globals[3]?).map (·.type) = some 84 := by kernel_rfl
theorem cellsTabB : Tryd.prog.cellsOf 84 = 64 := by kernel_rfl
theorem cellsU8 : Tryd.prog.cellsOf 5 = 1 := by kernel_rfl
theorem laidB_is : (Rows.laid_math_bits_deBruijn64tab : DataW Unit) = Lib.tabData .u8 debTab := by kernel_rfl
theorem tabB_of {W : World} (h : laidMetH Tryd.prog [("math/bits.deBruijn32tab", Rows.laid_math_bits_deBruijn32tab), ("math/bits.deBruijn64tab", Rows.laid_math_bits_deBruijn64tab), ("internal/strconv.uint64pow10", Rows.laid_internal_strconv_uint64pow10)] W) : TabB W := by
  have h' : laidMet Tryd.prog [("math/bits.deBruijn32tab", Rows.laid_math_bits_deBruijn32tab), ("math/bits.deBruijn64tab", Rows.laid_math_bits_deBruijn64tab), ("internal/strconv.uint64pow10", Rows.laid_internal_strconv_uint64pow10)] W := h
  obtain ⟨ps, ⟨_, _, _, _, _, _, _, _, _, _, h1, _⟩, _⟩ := h'
  obtain ⟨g', t', cs, fuel, p, q, hg', ht', hvar, hd, _, _⟩ := h1
  obtain rfl := Option.some.inj (gTabB.symm.trans hg')
  obtain rfl := Option.some.inj (gTabBType.symm.trans ht')
  rw [laidB_is] at hd
  unfold TabB Lib.TabIs
  rw [hvar, ← Lib.cells_of_tab Tryd.underlying84 Tryd.underlying5 cellsU8 cellsTabB hd]
theorem tabB_lt {w : World} (h : TabB w) : 3 < w.heap.size := by
  unfold TabB Lib.TabIs World.var? at h
  rw [gTabB] at h
  simp only [Option.bind_some] at h
  rcases Nat.lt_or_ge 3 w.heap.size with h' | h'
  · exact h'
  · simp [Array.getElem?_eq_none h'] at h
theorem tabB_below {w w' : World} (h : TabB w) (hb : Below w.heap.size w w') : TabB w' := by
  have hp := tabB_lt h
  unfold TabB Lib.TabIs World.var? at h ⊢
  rw [gTabB] at h ⊢
  simp only [Option.bind_some] at h ⊢
  rw [hb.block 3 hp]
  exact h
theorem tz64 (w : World) (ht : TabB w) : Calls Tryd.prog 60 #[.int .u64 16] w fun e w' => e = .returned (.int .i64 4) ∧ w' = w := by
  have hcell : w.cell? ⟨3, 15, none⟩ = some (.int .u8 4) := ht.cell gTabB 15 (by decide)
  have hn : bits .and .u64 16 (IntKind.u64.wrap (-16)) = 16 := by decide +kernel
  have hn' : bits .and .u64 16 18446744073709551600 = 16 := by decide +kernel
  clear ht
  go_enter Tryd.func60, Tryd.ntmps60
  go_wp2_with fail
  all_goals go_returns
  all_goals exact ⟨rfl, rfl⟩
theorem tz_any (w : World) (ht : TabB w) : Calls Tryd.prog 56 #[.int .u64 16] w fun e w' => e = .returned (.int .i64 4) ∧ w' = w := by
  go_enter Tryd.func56, Tryd.ntmps56
  go_wp2_with (first
    | (go_at_call 60; refine (tz64 _ ht).mono ?_; rintro e w1 ⟨rfl, rfl⟩))
  all_goals go_returns
  all_goals exact ⟨rfl, rfl⟩
theorem p2_any (w : World) : Calls Tryd.prog 55 #[.int .i64 16] w fun e w' => e = .returned (.bool true) ∧ w' = w := by
  have hn : bits .and .i64 16 15 = 0 := by decide +kernel
  go_enter Tryd.func55, Tryd.ntmps55
  go_wp2_with fail
  all_goals go_returns
  all_goals exact ⟨rfl, rfl⟩
set_option maxRecDepth 100000 in
set_option maxHeartbeats 4000000 in
theorem fb_pos (u : Nat) (hu : u < 18446744073709551616) (w : World) (ht : TabB w) : Calls Tryd.prog 49 #[.slice none 0 0, .int .u64 (u : Int), .int .i64 16, .bool false, .bool false] w fun e w' => e = .returned (.tuple #[.slice none 0 0, .string ⟨(hexd u).toArray⟩]) ∧ Below w.heap.size w w' := by
  have ht1 : TabB (w.alloc (.cells zeros65 76)) := tabB_below ht (Below.alloc (Below.refl _ _) (Nat.le_refl _) _)
  go_enter Tryd.func49, Tryd.ntmps49
  go_name_bytes_deep 42 PN hPN
  clear hPN
  go_name_bytes DG hDG
  have eDG : DG = Lib.digits36 := by rw [← hDG]; decide +kernel
  subst eDG
  clear hDG
  go_wp2_with (first
    | (go_at_call 55; refine (p2_any _).mono ?_; rintro e w1 ⟨rfl, rfl⟩)
    | (go_at_call 56; refine (tz_any _ ht1).mono ?_; rintro e w2 ⟨rfl, rfl⟩))
  go_loopw [1, 13] (fun vu vi wr => ∃ (v m n : Nat) (T : List UInt8), vu = .int .u64 v ∧ vi = .int .i64 m ∧ v < 18446744073709551616 ∧ Hid (m = n + 49 ∧ v < 16 ^ n ∧ 1 ≤ n ∧ hexd u = hexF n v ++ T) ∧ HRow w wr m T) (fun vu _ _ => (RowKit.intOf vu).toNat)
  case atStart => exact ⟨u, 65, 16, [], rfl, rfl, hu, Lib.hid ⟨rfl, hu, by decide, by simp [hexd]⟩, HRow.start w _⟩
  case round =>
    obtain ⟨v, m, n, T, rfl, rfl, hv64, HI, hrow⟩ := hrel
    have hi := HI.out
    obtain ⟨m', rfl⟩ : ∃ m', m = m' + 1 := ⟨m - 1, by omega⟩
    have hm65 : m' < 65 := by
      have := hrow.len
      omega
    have hput := Lib.hid (fun b => hrow.put b)
    have Hrow := Lib.hid hrow
    obtain ⟨x, hx⟩ := hrow.cells m' hm65
    have hf := hrow.free m' hm65
    clear hrow
    by_cases h16 : 16 ≤ v
    · have hand : bits .and .u64 (v : Int) 15 = ((v % 16 : Nat) : Int) := by
        rw [show (15 : Int) = ((15 : Nat) : Int) from rfl, u64_and_nat v 15 hv64 (by decide), nat_mask4]
      have hix : ∀ W, (Instr.index 9 (.string Lib.digits36) (.int .u64 ((v : Int) % 16))).run Tryd.prog W = .ok (.int .u8 ((hc (v % 16)).toNat : Int)) W := fun W => by
        have := idx_hex .u64 (v % 16) (by omega) W
        rwa [show ((v % 16 : Nat) : Int) = (v : Int) % 16 from by omega] at this
      clear hi
      go_wp2_with fail
      go_roundw
      case rel =>
        have hi := HI.out
        obtain ⟨n', rfl⟩ : ∃ n', n = n' + 1 := ⟨n - 1, by omega⟩
        obtain ⟨h1, h2, h3⟩ := hex_step h16 hi.2.1
        exact ⟨v / 16, m', n', hc (v % 16) :: T, by go_num, rfl, by omega, Lib.hid ⟨by omega, h2, h3, by rw [hi.2.2.2, h1]; simp⟩, hput.out (hc (v % 16))⟩
      case measure => simp [RowKit.intOf]; omega
    · obtain ⟨n', rfl⟩ : ∃ n', n = n' + 1 := ⟨n - 1, by omega⟩
      have hix := fun W => idx_hex .u64 v (by omega) W
      have hlast : hexd u = hc v :: T := by rw [hi.2.2.2, hex_last (by omega)]; rfl
      have hlen := (hput.out (hc v)).len
      have hrow1 := hput.out (hc v)
      rw [← hlast] at hrow1 hlen
      have hcut := fun W => cut65 W w.heap.size m' (hexd u).length hlen (by rw [hlast]; simp)
      have hcv := hrow1.text
      have hb := hrow1.below
      clear hlast hlen hi hput
      go_wp2_with fail
      go_returns
      exact ⟨rfl, hb⟩
set_option maxRecDepth 100000 in
set_option maxHeartbeats 4000000 in
theorem fb_neg (x : Int) (u : Nat) (hu : u < 18446744073709551616) (hx : IntKind.u64.wrap (-x) = (u : Int)) (w : World) (ht : TabB w) : Calls Tryd.prog 49 #[.slice none 0 0, .int .u64 x, .int .i64 16, .bool true, .bool false] w fun e w' => e = .returned (.tuple #[.slice none 0 0, .string ⟨(45 :: hexd u).toArray⟩]) ∧ Below w.heap.size w w' := by
  have ht1 : TabB (w.alloc (.cells zeros65 76)) := tabB_below ht (Below.alloc (Below.refl _ _) (Nat.le_refl _) _)
  go_enter Tryd.func49, Tryd.ntmps49
  go_name_bytes_deep 42 PN hPN
  clear hPN
  go_name_bytes DG hDG
  have eDG : DG = Lib.digits36 := by rw [← hDG]; decide +kernel
  subst eDG
  clear hDG
  go_wp2_with (first
    | (go_at_call 55; refine (p2_any _).mono ?_; rintro e w1 ⟨rfl, rfl⟩)
    | (go_at_call 56; refine (tz_any _ ht1).mono ?_; rintro e w2 ⟨rfl, rfl⟩))
  go_loopw [1, 13] (fun vu vi wr => ∃ (v m n : Nat) (T : List UInt8), vu = .int .u64 v ∧ vi = .int .i64 m ∧ v < 18446744073709551616 ∧ Hid (m = n + 49 ∧ v < 16 ^ n ∧ 1 ≤ n ∧ hexd u = hexF n v ++ T) ∧ HRow w wr m T) (fun vu _ _ => (RowKit.intOf vu).toNat)
  case atStart => exact ⟨u, 65, 16, [], rfl, rfl, hu, Lib.hid ⟨rfl, hu, by decide, by simp [hexd]⟩, HRow.start w _⟩
  case round =>
    obtain ⟨v, m, n, T, rfl, rfl, hv64, HI, hrow⟩ := hrel
    have hi := HI.out
    obtain ⟨m', rfl⟩ : ∃ m', m = m' + 1 := ⟨m - 1, by omega⟩
    have hm65 : m' < 65 := by
      have := hrow.len
      omega
    have hput := Lib.hid (fun b => hrow.put b)
    have Hrow := Lib.hid hrow
    obtain ⟨x, hx⟩ := hrow.cells m' hm65
    have hf := hrow.free m' hm65
    clear hrow
    by_cases h16 : 16 ≤ v
    · have hand : bits .and .u64 (v : Int) 15 = ((v % 16 : Nat) : Int) := by
        rw [show (15 : Int) = ((15 : Nat) : Int) from rfl, u64_and_nat v 15 hv64 (by decide), nat_mask4]
      have hix : ∀ W, (Instr.index 9 (.string Lib.digits36) (.int .u64 ((v : Int) % 16))).run Tryd.prog W = .ok (.int .u8 ((hc (v % 16)).toNat : Int)) W := fun W => by
        have := idx_hex .u64 (v % 16) (by omega) W
        rwa [show ((v % 16 : Nat) : Int) = (v : Int) % 16 from by omega] at this
      clear hi
      go_wp2_with fail
      go_roundw
      case rel =>
        have hi := HI.out
        obtain ⟨n', rfl⟩ : ∃ n', n = n' + 1 := ⟨n - 1, by omega⟩
        obtain ⟨h1, h2, h3⟩ := hex_step h16 hi.2.1
        exact ⟨v / 16, m', n', hc (v % 16) :: T, by go_num, rfl, by omega, Lib.hid ⟨by omega, h2, h3, by rw [hi.2.2.2, h1]; simp⟩, hput.out (hc (v % 16))⟩
      case measure => simp [RowKit.intOf]; omega
    · obtain ⟨n', rfl⟩ : ∃ n', n = n' + 1 := ⟨n - 1, by omega⟩
      have hix := fun W => idx_hex .u64 v (by omega) W
      have hlast : hexd u = hc v :: T := by rw [hi.2.2.2, hex_last (by omega)]; rfl
      have hlen := (hput.out (hc v)).len
      have hrow1 := hput.out (hc v)
      rw [← hlast] at hrow1 hlen
      obtain ⟨m2, rfl⟩ : ∃ m2, m' = m2 + 1 := ⟨m' - 1, by omega⟩
      obtain ⟨x2, hx2⟩ := hrow1.cells m2 (by omega)
      have hf2 := hrow1.free m2 (by omega)
      have hrow2 := hrow1.put 45
      have hlen2 := hrow2.len
      have hcut := fun W => cut65 W w.heap.size m2 (45 :: hexd u).length hlen2 (by simp)
      have hcv := hrow2.text
      have hb := hrow2.below
      generalize hL : (45 :: hexd u) = L at *
      rw [show ((45 : UInt8).toNat : Int) = 45 from rfl] at hcv hb
      have HL := Lib.hid hL
      clear hlast hlen hi hput hlen2 hrow2 hrow1 hL
      go_wp2_with fail
      go_returns
      have hL := HL.out
      subst hL
      exact ⟨rfl, hb⟩
/-- The hexadecimal numeral of a number. -/
def hnum (n : Int) : ByteArray := ⟨(if n < 0 then 45 :: hexd n.natAbs else hexd n.natAbs).toArray⟩
theorem hnum_len (n : Int) : (hnum n).size ≤ 17 := by
  have := hexF_length 16 n.natAbs
  unfold hnum hexd
  split <;> (simp [ByteArray.size]; omega)
set_option maxRecDepth 100000 in
theorem ifi16 (n : Int) (h0 : -9223372036854775808 ≤ n) (h1 : n ≤ 9223372036854775807) (w : World) (ht : TabB w) : Calls Tryd.prog 42 #[.int .i64 n, .int .i64 16] w fun e w' => e = .returned (.string (hnum n)) ∧ Below w.heap.size w w' := by
  by_cases h : n < 0
  · have e1 : IntKind.u64.wrap (-IntKind.u64.wrap n) = (n.natAbs : Int) := by rw [IntKind.wrap_u64, IntKind.wrap_u64]; omega
    have con := fb_neg (IntKind.u64.wrap n) n.natAbs (by omega) e1 w ht
    have e2 : hnum n = ⟨(45 :: hexd n.natAbs).toArray⟩ := by rw [hnum, if_pos h]
    rw [e2]
    generalize 45 :: hexd n.natAbs = L at *
    clear e1 e2
    go_enter Tryd.func42, Tryd.ntmps42
    go_wp2_with (first
      | (go_at_call 49; refine con.mono ?_; rintro e w1 ⟨rfl, hb1⟩))
    all_goals go_returns
    all_goals exact ⟨rfl, hb1⟩
  · have e1 : IntKind.u64.wrap n = (n.natAbs : Int) := by rw [IntKind.wrap_u64]; omega
    have con := fb_pos n.natAbs (by omega) w ht
    have e2 : hnum n = ⟨(hexd n.natAbs).toArray⟩ := by rw [hnum, if_neg h]
    rw [e2]
    generalize hexd n.natAbs = L at *
    rw [show (n.natAbs : Int) = n from by omega] at con
    clear e1 e2
    have h' : 0 ≤ n := by omega
    go_enter Tryd.func42, Tryd.ntmps42
    go_wp2_with (first
      | (go_at_call 49; refine con.mono ?_; rintro e w1 ⟨rfl, hb1⟩))
    all_goals go_returns
    all_goals exact ⟨rfl, hb1⟩
theorem sfi16 (n : Int) (h0 : -9223372036854775808 ≤ n) (h1 : n ≤ 9223372036854775807) (w : World) (ht : TabB w) : Calls Tryd.prog 38 #[.int .i64 n, .int .i64 16] w fun e w' => e = .returned (.string (hnum n)) ∧ Below w.heap.size w w' := by
  have con := ifi16 n h0 h1 w ht
  generalize hnum n = s at *
  go_enter Tryd.func38, Tryd.ntmps38
  go_wp2_with (first
    | (go_at_call 42; refine con.mono ?_; rintro e w1 ⟨rfl, hb1⟩))
  all_goals go_returns
  all_goals exact ⟨rfl, hb1⟩
end Go.Proofs.YtmhlfipgomdiaaaDoor
