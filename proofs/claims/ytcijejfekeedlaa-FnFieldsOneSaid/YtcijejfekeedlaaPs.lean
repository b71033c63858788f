/- A field read with its sign. -/
import Derived.Test.YtcijejfekeedlaaCore
import Derived.WalkKit
import Derived.WalkSpells
import Derived.WalkLawsBesides
import Derived.Below
import Derived.Laws.Pointers
import Derived.Handy
namespace Go.Proofs.Ytcijejfekeedlaa
open Go.RowKit

theorem parseSigned_ok (o b wd x0 x1 : Int) (ho : 0 ≤ o) (hb : 1 ≤ b) (hob : o + b ≤ 32) (hw : 0 ≤ wd) (hw' : wd ≤ 1) (hx0 : 0 ≤ x0) (hx0' : x0 < 4294967296) (hx1 : 0 ≤ x1) (hx1' : x1 < 4294967296) (w : World) :
    Calls Try.prog 33 #[.agg #[.int .u8 o, .int .u8 b, .int .u8 wd], .agg #[.int .u32 x0, .int .u32 x1]] w fun e w' => e = .returned (.int .i32 (sgn (fv (ws x0 x1 wd) o b) b)) ∧ Below w.heap.size w w' := by
  have b0 := fv_nonneg (ws x0 x1 wd) o b
  have b1 := fv_lt32 (x := ws x0 x1 wd) (o := o) (b := b) (by omega)
  go_enter Try.func33, Try.ntmps33
  go_wp2_with (go_at_call 28; refine (parse_ok o b wd x0 x1 ho hb hob hw hw' hx0 hx0' hx1 hx1' _).mono ?_; rintro e w1 ⟨rfl, hbel⟩; obtain ⟨hc, hf, hs, hl⟩ := bcellN (w.heap.size + 2) hbel (by first | assumption | (simp; done) | (simp; omega) | omega))
  go_ret
  exact ⟨ret_int (sgn32 _ b hb (by omega) b0 (fv_lt _ _ _)), Below.trans (by go_grown) (hbel.mono (by simp; omega))⟩

theorem parseSigned_panic (o b wd x0 x1 : Int) (ho : 0 ≤ o) (ho' : o ≤ 31) (hb : 1 ≤ b) (hb' : b ≤ 32) (hob : 32 < o + b) (w : World) :
    Calls Try.prog 33 #[.agg #[.int .u8 o, .int .u8 b, .int .u8 wd], .agg #[.int .u32 x0, .int .u32 x1]] w fun e w' => (∃ v, e = .panicked [{ v := .iface 9 v, recovered := false }]) ∧ Below w.heap.size w w' := by
  go_enter Try.func33, Try.ntmps33
  go_wp2_with (go_at_call 28; refine (parse_panic o b wd x0 x1 ho ho' hb hb' hob _).mono ?_; rintro e w1 ⟨⟨v, rfl⟩, hbel⟩)
  refine ⟨rfl, ⟨_, rfl⟩, ?_⟩
  exact Below.trans (by go_grown) (hbel.mono (by simp; omega))
end Go.Proofs.Ytcijejfekeedlaa
