/- How the arguments of the statements open: a field by value, two words, a slice of fields. -/
import Derived.Test.YtcijejfekeedlaaSl
import Derived.WalkKit
import Derived.ProofKit
import Derived.OpenShut
import Derived.ChangeOld
import Derived.Below
import Derived.Carry
import Derived.Lib.SmallJoins
import Derived.Deep.Slices
import Derived.Deep.Fields
import Derived.Deep.Strs
namespace Go.Proofs.Ytcijejfekeedlaa
open Go.ChangeShapes Go.WideShapes Go.ChangeAt Go.RowKit Go.Joins Go.Deep

theorem own : ownKnob Try.prog.godebug = none := by kernel_rfl
theorem laidOut : laidOutB Try.prog = true := by kernel_rfl
theorem cellsF : Try.prog.cellsOf 23 = 3 := by kernel_rfl
theorem cellsW : Try.prog.cellsOf 25 = 2 := by kernel_rfl
theorem cellsI : Try.prog.cellsOf 3 = 1 := by kernel_rfl
theorem cellsU : Try.prog.cellsOf 24 = 1 := by kernel_rfl

section
variable {H : Type} {enc : TypeId × Value → H} {W : World} {base : Nat} {sp : Nat → Bool} {hd : Bool} {v : Value} {d : DataW H} {p : List MemPlace}

theorem open_fld (hv : Value.okWide Try.prog W .any base 23 v) (h : DataW.Trod enc Try.prog W 0 sp hd 23 v d p) :
    ∃ o b wd : Int, v = .agg #[.int .i64 o, .int .i64 b, .int .i64 wd] ∧ (Lit.int .i64 o).wf = true ∧ (Lit.int .i64 b).wf = true ∧ (Lit.int .i64 wd).wf = true := by
  obtain ⟨c0, c1, c2, y0, y1, y2, m, rfl, _, _, h0, h1, h2⟩ := open_agg3 Try.underlying23 (by kernel_rfl) cellsF hv h
  obtain ⟨o, e0, _, w0⟩ := DataW.trod_int Try.underlying3 h0
  obtain ⟨b, e1, _, w1⟩ := DataW.trod_int Try.underlying3 h1
  obtain ⟨wd, e2, _, w2⟩ := DataW.trod_int Try.underlying3 h2
  simp at e0 e1 e2
  subst e0 e1 e2
  exact ⟨o, b, wd, rfl, w0, w1, w2⟩

theorem open_words (hv : Value.okWide Try.prog W .any base 25 v) (h : DataW.Trod enc Try.prog W 0 sp hd 25 v d p) :
    ∃ x0 x1 : Int, v = .agg #[.int .u32 x0, .int .u32 x1] ∧ 0 ≤ x0 ∧ x0 < 4294967296 ∧ 0 ≤ x1 ∧ x1 < 4294967296 := by
  obtain ⟨cs, rfl, hsz, _⟩ : ∃ cs, v = .agg cs ∧ cs.size = Try.prog.cellsOf 25 ∧ Row.okWide Try.prog W .any base 25 cs := by
    simpa [Value.okWide, Try.underlying25] using hv
  obtain ⟨c0, c1, rfl⟩ := array2 (hsz.trans cellsW)
  obtain ⟨fuel, hf⟩ := h
  obtain ⟨xs, m, _, _, _, hl, hel⟩ := DataW.trod_array Try.underlying25 hf
  have h0 := hel 0 (by omega)
  have h1 := hel 1 (by omega)
  rw [cellsU] at h0 h1
  have g0 : xs[0]? = some xs[0] := List.getElem?_eq_getElem (by omega)
  have g1 : xs[1]? = some xs[1] := List.getElem?_eq_getElem (by omega)
  rw [g0] at h0
  rw [g1] at h1
  obtain ⟨x0, e0, _, w0⟩ := DataW.trod_int Try.underlying24 h0
  obtain ⟨x1, e1, _, w1⟩ := DataW.trod_int Try.underlying24 h1
  simp [Value.cells] at e0 e1
  subst e0 e1
  have b0 := bounds_u32 w0
  have b1 := bounds_u32 w1
  exact ⟨x0, x1, rfl, b0.1, by omega, b1.1, by omega⟩

theorem open_flds (hv : Value.okWide Try.prog W .any base 31 v) (h : DataW.Trod enc Try.prog W 0 sp hd 31 v d p) :
    ∃ (A : Option Addr) (c : Nat) (fs : List Fld), v = .slice A fs.length c ∧ FRow .i64 W A fs := by
  obtain ⟨A, n, c, rfl⟩ := okWide_slice Try.underlying31 hv
  obtain ⟨fuel, hf⟩ := h
  rcases open_slice Try.underlying31 hf with ⟨hcs, _⟩ | ⟨a, len, cap, m, n', D, Pl, hcs, _, hl, _, hmm, _, hi⟩
  · simp [Value.cells] at hcs
    obtain ⟨rfl, rfl, rfl⟩ := hcs
    exact ⟨none, 0, [], rfl, fun h => absurd rfl h⟩
  · simp [Value.cells] at hcs
    obtain ⟨rfl, rfl, rfl⟩ := hcs
    have hlm : n ≤ m := by rw [hmm]; split <;> omega
    have key : ∀ i, ∃ f : Fld, i < n → W.cell? (a.add (i * 3)) = some (.int .i64 f.o) ∧ W.cell? ((a.add (i * 3)).add 1) = some (.int .i64 f.b) ∧ W.cell? ((a.add (i * 3)).add 2) = some (.int .i64 f.w) := by
      intro i
      by_cases hin : i < n
      · obtain ⟨cs', hc, ht⟩ := hi i (by omega)
        rw [cellsF] at hc
        obtain ⟨_, hlen, hcl⟩ := World.cells?_some hc
        match cs', hlen with
        | [c0, c1, c2], _ =>
          obtain ⟨y0, y1, y2, k, _, _, h0, h1, h2⟩ := trod_struct3 Try.underlying23 ht
          have h0' : DataW.trod enc Try.prog W 0 sp hd k 3 [c0] = some y0 := by simpa [cellsI] using h0
          have h1' : DataW.trod enc Try.prog W 0 sp hd k 3 [c1] = some y1 := by simpa [cellsI] using h1
          have h2' : DataW.trod enc Try.prog W 0 sp hd k 3 [c2] = some y2 := by simpa [cellsI] using h2
          obtain ⟨o, e0, _, _⟩ := DataW.trod_int Try.underlying3 h0'
          obtain ⟨b, e1, _, _⟩ := DataW.trod_int Try.underlying3 h1'
          obtain ⟨wd, e2, _, _⟩ := DataW.trod_int Try.underlying3 h2'
          simp at e0 e1 e2
          subst e0 e1 e2
          have g0 := hcl 0 (by omega)
          have g1 := hcl 1 (by omega)
          have g2 := hcl 2 (by omega)
          rw [show (a.add (i * 3)).add 0 = a.add (i * 3) from if_pos rfl] at g0
          exact ⟨⟨o, b, wd⟩, fun _ => ⟨g0, g1, g2⟩⟩
      · exact ⟨⟨0, 0, 0⟩, fun h => absurd h hin⟩
    obtain ⟨F, hF⟩ := Classical.axiomOfChoice key
    have hlen : ((List.range n).map F).length = n := by simp
    refine ⟨some a, c, (List.range n).map F, by rw [hlen], fun hne => ?_⟩
    have hn0 : 0 < n := by
      rcases Nat.eq_zero_or_pos n with h0 | h0
      · exact absurd (by rw [h0]; rfl) hne
      · exact h0
    have hspot : a.spot = none := by
      have := World.cell?_spot (hF 0 hn0).1
      simpa [Addr.add] using this
    obtain ⟨bl, off, s0⟩ := a
    simp only at hspot
    subst hspot
    have ad : ∀ i j, ((⟨bl, off, none⟩ : Addr).add i).add j = ⟨bl, off + i + j, none⟩ := by
      intro i j
      by_cases hi : i = 0 <;> by_cases hj : j = 0 <;> simp [Addr.add, hi, hj]
    have ad0 : ∀ i, (⟨bl, off, none⟩ : Addr).add i = ⟨bl, off + i, none⟩ := by
      intro i
      by_cases hi : i = 0 <;> simp [Addr.add, hi]
    have hb : bl < W.heap.size := by
      have := World.block_lt_of_cell? W _ (hF 0 hn0).1
      rwa [ad0] at this
    refine ⟨bl, off, rfl, hb, fun k f hk => ?_⟩
    obtain ⟨hk1, hk2⟩ := List.getElem?_eq_some_iff.1 hk
    simp at hk1 hk2
    subst hk2
    obtain ⟨q0, q1, q2⟩ := hF k hk1
    rw [ad] at q1 q2
    rw [ad0] at q0
    exact ⟨q0, q1, q2⟩
end
end Go.Proofs.Ytcijejfekeedlaa
