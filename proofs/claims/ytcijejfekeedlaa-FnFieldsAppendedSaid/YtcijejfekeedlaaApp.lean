/- Slices of fields put behind each other, as the statements do it. -/
import Derived.Test.YtcijejfekeedlaaMany
import Derived.Test.YtcijejfekeedlaaFr
import Derived.WalkKit
import Derived.OwnWalk
import Derived.Laws.AppendOwn
import Derived.Laws.AppendOwnNone
import Derived.Laws.OwnMore
import Derived.Deep.AppendLies
import Derived.Deep.Slices
import Derived.ProofKit
import Derived.Below
namespace Go.Proofs.Ytcijejfekeedlaa
open Go.RowKit Go.ChangeShapes Go.WideShapes Go.Deep

theorem infoF : (Try.prog.info? 23).map (fun i => (i.zero, i.size, i.bytes)) = some (some (.agg #[.int .i64 0, .int .i64 0, .int .i64 0]), 3, 24) := by kernel_rfl

theorem open_nil {H : Type} {enc : TypeId × Value → H} {W : World} {sp : Nat → Bool} {hd : Bool} {d : DataW H} {p : List MemPlace} {A : Option Addr} {n c : Nat}
    (h : DataW.Trod enc Try.prog W 0 sp hd 31 (.slice A n c) d p) : A = none → c = 0 := by
  obtain ⟨fuel, hf⟩ := h
  rcases open_slice Try.underlying31 hf with ⟨hcs, _⟩ | ⟨a, len, cap, m, n', D, Pl, hcs, _⟩
  · simp [Value.cells] at hcs
    exact fun _ => hcs.2.2
  · simp [Value.cells] at hcs
    rw [hcs.1]
    exact fun h => by cases h

theorem flat_cells {kd : IntKind} {W : World} {bl off : Nat} : ∀ (fs : List Fld) (o : Nat), (∀ (k : Nat) (f : Fld), fs[k]? = some f → W.cell? ⟨bl, o + k * 3, none⟩ = some (.int kd f.o) ∧ W.cell? ⟨bl, o + k * 3 + 1, none⟩ = some (.int kd f.b) ∧ W.cell? ⟨bl, o + k * 3 + 2, none⟩ = some (.int kd f.w)) →
    ∀ (j : Nat) (u : Value), (flat kd fs)[j]? = some u → W.cell? ⟨bl, o + j, none⟩ = some u
  | [], o, _, j, u, hu => by simp [flat] at hu
  | f :: fs, o, h, j, u, hu => by
    obtain ⟨q0, q1, q2⟩ := h 0 f rfl
    simp only [flat, List.flatMap_cons] at hu
    match j, hu with
    | 0, hu => simp at hu; subst hu; simpa using q0
    | 1, hu => simp at hu; subst hu; simpa using q1
    | 2, hu => simp at hu; subst hu; simpa using q2
    | j + 3, hu =>
      have hu' : (flat kd fs)[j]? = some u := by simpa [flat] using hu
      have := flat_cells (bl := bl) (off := off) fs (o + 3) (fun k g hg => by
        have := h (k + 1) g (by simpa using hg)
        rw [show o + (k + 1) * 3 = o + 3 + k * 3 by omega] at this
        exact this) j u hu'
      rwa [show o + 3 + j = o + (j + 3) by omega] at this
theorem FRow.news {kd : IntKind} {W : World} {ad : Addr} {fs : List Fld} (h : FRow kd W (some ad) fs) : ∀ (j : Nat) (u : Value), (flat kd fs)[j]? = some u → W.cell? (ad.add j) = some u := by
  intro j u hu
  have hne : fs ≠ [] := by rintro rfl; simp [flat] at hu
  obtain ⟨bl, off, hA, _, hc⟩ := h hne
  injection hA with hA
  subst hA
  have ad0 : (⟨bl, off, none⟩ : Addr).add j = ⟨bl, off + j, none⟩ := by by_cases hj : j = 0 <;> simp [Addr.add, hj]
  rw [ad0]
  exact flat_cells (bl := bl) (off := off) fs off hc j u hu
theorem flat_one (kd : IntKind) (l : List Fld) : ∀ u ∈ flat kd l, u.oneCell' = true := by
  intro u hu
  simp only [flat, List.mem_flatMap] at hu
  obtain ⟨f, _, hf⟩ := hu
  simp at hf
  rcases hf with rfl | rfl | rfl <;> rfl
theorem flat_append (kd : IntKind) (a b : List Fld) : flat kd (a ++ b) = flat kd a ++ flat kd b := by simp [flat]
theorem own_empty (W : World) (e : TypeId) : (W.alloc (.cells #[] e)).ownsRow W.heap.size e 3 (.slice (some ⟨W.heap.size, 0, none⟩) 0 0) 0 [] :=
  ⟨rfl, Or.inr ⟨W.heap.size, 0, #[], rfl, Nat.le_refl _, heap_alloc_new W _, Nat.le_refl _, Nat.zero_le _, rfl, rfl⟩⟩
theorem own_slice {W : World} {base : Nat} {e : TypeId} {v : Value} {n : Nat} {xs : List Value} (h : W.ownsRow base e 3 v n xs) : ∃ A c, v = .slice A n c := by
  rcases h.2 with ⟨rfl, rfl⟩ | ⟨g, cap, cur, rfl, _⟩
  · exact ⟨_, _, rfl⟩
  · exact ⟨_, _, rfl⟩

theorem wpList_append_flds {P : Program} {W : World} {ops : Array Oper} {rest : List Oper} {o : Oper} {a : Act} {Q : Exit → Act → World → Prop} (hgd : o.guard = none) (s x : Operand) (t : TypeId)
    (ho : o.op = .call { callee := .builtin .append, args := #[s, x], argTypes := #[t, t] })
    (base : Nat) (e : TypeId) (i : TypeInfo) (z : Value) (ht : P.underlying t = some (.slice e)) (hi : P.info? e = some i) (hz : i.zero = some z) (hsize : i.size = 3) (hby : i.bytes = 24) (hzs : z.cells.size = 3)
    (v : Value) (n : Nat) (xs : List Value) (hs : a.eval s = v) (hown : W.ownsRow base e 3 v n xs)
    (A : Option Addr) (fs : List Fld) (c : Nat) (hx : a.eval x = .slice A fs.length c) (hr : FRow .i64 W A fs) (hnil : A = none → c = 0) (hlen : n + fs.length ≤ 4294967295) (hbase : base ≤ W.heap.size)
    (h : ∀ v' w', w'.ownsRow base e 3 v' (n + fs.length) (xs ++ flat .i64 fs) → W.grownBy w' v.ownBlock → wpList P ops Q rest (a.put o.dst v') w') : wpList P ops Q (o :: rest) a W := by
  rcases A with _ | ad
  · have h0 : fs = [] := by
      rcases fs with _ | ⟨f, l⟩
      · rfl
      · obtain ⟨_, _, hA, _⟩ := hr (by simp)
        cases hA
    subst h0
    have hc := hnil rfl
    subst hc
    exact wpList_append_own_none hgd s x t ho base e i 3 ht hi v n xs hs hown hx (h v W (by simpa [flat] using hown) (World.grownBy.refl W _))
  · exact wpList_append_own W hgd s x t ho base e i z 3 24 ht hi hz hsize hby hzs (by decide) v n xs hs hown ad fs.length c (flat .i64 fs) hx (flat_length _ _) hr.news (flat_one _ _) (by unfold maxLen; omega) (by omega) hbase
      fun v' w' h1 h2 _ => h v' w' h1 h2

theorem jn_append (x0 x1 : Int) (a b : List Fld) (hb : allR b = true) : jn x0 x1 (a ++ b) = jn x0 x1 a * 2 ^ (sumB b).toNat + jn x0 x1 b := by
  suffices H : ∀ n, n ≤ b.length → jn x0 x1 (a ++ b.take n) = jn x0 x1 a * 2 ^ (sumB (b.take n)).toNat + jn x0 x1 (b.take n) by
    have := H b.length (Nat.le_refl _)
    rwa [List.take_length] at this
  intro n
  induction n with
  | zero => intro _; simp [jn, sumB]
  | succ n ih =>
    intro hn
    have hf : b[n]? = some b[n] := List.getElem?_eq_getElem (by omega)
    have hr := frb_spec (allR_get hb hf)
    have hs := (sumB_bounds _ (allR_take hb n)).1
    have i := ih (by omega)
    rw [take_snoc b n _ hf, ← List.append_assoc, jn_snoc, jn_snoc, sumB_snoc, i]
    generalize b[n] = f at *
    have e : (sumB (b.take n) + f.b).toNat = (sumB (b.take n)).toNat + f.b.toNat := by omega
    rw [e, two_add, Int.add_mul, Int.mul_assoc]
    omega
end Go.Proofs.Ytcijejfekeedlaa
