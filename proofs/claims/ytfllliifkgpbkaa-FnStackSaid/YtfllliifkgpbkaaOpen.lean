/-
  An argument that is a slice of tokens, opened to its cells: a list of tokens.
-/
import Derived.Test.YtfllliifkgpbkaaChecked
import Derived.Test.YtfllliifkgpbkaaWords
import Derived.OpenShut
namespace Go.Proofs.Ytfllliifkgpbkaa
open Go.RowKit Go.ChangeShapes Go.WideShapes Go.Deep

section
variable {H : Type} {enc : TypeId × Value → H} {P : Program} {w : World} {base : Nat} {spare : Nat → Bool} {held : Bool}

/-- A slice of structs, of whatever number of one-cell fields (after the guide's own lemma). -/
theorem open_slice_fields {t e : TypeId} {fs : Array Field} {fuel : Nat} {cs : List Value} {x : DataW H × List MemPlace} (ht : P.underlying t = some (.slice e)) (he : P.underlying e = some (.struct fs))
    (hone : oneCellFields P fs = true) (hC : P.cellsOf e = fs.size) (h : DataW.trod enc P w base spare held fuel t cs = some x) :
    (cs = [.slice none 0 0] ∧ x = (.nil, [])) ∨
    ∃ (a : Addr) (len cap m : Nat) (D : Nat → DataW H) (Pl : Nat → List MemPlace), cs = [.slice (some a) len cap] ∧ base ≤ a.block ∧ len ≤ cap ∧ cap ≤ maxLen ∧ m = (if spare a.block then cap else len) ∧
      x = (.slice ((List.range len).map D) ((List.range (m - len)).map fun j => D (len + j)), MemPlace.row a (m * fs.size) ++ (List.range m).flatMap Pl) ∧
      ∀ i, i < m → ∃ (ys : List (DataW H × List MemPlace)) (n : Nat), D i = .agg (ys.map (·.1)) ∧ Pl i = ys.flatMap (·.2) ∧ ys.length = fs.size ∧
        ∀ (j : Nat) (f : Field), fs[j]? = some f → ∃ (v : Value) (y : DataW H × List MemPlace), w.cell? (a.add (i * fs.size + j)) = some v ∧ ys[j]? = some y ∧ DataW.trod enc P w base spare held n f.type [v] = some y := by
  rcases open_slice ht h with h0 | ⟨a, len, cap, m, n, D, Pl, hcs, hb, hl, hm, hmm, hx, hi⟩
  · exact .inl h0
  · refine .inr ⟨a, len, cap, m, D, Pl, hcs, hb, hl, hm, hmm, by rw [hC] at hx; exact hx, fun i him => ?_⟩
    obtain ⟨cs', hc, ht'⟩ := hi i him
    rw [hC] at hc
    obtain ⟨ys, n', hn', hy, hlen, hyl, hf⟩ := DataW.trod_struct he ht'
    obtain ⟨_, hcl, hat⟩ := World.cells?_some hc
    simp only [Prod.mk.injEq] at hy
    refine ⟨ys, n', hy.1, hy.2, hyl, fun j f hj => ?_⟩
    obtain ⟨ho, hk⟩ := hone_of hone j f hj
    have hjl : j < fs.size := (Array.getElem?_eq_some_iff.1 hj).1
    have hcell := hat j hjl
    have hv : cs'[j]? = some (cs'[j]'(by omega)) := List.getElem?_eq_getElem (by omega)
    have h1 := hf j f hj
    rw [ho, hk] at h1
    have hone' : (cs'.drop j).take 1 = [cs'[j]'(by omega)] := by
      rw [List.drop_eq_getElem_cons (by omega)]
      rfl
    rw [hone'] at h1
    have hys : ys[j]? = some (ys[j]'(by omega)) := List.getElem?_eq_getElem (by omega)
    refine ⟨_, _, ?_, hys, h1.trans hys⟩
    rw [← Go.Deep.add_add, hcell, hv]
end

/-- What holds of each number below n is said of a list. -/
theorem list_of {α : Type} {p : Nat → α → Prop} : ∀ (n : Nat), (∀ i, i < n → ∃ x, p i x) → ∃ l : List α, l.length = n ∧ ∀ i x, l[i]? = some x → p i x
  | 0, _ => ⟨[], rfl, fun i x h => by simp at h⟩
  | n + 1, h => by
    obtain ⟨l, hl, hp⟩ := list_of n (fun i hi => h i (by omega))
    obtain ⟨x, hx⟩ := h n (by omega)
    refine ⟨l ++ [x], by simp [hl], fun i y hy => ?_⟩
    by_cases hi : i < n
    · rw [List.getElem?_append_left (by omega)] at hy
      exact hp i y hy
    · have hin : i = n := by
        have := (List.getElem?_eq_some_iff.1 hy).1
        simp at this
        omega
      subst hin
      rw [List.getElem?_append_right (by omega)] at hy
      simp [hl] at hy
      subst hy
      exact hx

theorem Try.cellsTok : Try.prog.cellsOf 27 = 2 := by kernel_rfl

/-- Tokens as cells, from each token's own cells. -/
theorem tkCells_at {w : World} {b off : Nat} : ∀ (ts : List Tk), (∀ i t, ts[i]? = some t → w.cell? ⟨b, off + i * 2, none⟩ = some (.int .i64 t.1) ∧ w.cell? ⟨b, off + i * 2 + 1, none⟩ = some (.string t.2)) →
    ∀ j u, (tkCells ts)[j]? = some u → w.cell? ⟨b, off + j, none⟩ = some u := by
  intro ts h j u hu
  have hj : j < ts.length * 2 := by
    have := (List.getElem?_eq_some_iff.1 hu).1
    rwa [tkCells_len] at this
  have hi : j / 2 < ts.length := by omega
  have ht : ts[j / 2]? = some ts[j / 2] := List.getElem?_eq_getElem hi
  obtain ⟨g0, g1⟩ := tkCells_get ht
  obtain ⟨c0, c1⟩ := h _ _ ht
  rcases (show j = j / 2 * 2 ∨ j = j / 2 * 2 + 1 from by omega) with e | e
  · rw [e, g0] at hu
    rw [e, c0]
    simpa using hu
  · rw [e, g1] at hu
    rw [e, ← Nat.add_assoc, c1]
    simpa using hu

/-- The argument, opened. -/
theorem open_toks {H : Type} {enc : TypeId × Value → H} {W : World} {r : Reach} {base : Nat} {v : Value} {d : DataW H} {p : List MemPlace}
    (hv : Value.okWide Try.prog W r base 24 v) (h : DataW.Trod enc Try.prog W 0 (fun _ => true) true 24 v d p) :
    ∃ A n cap ts, v = .slice A n cap ∧ n ≤ 9223372036854775807 ∧ Held W W.heap.size 2 A n (tkCells ts) := by
  obtain ⟨a0, len, cap, rfl⟩ := okWide_slice Try.underlying24 hv
  obtain ⟨fuel, hf⟩ := h
  rcases open_slice_fields Try.underlying24 Try.underlying27 (by kernel_rfl) Try.cellsTok hf with ⟨hcs, _⟩ | ⟨a, len', cap', m, D, Pl, hcs, _, hl, hm, hmm, _, hi⟩
  · simp [Value.cells] at hcs
    obtain ⟨rfl, rfl, rfl⟩ := hcs
    exact ⟨none, 0, 0, [], rfl, by omega, rfl, fun h0 => absurd h0 (Nat.lt_irrefl 0)⟩
  · simp [Value.cells] at hcs
    obtain ⟨rfl, rfl, rfl⟩ := hcs
    simp only [if_true] at hmm
    subst hmm
    have key : ∀ i, i < len → ∃ t : Tk, W.cell? (a.add (i * 2)) = some (.int .i64 t.1) ∧ W.cell? (a.add (i * 2 + 1)) = some (.string t.2) := by
      intro i hil
      obtain ⟨ys, n', _, _, _, hfs⟩ := hi i (by omega)
      obtain ⟨v0, y0, hc0, _, ht0⟩ := hfs 0 _ rfl
      obtain ⟨v1, y1, hc1, _, ht1⟩ := hfs 1 _ rfl
      obtain ⟨z, e0, _, _⟩ := DataW.trod_int Try.underlying2 ht0
      obtain ⟨s, e1, _, _⟩ := DataW.trod_string Try.underlying9 ht1
      simp only [List.cons.injEq, and_true] at e0 e1
      subst e0 e1
      exact ⟨(z, s), hc0, hc1⟩
    obtain ⟨ts, hts, hp⟩ := list_of len key
    have hmx : maxLen = 9223372036854775807 := rfl
    refine ⟨some a, len, _, ts, rfl, by omega, by rw [tkCells_len, hts], fun h0 => ?_⟩
    obtain ⟨b, off, spot⟩ := a
    have h00 := hp 0 ts[0] (List.getElem?_eq_getElem (by omega))
    have hspot : spot = none := by
      have := World.cell?_spot h00.1
      simpa [Addr.add] using this
    subst hspot
    have hplain : ∀ j, (⟨b, off, none⟩ : Addr).add j = ⟨b, off + j, none⟩ := fun j => by unfold Addr.add; split <;> simp_all
    refine ⟨b, off, rfl, ?_, tkCells_at ts fun i t ht => ?_⟩
    · have := World.block_lt_of_cell? W _ h00.1
      rw [hplain] at this
      exact this
    · have := hp i t ht
      rw [hplain, hplain, ← Nat.add_assoc] at this
      exact this
end Go.Proofs.Ytfllliifkgpbkaa
