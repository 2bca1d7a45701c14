/-
  An argument that is a slice of slices of tokens, opened: lists of tokens.
-/
import Derived.Test.YtfllliifkgpbkaaOpen
import Derived.Test.YtfllliifkgpbkaaLists
namespace Go.Proofs.Ytfllliifkgpbkaa
open Go.RowKit Go.ChangeShapes Go.WideShapes Go.Deep

section
variable {H : Type} {enc : TypeId × Value → H} {W : World}

/-- A slice of tokens, from its cells. -/
theorem toks_cells {fuel : Nat} {cs : List Value} {x : DataW H × List MemPlace} (hf : DataW.trod enc Try.prog W 0 (fun _ => true) true fuel 24 cs = some x) :
    ∃ l : L1, cs = [l1Val l] ∧ l.n ≤ 9223372036854775807 ∧ Held W W.heap.size 2 l.A l.n (tkCells l.ts) := by
  rcases open_slice_fields Try.underlying24 Try.underlying27 (by kernel_rfl) Try.cellsTok hf with ⟨hcs, _⟩ | ⟨a, len, cap, m, D, Pl, hcs, _, hl, hm, hmm, _, hi⟩
  · exact ⟨⟨none, 0, 0, []⟩, hcs, by show 0 ≤ _; omega, rfl, fun h0 => absurd h0 (Nat.lt_irrefl 0)⟩
  · simp only [if_true] at hmm
    subst hmm
    have key : ∀ i, i < len → ∃ t : Tk, W.cell? (a.add (i * 2)) = some (.int .i64 t.1) ∧ W.cell? (a.add (i * 2 + 1)) = some (.string t.2) := by
      intro i hil
      obtain ⟨ys, n', _, _, _, hfs⟩ := hi i (by omega)
      obtain ⟨v0, y0, hc0, _, ht0⟩ := hfs 0 _ rfl
      obtain ⟨v1, y1, hc1, _, ht1⟩ := hfs 1 _ rfl
      obtain ⟨z, e0, _, _⟩ := DataW.trod_int Try.underlying2 ht0
      obtain ⟨s, e1, _, _⟩ := DataW.trod_string Try.underlying9 ht1
      simp only [List.cons.injEq, and_true] at e0 e1
      subst e0 e1
      exact ⟨(z, s), hc0, hc1⟩
    obtain ⟨ts, hts, hp⟩ := list_of len key
    have hmx : maxLen = 9223372036854775807 := rfl
    refine ⟨⟨some a, len, m, ts⟩, hcs, by show len ≤ _; omega, by show (tkCells ts).length = len * 2; rw [tkCells_len, hts], fun h0 => ?_⟩
    replace h0 : 0 < len := h0
    obtain ⟨b, off, spot⟩ := a
    have h00 := hp 0 ts[0] (List.getElem?_eq_getElem (by omega))
    have hspot : spot = none := by
      have := World.cell?_spot h00.1
      simpa [Addr.add] using this
    subst hspot
    have hplain : ∀ j, (⟨b, off, none⟩ : Addr).add j = ⟨b, off + j, none⟩ := fun j => by unfold Addr.add; split <;> simp_all
    refine ⟨b, off, rfl, ?_, tkCells_at ts fun i t ht => ?_⟩
    · have := World.block_lt_of_cell? W _ h00.1
      rw [hplain] at this
      exact this
    · have := hp i t ht
      rw [hplain, hplain, ← Nat.add_assoc] at this
      exact this

theorem Try.cellsSl : Try.prog.cellsOf 24 = 1 := by kernel_rfl

/-- The argument, opened. -/
theorem open_lists {r : Reach} {base : Nat} {v : Value} {d : DataW H} {p : List MemPlace}
    (hv : Value.okWide Try.prog W r base 22 v) (h : DataW.Trod enc Try.prog W 0 (fun _ => true) true 22 v d p) :
    ∃ O m cap ls, v = .slice O m cap ∧ Lists W W.heap.size O m ls ∧ ∀ l ∈ ls, l.n ≤ 9223372036854775807 := by
  obtain ⟨a0, len, cap, rfl⟩ := okWide_slice Try.underlying22 hv
  obtain ⟨fuel, hf⟩ := h
  rcases open_slice Try.underlying22 hf with ⟨hcs, _⟩ | ⟨a, len', cap', m, n, D, Pl, hcs, _, hl, hm, hmm, _, hi⟩
  · simp [Value.cells] at hcs
    obtain ⟨rfl, rfl, rfl⟩ := hcs
    exact ⟨none, 0, 0, [], rfl, ⟨⟨rfl, fun h0 => absurd h0 (Nat.lt_irrefl 0)⟩, by simp⟩, by simp⟩
  · simp [Value.cells] at hcs
    obtain ⟨rfl, rfl, rfl⟩ := hcs
    simp only [if_true] at hmm
    subst hmm
    rw [Try.cellsSl] at hi
    have key : ∀ i, i < len → ∃ l : L1, W.cell? (a.add i) = some (l1Val l) ∧ l.n ≤ 9223372036854775807 ∧ Held W W.heap.size 2 l.A l.n (tkCells l.ts) := by
      intro i hil
      obtain ⟨cs', hc, ht⟩ := hi i (by omega)
      obtain ⟨l, rfl, h1, h2⟩ := toks_cells ht
      rw [Nat.mul_one] at hc
      exact ⟨l, cell_of_cells?_one hc, h1, h2⟩
    obtain ⟨ls, hls, hp⟩ := list_of len key
    have hall : ∀ l ∈ ls, l.n ≤ 9223372036854775807 ∧ Held W W.heap.size 2 l.A l.n (tkCells l.ts) := fun l hl => by
      obtain ⟨i, hi⟩ := List.mem_iff_getElem?.1 hl
      exact (hp i l hi).2
    refine ⟨some a, len, _, ls, rfl, ⟨⟨by simp [hls], fun h0 => ?_⟩, fun l hl => (hall l hl).2⟩, fun l hl => (hall l hl).1⟩
    obtain ⟨b, off, spot⟩ := a
    have h00 := (hp 0 ls[0] (List.getElem?_eq_getElem (by omega))).1
    have hspot : spot = none := by
      have := World.cell?_spot h00
      simpa [Addr.add] using this
    subst hspot
    have hplain : ∀ j, (⟨b, off, none⟩ : Addr).add j = ⟨b, off + j, none⟩ := fun j => by unfold Addr.add; split <;> simp_all
    refine ⟨b, off, rfl, ?_, fun i u hu => ?_⟩
    · have := World.block_lt_of_cell? W _ h00
      rw [hplain] at this
      exact this
    · rw [List.getElem?_map] at hu
      cases hli : ls[i]? with
      | none => rw [hli] at hu; simp at hu
      | some l =>
        rw [hli] at hu
        simp only [Option.map_some, Option.some.injEq] at hu
        subst hu
        have := (hp i l hli).1
        rwa [hplain] at this
end
end Go.Proofs.Ytfllliifkgpbkaa
