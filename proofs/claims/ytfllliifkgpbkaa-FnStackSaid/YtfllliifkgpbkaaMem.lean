/-
  Small words on memory: the cells of a new block; a call that turns nothing that was there.
-/
import Derived.WalkKit
import Derived.ProofKit
import Derived.Laws.Rows
namespace Go.Proofs.Ytfllliifkgpbkaa
open Go.RowKit

theorem new_cell (w : World) (cs : Array Value) (t : TypeId) (i : Nat) : (w.alloc (.cells cs t)).cell? ⟨w.heap.size, i, none⟩ = cs[i]? :=
  cell_of_row _ w.heap.size i cs t (0, 0) (heap_alloc_new w _)

/-- A call that turns nothing that was there, said with the cells of a block that the caller has laid. -/
theorem boxed {P : Program} {f : FuncId} {args : Array Value} {v a b : Value} {W wx : World} {B : Nat} (c : Calls P f args wx fun e w' => e = .returned v ∧ Below wx.heap.size wx w')
    (h : wx.cell? ⟨B, 0, none⟩ = some a ∧ wx.cell? ⟨B, 1, none⟩ = some b ∧ B < wx.heap.size ∧ Below W.heap.size W wx) :
    Calls P f args wx fun e w' => e = .returned v ∧ w'.cell? ⟨B, 0, none⟩ = some a ∧ w'.cell? ⟨B, 1, none⟩ = some b ∧ B < w'.heap.size ∧ Below W.heap.size W w' :=
  let ⟨h0, h1, h2, h3⟩ := h
  c.mono fun _ _ ⟨he, hb⟩ => ⟨he, (hb.cell (p := ⟨B, 0, none⟩) h2).trans h0, (hb.cell (p := ⟨B, 1, none⟩) h2).trans h1, Nat.lt_of_lt_of_le h2 hb.size, h3.trans (hb.mono h3.size)⟩

/-- A struct of two fields that the callee lays in a box of its own, and what the world is behind a first call that turns nothing. -/
theorem box_facts {w w1 : World} {a b : Value} {t : TypeId} (hb : Below (w.alloc (.cells #[a, b] t)).heap.size (w.alloc (.cells #[a, b] t)) w1) :
    w1.cell? ⟨w.heap.size, 0, none⟩ = some a ∧ w1.cell? ⟨w.heap.size, 1, none⟩ = some b ∧ w.heap.size < w1.heap.size ∧ Below w.heap.size w w1 := by
  have hs := hb.size
  have e : (w.alloc (.cells #[a, b] t)).heap.size = w.heap.size + 1 := by simp
  exact ⟨(hb.cell (p := ⟨w.heap.size, 0, none⟩) (by simp)).trans (new_cell w _ t 0), (hb.cell (p := ⟨w.heap.size, 1, none⟩) (by simp)).trans (new_cell w _ t 1), by omega,
    ((Below.refl _ _).alloc (Nat.le_refl _) _).trans (hb.mono (by simp))⟩
end Go.Proofs.Ytfllliifkgpbkaa
