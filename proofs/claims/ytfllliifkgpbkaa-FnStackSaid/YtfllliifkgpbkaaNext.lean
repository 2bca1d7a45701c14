/-
  A reader's Next, Text and Line. Conditions: the reader stands at a place of at most 60 tokens.
-/
import Derived.Test.YtfllliifkgpbkaaSlice
import Derived.Laws.Pointers
namespace Go.Proofs.Ytfllliifkgpbkaa
open Go.Lib Go.RowKit

/-- What a step of a reader leaves: the reader one place on, all else as it was. -/
def Stepped (base g : Nat) (v : Value) (n : Nat) (ts : List Tk) (L : Int) (k : Nat) (w w' : World) : Prop :=
  SliceAt w' base g v n ts L k ∧ w.grownBy w' (some g)

theorem SliceAt.step {w : World} {base g : Nat} {v : Value} {n : Nat} {ts : List Tk} {L p : Int} (h : SliceAt w base g v n ts L p) (k m : Nat) :
    Stepped base g v n ts L k w ((w.setCell ⟨g, 3, none⟩ (.int .i64 k)).drewN m) := by
  have hg : w.grownBy (w.setCell ⟨g, 3, none⟩ (.int .i64 k)) (some g) :=
    ⟨rfl, rfl, rfl, by simp [World.setCell], fun j hj hne => Below.heap_setCell _ _ _ _ (fun e => hne (by rw [e]))⟩
  have hne := own_blk_ne h.2 h.1 (by decide)
  have hg' : w.grownBy ((w.setCell ⟨g, 3, none⟩ (.int .i64 k)).drewN m) (some g) := ⟨hg.os, hg.tape, hg.output, hg.size, hg.block⟩
  exact ⟨⟨h.1.set_ 3 _, h.2.kept hg' (.inr hne)⟩, hg'⟩

set_option maxHeartbeats 800000 in
theorem next_end (base g : Nat) (v : Value) (n : Nat) (ts : List Tk) (L : Int) (k : Nat) (w : World) (h : SliceAt w base g v n ts L ((k : Int) - 1)) (hk : n ≤ k) (hk' : k ≤ 100) :
    Calls Try.prog 19 #[.pointer (some ⟨g, 0, none⟩)] w fun e w' => e = .returned (.int .i32 (-1)) ∧ Stepped base g v n ts L k w w' := by
  obtain ⟨A, c, rfl⟩ := own_form h.2
  have c0 : w.cell? ⟨g, 0, none⟩ = some (.slice A n c) := h.1.cell 0
  have c3 : w.cell? ⟨g, 3, none⟩ = some (.int .i64 ((k : Int) - 1)) := h.1.cell 3
  have f3 : w.frozen? ⟨g, 3, none⟩ = false := h.1.frozen 3
  go_enter Try.func19, Try.ntmps19
  go_wp2
  go_quiet (fail)
  go_wp2
  go_ret
  exact ⟨rfl, h.step k _⟩

theorem SliceAt.tok {w : World} {base g n c : Nat} {A : Option Addr} {ts : List Tk} {L p : Int} {k : Nat} (h : SliceAt w base g (.slice A n c) n ts L p) (hk : k < n) :
    ∃ b off t, A = some ⟨b, off, none⟩ ∧ b ≠ g ∧ ts[k]? = some t ∧ w.cell? ⟨b, off + k * 2, none⟩ = some (.int .i32 t.1) ∧ w.cell? ⟨b, off + k * 2 + 1, none⟩ = some (.string t.2) := by
  obtain ⟨b, off, t, rfl, _, ht, h0, h1⟩ := (Held.of_own h.2).mk hk
  refine ⟨b, off, t, rfl, fun e => ?_, ht, h0, h1⟩
  have := own_blk_ne h.2 h.1 (by decide)
  exact this (by simp [Value.ownBlock, e])

set_option maxHeartbeats 800000 in
theorem next_tok (base g : Nat) (v : Value) (n : Nat) (ts : List Tk) (L : Int) (k : Nat) (t : Tk) (w : World) (h : SliceAt w base g v n ts L ((k : Int) - 1)) (hk : k < n) (hk' : n ≤ 100) (ht : ts[k]? = some t) :
    Calls Try.prog 19 #[.pointer (some ⟨g, 0, none⟩)] w fun e w' => e = .returned (.int .i32 t.1) ∧ Stepped base g v n ts L k w w' := by
  obtain ⟨A, c, rfl⟩ := own_form h.2
  obtain ⟨b, off, t', rfl, hne, ht', d0, _⟩ := h.tok hk
  obtain rfl : t = t' := by rw [ht] at ht'; injection ht'
  clear ht ht'
  have c0 : w.cell? ⟨g, 0, none⟩ = some (.slice (some ⟨b, off, none⟩) n c) := h.1.cell 0
  have c3 : w.cell? ⟨g, 3, none⟩ = some (.int .i64 ((k : Int) - 1)) := h.1.cell 3
  have f3 : w.frozen? ⟨g, 3, none⟩ = false := h.1.frozen 3
  have hi0 : (0 : Int) ≤ (k : Int) := Int.natCast_nonneg _
  have hi1 : (k : Int) < (n : Int) := by omega
  go_enter Try.func19, Try.ntmps19
  go_wp2
  go_quiet (fail)
  go_wp2
  go_quiet (fail)
  go_wp2
  go_ret
  exact ⟨rfl, by rw [World.drewN_drewN]; exact h.step k _⟩

set_option maxHeartbeats 800000 in
theorem text_tok (base g : Nat) (v : Value) (n : Nat) (ts : List Tk) (L : Int) (k : Nat) (t : Tk) (w : World) (h : SliceAt w base g v n ts L k) (hk : k < n) (ht : ts[k]? = some t) :
    Calls Try.prog 20 #[.pointer (some ⟨g, 0, none⟩)] w fun e w' => e = .returned (.string t.2) ∧ ∃ m, w' = w.drewN m := by
  obtain ⟨A, c, rfl⟩ := own_form h.2
  obtain ⟨b, off, t', rfl, hne, ht', _, d1⟩ := h.tok hk
  obtain rfl : t = t' := by rw [ht] at ht'; injection ht'
  clear ht ht'
  have c0 : w.cell? ⟨g, 0, none⟩ = some (.slice (some ⟨b, off, none⟩) n c) := h.1.cell 0
  have c3 : w.cell? ⟨g, 3, none⟩ = some (.int .i64 k) := h.1.cell 3
  have hi0 : (0 : Int) ≤ (k : Int) := Int.natCast_nonneg _
  have hi1 : (k : Int) < (n : Int) := by omega
  go_enter Try.func20, Try.ntmps20
  go_wp2
  go_quiet (fail)
  go_wp2
  go_ret
  exact ⟨rfl, _, rfl⟩

theorem line_any (base g : Nat) (v : Value) (n : Nat) (ts : List Tk) (L p : Int) (w : World) (h : SliceAt w base g v n ts L p) :
    Calls Try.prog 21 #[.pointer (some ⟨g, 0, none⟩)] w fun e w' => e = .returned (.int .i64 L) ∧ w = w' := by
  have c2 : w.cell? ⟨g, 2, none⟩ = some (.int .i64 L) := h.1.cell 2
  go_enter Try.func21, Try.ntmps21
  go_wp2
  go_ret
  exact ⟨rfl, rfl⟩
end Go.Proofs.Ytfllliifkgpbkaa
