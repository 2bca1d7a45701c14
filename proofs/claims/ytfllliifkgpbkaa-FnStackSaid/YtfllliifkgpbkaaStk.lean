/-
  A stack of readers in memory: its own block, the row of its readers, each reader's own block and row.
-/
import Derived.Test.YtfllliifkgpbkaaNext
import Derived.Test.YtfllliifkgpbkaaRead
import Derived.Test.YtfllliifkgpbkaaApp
namespace Go.Proofs.Ytfllliifkgpbkaa
open Go.Lib Go.RowKit

/-- Of what was there only the blocks of a list have turned. -/
structure Only (w w' : World) (l : List Nat) : Prop where
  os : w'.os = w.os
  tape : w'.tape = w.tape
  output : w'.output = w.output
  size : w.heap.size ≤ w'.heap.size
  block : ∀ k, k < w.heap.size → k ∉ l → w'.heap[k]? = w.heap[k]?

section
variable {a b c : World} {l m : List Nat}
theorem Only.refl (w : World) (l : List Nat) : Only w w l := ⟨rfl, rfl, rfl, Nat.le_refl _, fun _ _ _ => rfl⟩
theorem Only.trans (h : Only a b l) (k : Only b c l) : Only a c l :=
  ⟨k.os.trans h.os, k.tape.trans h.tape, k.output.trans h.output, Nat.le_trans h.size k.size, fun i hi hn => (k.block i (Nat.lt_of_lt_of_le hi h.size) hn).trans (h.block i hi hn)⟩
theorem Only.mono (h : Only a b l) (hs : ∀ x ∈ l, x ∈ m) : Only a b m := ⟨h.os, h.tape, h.output, h.size, fun i hi hn => h.block i hi (fun hx => hn (hs i hx))⟩
theorem Only.grown {row : Option Nat} (h : a.grownBy b row) (hr : ∀ g, row = some g → g ∈ l) : Only a b l :=
  ⟨h.os, h.tape, h.output, h.size, fun i hi hn => h.block i hi (fun e => hn (hr i e.symm))⟩
theorem Only.drewN (h : Only a b l) (n : Nat) : Only a (b.drewN n) l := ⟨h.os, h.tape, h.output, h.size, h.block⟩
theorem Only.drew (h : Only a b l) : Only a b.drew l := ⟨h.os, h.tape, h.output, h.size, h.block⟩
theorem Only.below {B : Nat} (h : Only a b l) (hB : B ≤ a.heap.size) (hl : ∀ x ∈ l, B ≤ x) : Below B a b :=
  ⟨h.os, h.tape, h.output, h.size, fun k hk => h.block k (by omega) (fun hx => by have := hl k hx; omega)⟩
theorem Only.own {base : Nat} {e : TypeId} {size n : Nat} {v : Value} {xs : List Value} (h : Only a b l) (ho : a.ownsRow base e size v n xs) (hn : ∀ k, v.ownBlock = some k → k ∉ l) : b.ownsRow base e size v n xs := by
  refine ⟨ho.1, ?_⟩
  rcases ho.2 with h2 | ⟨g, cap, cur, rfl, hb, hg, r⟩
  · exact .inl h2
  · refine .inr ⟨g, cap, cur, rfl, hb, ?_, r⟩
    rw [h.block g (Array.getElem?_eq_some_iff.1 hg).1 (hn g rfl)]
    exact hg
theorem Only.blk {g : Nat} {t : TypeId} {cs : Array Value} (h : Only a b l) (hb : Blk a g t cs) (hg : g ∉ l) : Blk b g t cs := (h.block g hb.lt hg).trans hb
end

/-- A reader: its block, its row, its tokens, its place. -/
structure Rd where
  g : Nat
  v : Value
  ts : List Tk
  k : Nat

/-- A reader as it lies in memory. -/
def RdAt (w : World) (base : Nat) (r : Rd) : Prop :=
  SliceAt w base r.g r.v r.ts.length r.ts 1 ((r.k : Int) - 1) ∧ base ≤ r.g ∧ r.k ≤ r.ts.length ∧ r.ts.length ≤ 60 ∧ ∀ t ∈ r.ts, t.1 ≠ -1

/-- Readers, the top first. -/
def Rds (w : World) (base : Nat) : List Rd → Prop
  | [] => True
  | r :: rest => RdAt w base r ∧ (∀ q ∈ rest, q.g ≠ r.g) ∧ Rds w base rest

/-- The interface value that holds a reader. -/
def ifc (r : Rd) : Value := .iface 41 (.pointer (some ⟨r.g, 0, none⟩))

/-- The row of the readers, the top last. -/
def Tr (w : World) (tb : Nat) : List Rd → Prop
  | [] => True
  | r :: rest => w.cell? ⟨tb, rest.length, none⟩ = some (ifc r) ∧ Tr w tb rest

def Stk (w : World) (base sB tb c : Nat) (rs : List Rd) : Prop :=
  Blk w sB 39 #[.slice (some ⟨tb, 0, none⟩) rs.length c] ∧ base ≤ sB ∧ rs.length ≤ c ∧ (∃ cs, Blk w tb 51 cs) ∧ Tr w tb rs ∧ Rds w base rs

theorem Rds.mem {w : World} {base : Nat} : ∀ {rs : List Rd}, Rds w base rs → ∀ r ∈ rs, RdAt w base r
  | _ :: _, h, r, hr => by
    rcases List.mem_cons.1 hr with rfl | hr
    · exact h.1
    · exact Rds.mem h.2.2 r hr

/-- A reader is as it was where neither its block nor its row has turned: the list's blocks hold stacks, or readers that are others. -/
theorem RdAt.only {w w' : World} {base : Nat} {r : Rd} {l : List Nat} (h : RdAt w base r) (ho : Only w w' l) (hg : r.g ∉ l) (hl : ∀ x ∈ l, ∃ t cs, Blk w x t cs ∧ t ≠ 54) : RdAt w' base r := by
  refine ⟨⟨ho.blk h.1.1 hg, ho.own h.1.2 fun k hk hx => ?_⟩, h.2⟩
  obtain ⟨t, cs, hb, ht⟩ := hl k hx
  exact own_blk_ne h.1.2 hb (Ne.symm ht) hk
theorem Rds.only {w w' : World} {base : Nat} {l : List Nat} (ho : Only w w' l) (hl : ∀ x ∈ l, ∃ t cs, Blk w x t cs ∧ t ≠ 54) : ∀ {rs : List Rd}, Rds w base rs → (∀ r ∈ rs, r.g ∉ l) → Rds w' base rs
  | [], _, _ => trivial
  | r :: rest, h, hg => ⟨h.1.only ho (hg r (by simp)) hl, h.2.1, Rds.only ho hl h.2.2 (fun q hq => hg q (by simp [hq]))⟩
theorem Tr.same {w w' : World} {tb : Nat} (h : w'.heap[tb]? = w.heap[tb]?) : ∀ {rs : List Rd}, Tr w tb rs → Tr w' tb rs
  | [], _ => trivial
  | _ :: _, ht => ⟨(World.cell?_of_block (w := w) h).trans ht.1, Tr.same h ht.2⟩

theorem Stk.drewN {w : World} {base sB tb c : Nat} {rs : List Rd} (h : Stk w base sB tb c rs) (n : Nat) : Stk (w.drewN n) base sB tb c rs := by
  obtain ⟨h1, h2, h3, ⟨cs, h4⟩, h5, h6⟩ := h
  exact ⟨h1, h2, h3, ⟨cs, h4⟩, Tr.same (w := w) (w' := w.drewN n) rfl h5, Rds.only ((Only.refl w []).drewN n) (by simp) h6 (by simp)⟩
theorem Stk.drew {w : World} {base sB tb c : Nat} {rs : List Rd} (h : Stk w base sB tb c rs) : Stk w.drew base sB tb c rs := by
  obtain ⟨h1, h2, h3, ⟨cs, h4⟩, h5, h6⟩ := h
  exact ⟨h1, h2, h3, ⟨cs, h4⟩, Tr.same (w := w) (w' := w.drew) rfl h5, Rds.only ((Only.refl w []).drew) (by simp) h6 (by simp)⟩

/-- What is left to be read. -/
def rem (rs : List Rd) : List Tk := rs.flatMap fun r => r.ts.drop r.k

theorem rem_cons (r : Rd) (rest : List Rd) : rem (r :: rest) = r.ts.drop r.k ++ rem rest := rfl

/-- The token that the top reader has read last. -/
def TopAt (rs : List Rd) (t : Tk) : Prop := ∃ r rest j, rs = r :: rest ∧ r.k = j + 1 ∧ r.ts[j]? = some t
end Go.Proofs.Ytfllliifkgpbkaa
