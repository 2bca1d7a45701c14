/-
  Lists of lists of tokens in memory; what a stack keeps while other memory turns.
-/
import Derived.Test.YtfllliifkgpbkaaPush
import Derived.Test.YtfllliifkgpbkaaSame
namespace Go.Proofs.Ytfllliifkgpbkaa
open Go.Lib Go.RowKit

/-- A list of tokens: its slice, and the tokens. -/
structure L1 where
  A : Option Addr
  n : Nat
  c : Nat
  ts : List Tk

def l1Val (l : L1) : Value := .slice l.A l.n l.c

/-- A slice of lists of tokens. -/
def Lists (w : World) (B : Nat) (O : Option Addr) (m : Nat) (ls : List L1) : Prop :=
  Held w B 1 O m (ls.map l1Val) ∧ ∀ l ∈ ls, Held w B 2 l.A l.n (tkCells l.ts)

section
variable {w w' : World} {B B' m k : Nat} {O : Option Addr} {ls : List L1}
theorem Lists.below (h : Lists w B O m ls) (hb : Below B w w') : Lists w' B O m ls := ⟨h.1.below hb, fun l hl => (h.2 l hl).below hb⟩
theorem Lists.more (h : Lists w B O m ls) (hB : B ≤ B') : Lists w B' O m ls := ⟨h.1.more hB, fun l hl => (h.2 l hl).more hB⟩
theorem Lists.len (h : Lists w B O m ls) : ls.length = m := by simpa using h.1.1
theorem Lists.at_ (h : Lists w B O m ls) (hk : k < m) : ∃ b off l, O = some ⟨b, off, none⟩ ∧ b < B ∧ ls[k]? = some l ∧ w.cell? ⟨b, off + k, none⟩ = some (.slice l.A l.n l.c) := by
  obtain ⟨b, off, e, hb, hc⟩ := h.1.2 (by omega)
  have hl : k < ls.length := by rw [h.len]; exact hk
  exact ⟨b, off, ls[k], e, hb, List.getElem?_eq_getElem hl, hc k _ (by simp [List.getElem?_eq_getElem hl, l1Val])⟩
end

/-- How many tokens lists hold. -/
def total (ls : List L1) : Nat := (ls.map (·.n)).sum
theorem total_snoc (ls : List L1) (l : L1) : total (ls ++ [l]) = total ls + l.n := by simp [total]
theorem total_le : ∀ (ls : List L1), (∀ l ∈ ls, l.n ≤ 60) → total ls ≤ 60 * ls.length
  | [], _ => by simp [total]
  | l :: ls, h => by
    have h1 := h l (by simp)
    have h2 := total_le ls (fun x hx => h x (by simp [hx]))
    simp only [total, List.map_cons, List.sum_cons, List.length_cons] at h2 ⊢
    omega

/-- What is read of lists, the last one first. -/
def allOf (ls : List L1) : List Tk := (ls.reverse).flatMap fun l => mades l.ts

/-- The readers of lists, the top first. -/
def Built (w : World) (B sB : Nat) (ls : List L1) (A : Option Addr) (c : Nat) (rs : List Rd) : Prop :=
  Blk w sB 39 #[.slice A ls.length c] ∧ w.ownsRow B 51 1 (.slice A ls.length c) ls.length (rs.reverse.map ifc) ∧ Rds w B rs ∧ rs.length = ls.length ∧
    rem rs = allOf ls ∧ ∀ r ∈ rs, r.k = 0

theorem own_blk {w : World} {base : Nat} {e : TypeId} {size n : Nat} {v : Value} {xs : List Value} (h : w.ownsRow base e size v n xs) {k : Nat} (hk : v.ownBlock = some k) : ∃ cs, Blk w k e cs := by
  rcases h.2 with ⟨rfl, _⟩ | ⟨g, cap, cur, rfl, _, hg, _⟩
  · simp [Value.ownBlock] at hk
  · have : g = k := by simpa [Value.ownBlock] using hk
    subst this
    exact ⟨cur, hg⟩

theorem below_only {w w' : World} (h : Below w.heap.size w w') (l : List Nat) : Only w w' l := ⟨h.os, h.tape, h.output, h.size, fun k hk _ => h.block k hk⟩

/-- A stack is as it was where only blocks of other kinds have turned. -/
theorem Stk.only {w w' : World} {base sB tb c : Nat} {rs : List Rd} {l : List Nat} (h : Stk w base sB tb c rs) (ho : Only w w' l)
    (hl : ∀ x ∈ l, ∃ t cs, Blk w x t cs ∧ t ≠ 54 ∧ t ≠ 39 ∧ t ≠ 51 ∧ t ≠ 59) : Stk w' base sB tb c rs := by
  obtain ⟨hB, hbs, hc, ⟨cs, htb⟩, htr, hR⟩ := h
  have key : ∀ {g : Nat} {t : TypeId} {cs : Array Value}, Blk w g t cs → (t = 39 ∨ t = 51 ∨ t = 59) → g ∉ l := by
    intro g t cs hb ht hx
    obtain ⟨t', cs', hb', _, h1, h2, h3⟩ := hl g hx
    rcases ht with rfl | rfl | rfl
    · exact Blk.ne_ hb' hb h1 rfl
    · exact Blk.ne_ hb' hb h2 rfl
    · exact Blk.ne_ hb' hb h3 rfl
  refine ⟨ho.blk hB (key hB (.inl rfl)), hbs, hc, ⟨cs, ho.blk htb (key htb (.inr (.inl rfl)))⟩, Tr.same (ho.block tb htb.lt (key htb (.inr (.inl rfl)))) htr, Rds.only ho (fun x hx => ?_) hR (fun r hr => key (Rds.mem hR r hr).1.1 (.inr (.inr rfl)))⟩
  obtain ⟨t, cs, hb, h0, _⟩ := hl x hx
  exact ⟨t, cs, hb, h0⟩

/-- The row of readers, read off its cells. -/
theorem tr_of {w : World} {tb : Nat} : ∀ (rs : List Rd), (∀ i v, (rs.reverse.map ifc)[i]? = some v → w.cell? ⟨tb, i, none⟩ = some v) → Tr w tb rs
  | [], _ => trivial
  | r :: rest, h => by
    refine ⟨h rest.length _ (by simp), tr_of rest fun i v hv => h i v ?_⟩
    have hi : i < (rest.reverse.map ifc).length := (List.getElem?_eq_some_iff.1 hv).1
    rw [List.reverse_cons, List.map_append, List.getElem?_append_left hi]
    exact hv

theorem Built.stk {w : World} {B sB c : Nat} {ls : List L1} {A : Option Addr} {rs : List Rd} (h : Built w B sB ls A c rs) (hn : 0 < ls.length) (hs : B ≤ sB) : ∃ tb, A = some ⟨tb, 0, none⟩ ∧ Stk w B sB tb c rs := by
  obtain ⟨hB, hO, hR, hl, _, _⟩ := h
  obtain ⟨tb, cap, hv, _, _⟩ := hO.form hn
  have hc := own_cap hO
  injection hv with hA _ _
  subst hA
  obtain ⟨cs, hcs⟩ := own_blk hO (k := tb) rfl
  refine ⟨tb, rfl, by rw [hl]; exact hB, hs, by rw [hl]; exact hc, ⟨cs, hcs⟩, tr_of rs fun i v hv => ?_, hR⟩
  have := hO.cells (g := tb) rfl i v hv
  have hadd : (⟨tb, 0, none⟩ : Addr).add i = ⟨tb, i, none⟩ := by unfold Addr.add; split <;> simp_all
  rwa [hadd] at this

theorem mades_ne {n : Nat} {ts : List Tk} (h : GoodTks n ts) : ∀ t ∈ mades ts, t.1 ≠ -1 := by
  intro t ht
  simp only [mades, List.mem_map] at ht
  obtain ⟨x, hx, rfl⟩ := ht
  exact (h.2 x hx).1

/-- One list more on the stack. -/
theorem Built.push {wr w1 w2 : World} {B sB c c' g : Nat} {ls : List L1} {A A' : Option Addr} {rs : List Rd} {v : Value} {l : L1} (h : Built wr B sB ls A c rs) (hB : B ≤ wr.heap.size)
    (hgood : GoodTks l.n l.ts) (hlen : l.ts.length = l.n) (hg : wr.heap.size ≤ g) (hS : SliceAt w1 wr.heap.size g v l.n (mades l.ts) 1 (-1)) (hb1 : Below wr.heap.size wr w1)
    (hB2 : Blk w2 sB 39 #[.slice A' (ls.length + 1) c']) (hO2 : w2.ownsRow B 51 1 (.slice A' (ls.length + 1) c') (ls.length + 1) (rs.reverse.map ifc ++ [.iface 41 (.pointer (some ⟨g, 0, none⟩))]))
    (ho : Only w1 w2 (sB :: (Value.slice A ls.length c).ownBlock.toList)) : Built w2 B sB (ls ++ [l]) A' c' (⟨g, v, mades l.ts, 0⟩ :: rs) := by
  obtain ⟨hB0, hO, hR, hl, hrem, hk0⟩ := h
  have hlt : ∀ x ∈ sB :: (Value.slice A ls.length c).ownBlock.toList, x < wr.heap.size := by
    intro x hx
    rcases List.mem_cons.1 hx with rfl | hx
    · exact hB0.lt
    · exact (hO.lt x (by simpa using hx)).2
  have hl1 : ∀ x ∈ sB :: (Value.slice A ls.length c).ownBlock.toList, ∃ t cs, Blk w1 x t cs ∧ t ≠ 54 ∧ t ≠ 59 := by
    intro x hx
    rcases List.mem_cons.1 hx with rfl | hx
    · exact ⟨_, _, hB0.below hb1 hB0.lt, by decide, by decide⟩
    · have hx' : (Value.slice A ls.length c).ownBlock = some x := by simpa using hx
      obtain ⟨cs, hcs⟩ := own_blk hO hx'
      exact ⟨_, cs, hcs.below hb1 hcs.lt, by decide, by decide⟩
  have hR1 : Rds w1 B rs := Rds.only (below_only hb1 []) (by simp) hR (by simp)
  have hR2 : Rds w2 B rs := Rds.only ho (fun x hx => by obtain ⟨t, cs, hb, h0, _⟩ := hl1 x hx; exact ⟨t, cs, hb, h0⟩) hR1 (fun r hr hx => by
    obtain ⟨t, cs, hb, _, h1⟩ := hl1 _ hx
    exact Blk.ne_ hb (Rds.mem hR1 r hr).1.1 h1 rfl)
  have hlm : (mades l.ts).length = l.n := by rw [mades_len, hlen]
  have hne : ∀ q ∈ rs, q.g ≠ g := fun q hq => by
    have := (Rds.mem hR q hq).1.1.lt
    omega
  have hnew : RdAt w2 B ⟨g, v, mades l.ts, 0⟩ := by
    refine ⟨⟨ho.blk hS.1 (fun hx => by have := hlt g hx; omega), ?_⟩, by show B ≤ g; omega, Nat.zero_le _, by show (mades l.ts).length ≤ 60; rw [hlm]; exact hgood.1, mades_ne hgood⟩
    refine own_base (base := wr.heap.size) ?_ hB
    show w2.ownsRow wr.heap.size 54 2 v (mades l.ts).length (mkCells (mades l.ts))
    rw [hlm]
    exact ho.own hS.2 (fun k hk hx => by have := (hS.2.lt k hk).1; have := hlt k hx; omega)
  refine ⟨by simpa using hB2, ?_, ⟨hnew, hne, hR2⟩, by simp [hl], ?_, ?_⟩
  · simp only [List.length_append, List.length_cons, List.length_nil, Nat.zero_add, List.reverse_cons, List.map_append, List.map_cons, List.map_nil]
    exact hO2
  · rw [rem_cons, hrem]
    simp [allOf]
  · intro r hr
    rcases List.mem_cons.1 hr with rfl | hr
    · rfl
    · exact hk0 r hr

theorem allOf_len : ∀ (ls : List L1), (∀ l ∈ ls, l.ts.length = l.n) → (allOf ls).length = total ls
  | [], _ => rfl
  | l :: ls, h => by
    have h1 := h l (by simp)
    have h2 := allOf_len ls (fun x hx => h x (by simp [hx]))
    simp only [allOf, total, List.reverse_cons, List.flatMap_append, List.length_append, List.map_cons, List.sum_cons] at h2 ⊢
    rw [h2]
    simp [mades_len, h1]
    omega
theorem allOf_good {ls : List L1} (h : ∀ l ∈ ls, GoodTks l.n l.ts) : ∀ t ∈ allOf ls, t.1 ≠ -1 ∧ -2000 ≤ t.1 ∧ t.1 ≤ 1000000 := by
  intro t ht
  obtain ⟨l, hl, ht⟩ := List.mem_flatMap.1 ht
  simp only [mades, List.mem_map] at ht
  obtain ⟨x, hx, rfl⟩ := ht
  obtain ⟨h1, h2, h3, _⟩ := (h l (by simpa using hl)).2 x hx
  exact ⟨h1, h2, h3⟩
theorem Stk.marks {w : World} {base sB tb c : Nat} {rs : List Rd} (h : Stk w base sB tb c rs) : ∀ x ∈ sB :: rs.map (·.g), base ≤ x ∧ ∃ t cs, Blk w x t cs ∧ (t = 39 ∨ t = 59) := by
  intro x hx
  rcases List.mem_cons.1 hx with rfl | hx
  · exact ⟨h.2.1, _, _, h.1, .inl rfl⟩
  · obtain ⟨r, hr, rfl⟩ := List.mem_map.1 hx
    have := Rds.mem h.2.2.2.2.2 r hr
    exact ⟨this.2.1, _, _, this.1.1, .inr rfl⟩
theorem Stk.own {w w' : World} {base sB tb c b n : Nat} {rs : List Rd} {v : Value} {xs : List Value} (h : Stk w base sB tb c rs) (ho : Only w w' (sB :: rs.map (·.g))) (hown : w.ownsRow b 27 2 v n xs) : w'.ownsRow b 27 2 v n xs :=
  ho.own hown (fun k hk hx => by
    obtain ⟨_, t, cs, hb, ht⟩ := h.marks k hx
    rcases ht with rfl | rfl
    · exact own_blk_ne hown hb (by decide) hk
    · exact own_blk_ne hown hb (by decide) hk)
theorem Stk.under {w w' : World} {base sB tb c : Nat} {rs : List Rd} (h : Stk w base sB tb c rs) (ho : Only w w' (sB :: rs.map (·.g))) (hb : base ≤ w.heap.size) : Below base w w' :=
  ho.below hb (fun x hx => (h.marks x hx).1)
/-- A stack is as it was where only a row of tokens has turned. -/
theorem Stk.beside {w w' : World} {base sB tb c b n : Nat} {rs : List Rd} {v : Value} {xs : List Value} (h : Stk w base sB tb c rs) (hown : w.ownsRow b 27 2 v n xs) (ho : Only w w' v.ownBlock.toList) : Stk w' base sB tb c rs :=
  h.only ho (fun x hx => by
    obtain ⟨cs, hcs⟩ := own_blk hown (k := x) (by simpa using hx)
    exact ⟨_, cs, hcs, by decide, by decide, by decide, by decide⟩)
end Go.Proofs.Ytfllliifkgpbkaa
