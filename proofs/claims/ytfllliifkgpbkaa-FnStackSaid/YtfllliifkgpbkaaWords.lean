/-
  Words on memory: a block that is known whole; a slice's cells at plain addresses; lists of tokens as cells.
-/
import Derived.Test.YtfllliifkgpbkaaMem
import Derived.Laws.OwnMore
import Derived.Deep.Draws
import Derived.Deep.Slices
import Derived.Deep.Fields
import Derived.ChangeSame
import Derived.Maps.AppendAt
import Derived.WalkSmall
namespace Go.Proofs.Ytfllliifkgpbkaa
open Go.RowKit

/-! ### A block that is known whole -/

def Blk (w : World) (g : Nat) (t : TypeId) (cs : Array Value) : Prop := w.heap[g]? = some (.cells cs t (0, 0))

section
variable {w w' : World} {g : Nat} {t : TypeId} {cs : Array Value}
theorem Blk.lt (h : Blk w g t cs) : g < w.heap.size := by
  rcases Nat.lt_or_ge g w.heap.size with hlt | hge
  · exact hlt
  · unfold Blk at h; rw [Array.getElem?_eq_none hge] at h; cases h
theorem Blk.cell (h : Blk w g t cs) (i : Nat) : w.cell? ⟨g, i, none⟩ = cs[i]? := cell_of_row w g i cs t (0, 0) h
theorem Blk.frozen (h : Blk w g t cs) (i : Nat) : w.frozen? ⟨g, i, none⟩ = false := by
  unfold Blk at h
  simp [World.frozen?, h]
theorem Blk.new (w : World) (t : TypeId) (cs : Array Value) : Blk (w.alloc (.cells cs t)) w.heap.size t cs := heap_alloc_new w _
theorem Blk.alloc (h : Blk w g t cs) (o : Obj) : Blk (w.alloc o) g t cs := (Below.heap_alloc w o g h.lt).trans h
theorem Blk.set_ (h : Blk w g t cs) (i : Nat) (u : Value) : Blk (w.setCell ⟨g, i, none⟩ u) g t (cs.setIfInBounds i u) := by
  unfold Blk at h ⊢
  simp [World.setCell, Array.getElem?_modify, h]
theorem Blk.far (h : Blk w g t cs) {p : Addr} (hp : g ≠ p.block) (u : Value) : Blk (w.setCell p u) g t cs := (Below.heap_setCell w p u g hp).trans h
theorem Blk.below {B : Nat} (h : Blk w g t cs) (hb : Below B w w') (hg : g < B) : Blk w' g t cs := (hb.block g hg).trans h
theorem Blk.grown {row : Option Nat} (h : Blk w g t cs) (hb : w.grownBy w' row) (hg : some g ≠ row) : Blk w' g t cs := (hb.block g h.lt hg).trans h
theorem Blk.ne_ {g' : Nat} {t' : TypeId} {cs' : Array Value} (h : Blk w g t cs) (h' : Blk w g' t' cs') (hne : t ≠ t') : g ≠ g' := by
  rintro rfl
  unfold Blk at h h'
  rw [h] at h'
  injection h' with h'
  injection h' with _ ht
  exact hne ht
theorem own_blk_ne {base : Nat} {e : TypeId} {size n : Nat} {v : Value} {xs : List Value} (h : w.ownsRow base e size v n xs) (hg : Blk w g t cs) (hne : e ≠ t) : v.ownBlock ≠ some g := by
  rcases h.2 with ⟨rfl, _⟩ | ⟨g', cap, cur, rfl, _, hh, _⟩
  · simp [Value.ownBlock]
  · intro he
    have : g' = g := by simpa [Value.ownBlock] using he
    subst this
    exact Blk.ne_ (t := e) hh hg hne rfl
theorem own_own_ne {base base' : Nat} {e e' : TypeId} {size size' n n' : Nat} {v v' : Value} {xs xs' : List Value} (h : w.ownsRow base e size v n xs) (h' : w.ownsRow base' e' size' v' n' xs') (hne : e ≠ e') :
    v.ownBlock = none ∨ v.ownBlock ≠ v'.ownBlock := by
  rcases h.2 with ⟨rfl, _⟩ | ⟨g, cap, cur, rfl, _, hh, _⟩
  · exact .inl rfl
  · rcases h'.2 with ⟨rfl, _⟩ | ⟨g', cap', cur', rfl, _, hh', _⟩
    · exact .inr (by simp [Value.ownBlock])
    · refine .inr fun he => ?_
      have : g = g' := by simpa [Value.ownBlock] using he
      subst this
      exact Blk.ne_ (t := e) hh hh' hne rfl
end

/-! ### A slice's cells at plain addresses; nil is let in -/

def Held (w : World) (B size : Nat) (A : Option Addr) (n : Nat) (xs : List Value) : Prop :=
  xs.length = n * size ∧ (0 < n → ∃ b off, A = some ⟨b, off, none⟩ ∧ b < B ∧ ∀ j u, xs[j]? = some u → w.cell? ⟨b, off + j, none⟩ = some u)

section
variable {w w' : World} {B B' size n : Nat} {A : Option Addr} {xs : List Value}
theorem Held.keep (h : Held w B size A n xs) (hk : ∀ b o, b < B → w'.cell? ⟨b, o, none⟩ = w.cell? ⟨b, o, none⟩) : Held w' B size A n xs :=
  ⟨h.1, fun hn => by
    obtain ⟨b, off, e, hb, hc⟩ := h.2 hn
    exact ⟨b, off, e, hb, fun j u hu => (hk _ _ hb).trans (hc j u hu)⟩⟩
theorem Held.more (h : Held w B size A n xs) (hB : B ≤ B') : Held w B' size A n xs :=
  ⟨h.1, fun hn => by
    obtain ⟨b, off, e, hb, hc⟩ := h.2 hn
    exact ⟨b, off, e, by omega, hc⟩⟩
theorem Held.below (h : Held w B size A n xs) (hb : Below B w w') : Held w' B size A n xs := h.keep fun b o hp => hb.cell (p := ⟨b, o, none⟩) hp
theorem Held.at_ {k : Nat} (h : Held w B size A n xs) (hk : k < n) : ∃ b off, A = some ⟨b, off, none⟩ ∧ b < B ∧ ∀ j, j < size → ∃ u, xs[k * size + j]? = some u ∧ w.cell? ⟨b, off + (k * size + j), none⟩ = some u := by
  obtain ⟨b, off, e, hb, hc⟩ := h.2 (by omega)
  refine ⟨b, off, e, hb, fun j hj => ?_⟩
  have hl : k * size + j < xs.length := by
    rw [h.1]
    calc k * size + j < k * size + size := by omega
      _ = (k + 1) * size := by rw [Nat.succ_mul]
      _ ≤ n * size := Nat.mul_le_mul_right _ hk
  exact ⟨xs[k * size + j], List.getElem?_eq_getElem hl, hc _ _ (List.getElem?_eq_getElem hl)⟩
theorem Held.of_own {base : Nat} {e : TypeId} {c : Nat} (h : w.ownsRow base e size (.slice A n c) n xs) : Held w w.heap.size size A n xs := by
  refine ⟨h.1, fun hn => ?_⟩
  rcases h.2 with ⟨_, h0⟩ | ⟨g, cap, cur, hv, _, hh, _⟩
  · omega
  · injection hv with hA _ _
    subst hA
    refine ⟨g, 0, rfl, (Array.getElem?_eq_some_iff.1 hh).1, fun j u hu => ?_⟩
    have := h.cells (g := g) rfl j u hu
    have hadd : (⟨g, 0, none⟩ : Addr).add j = ⟨g, 0 + j, none⟩ := by unfold Addr.add; split <;> simp_all
    rwa [hadd] at this
/-- The first k of them. -/
theorem Held.front {k : Nat} (h : Held w B size A n xs) (hk : k ≤ n) : Held w B size A k (xs.take (k * size)) := by
  refine ⟨?_, fun hk0 => ?_⟩
  · rw [List.length_take, h.1, Nat.min_eq_left (Nat.mul_le_mul_right _ hk)]
  · obtain ⟨b, off, e, hb, hc⟩ := h.2 (by omega)
    refine ⟨b, off, e, hb, fun j u hu => hc j u ?_⟩
    rw [List.getElem?_take] at hu
    split at hu
    · exact hu
    · cases hu
end

/-! ### Lists of tokens as cells -/

/-- A token: its kind and its text. -/
abbrev Tk := Int × ByteArray
/-- A token with its line. -/
abbrev Pl := Int × ByteArray × Int

def tkCells (ts : List Tk) : List Value := ts.flatMap fun t => [.int .i64 t.1, .string t.2]
def mkCells (ts : List Tk) : List Value := ts.flatMap fun t => [.int .i32 t.1, .string t.2]
def plCells (ps : List Pl) : List Value := ps.flatMap fun p => [.int .i64 p.1, .string p.2.1, .int .i64 p.2.2]

theorem flat2_get {α : Type} (f g : α → Value) : ∀ (l : List α) (i : Nat) (x : α), l[i]? = some x → (l.flatMap fun t => [f t, g t])[i * 2]? = some (f x) ∧ (l.flatMap fun t => [f t, g t])[i * 2 + 1]? = some (g x)
  | a :: l, 0, x, h => by simp at h; subst h; simp
  | a :: l, i + 1, x, h => by
    have := flat2_get f g l i x (by simpa using h)
    have e1 : (i + 1) * 2 = i * 2 + 1 + 1 := by omega
    have e2 : (i + 1) * 2 + 1 = i * 2 + 1 + 1 + 1 := by omega
    rw [e2, e1]
    simpa [List.flatMap_cons] using this
theorem flat3_get {α : Type} (f g k : α → Value) : ∀ (l : List α) (i : Nat) (x : α), l[i]? = some x →
    (l.flatMap fun t => [f t, g t, k t])[i * 3]? = some (f x) ∧ (l.flatMap fun t => [f t, g t, k t])[i * 3 + 1]? = some (g x) ∧ (l.flatMap fun t => [f t, g t, k t])[i * 3 + 2]? = some (k x)
  | a :: l, 0, x, h => by simp at h; subst h; simp
  | a :: l, i + 1, x, h => by
    have := flat3_get f g k l i x (by simpa using h)
    have e1 : (i + 1) * 3 = i * 3 + 1 + 1 + 1 := by omega
    have e2 : (i + 1) * 3 + 1 = i * 3 + 1 + 1 + 1 + 1 := by omega
    have e3 : (i + 1) * 3 + 2 = i * 3 + 2 + 1 + 1 + 1 := by omega
    rw [e3, e2, e1]
    simpa [List.flatMap_cons] using this
theorem flat2_len {α : Type} (f g : α → Value) (l : List α) : (l.flatMap fun t => [f t, g t]).length = l.length * 2 := by
  induction l with
  | nil => rfl
  | cons a l ih => rw [List.flatMap_cons, List.length_append, ih]; simp; omega
theorem flat3_len {α : Type} (f g k : α → Value) (l : List α) : (l.flatMap fun t => [f t, g t, k t]).length = l.length * 3 := by
  induction l with
  | nil => rfl
  | cons a l ih => rw [List.flatMap_cons, List.length_append, ih]; simp; omega

theorem tkCells_get {ts : List Tk} {i : Nat} {t : Tk} (h : ts[i]? = some t) : (tkCells ts)[i * 2]? = some (.int .i64 t.1) ∧ (tkCells ts)[i * 2 + 1]? = some (.string t.2) := flat2_get _ _ ts i t h
theorem mkCells_get {ts : List Tk} {i : Nat} {t : Tk} (h : ts[i]? = some t) : (mkCells ts)[i * 2]? = some (.int .i32 t.1) ∧ (mkCells ts)[i * 2 + 1]? = some (.string t.2) := flat2_get _ _ ts i t h
theorem plCells_get {ps : List Pl} {i : Nat} {p : Pl} (h : ps[i]? = some p) : (plCells ps)[i * 3]? = some (.int .i64 p.1) ∧ (plCells ps)[i * 3 + 1]? = some (.string p.2.1) ∧ (plCells ps)[i * 3 + 2]? = some (.int .i64 p.2.2) := flat3_get _ _ _ ps i p h
theorem tkCells_len (ts : List Tk) : (tkCells ts).length = ts.length * 2 := flat2_len _ _ ts
theorem mkCells_len (ts : List Tk) : (mkCells ts).length = ts.length * 2 := flat2_len _ _ ts
theorem plCells_len (ps : List Pl) : (plCells ps).length = ps.length * 3 := flat3_len _ _ _ ps
theorem tkCells_snoc (ts : List Tk) (t : Tk) : tkCells (ts ++ [t]) = tkCells ts ++ [.int .i64 t.1, .string t.2] := by simp [tkCells]
theorem mkCells_snoc (ts : List Tk) (t : Tk) : mkCells (ts ++ [t]) = mkCells ts ++ [.int .i32 t.1, .string t.2] := by simp [mkCells]
theorem plCells_snoc (ps : List Pl) (p : Pl) : plCells (ps ++ [p]) = plCells ps ++ [.int .i64 p.1, .string p.2.1, .int .i64 p.2.2] := by simp [plCells]
theorem tkCells_append (a b : List Tk) : tkCells (a ++ b) = tkCells a ++ tkCells b := by simp [tkCells]

theorem plCells_take : ∀ (ps : List Pl) (k : Nat), (plCells ps).take (k * 3) = plCells (ps.take k)
  | _, 0 => by simp [plCells]
  | [], k + 1 => by simp [plCells]
  | p :: ps, k + 1 => by
    have ih := plCells_take ps k
    have e : (k + 1) * 3 = k * 3 + 1 + 1 + 1 := by omega
    rw [e]
    simp only [plCells, List.flatMap_cons, List.cons_append, List.nil_append, List.take_succ_cons] at ih ⊢
    rw [ih]

theorem own_cap {w : World} {base : Nat} {e : TypeId} {size n c : Nat} {A : Option Addr} {xs : List Value} (h : w.ownsRow base e size (.slice A n c) n xs) : n ≤ c := by
  rcases h.2 with ⟨_, h0⟩ | ⟨g, cap, cur, hv, _, _, hc, _⟩
  · omega
  · injection hv with _ _ h3
    omega

section
variable {w : World} {B n k : Nat} {A : Option Addr}
theorem Held.tk {ts : List Tk} (h : Held w B 2 A n (tkCells ts)) (hk : k < n) : ∃ b off t, A = some ⟨b, off, none⟩ ∧ b < B ∧ ts[k]? = some t ∧ w.cell? ⟨b, off + k * 2, none⟩ = some (.int .i64 t.1) ∧ w.cell? ⟨b, off + k * 2 + 1, none⟩ = some (.string t.2) := by
  obtain ⟨b, off, e, hb, hc⟩ := h.2 (by omega)
  have hl : k < ts.length := by
    have := h.1
    rw [tkCells_len] at this
    omega
  have hg := tkCells_get (List.getElem?_eq_getElem hl)
  exact ⟨b, off, ts[k], e, hb, List.getElem?_eq_getElem hl, hc _ _ hg.1, by have := hc _ _ hg.2; rwa [← Nat.add_assoc] at this⟩
theorem Held.mk {ts : List Tk} (h : Held w B 2 A n (mkCells ts)) (hk : k < n) : ∃ b off t, A = some ⟨b, off, none⟩ ∧ b < B ∧ ts[k]? = some t ∧ w.cell? ⟨b, off + k * 2, none⟩ = some (.int .i32 t.1) ∧ w.cell? ⟨b, off + k * 2 + 1, none⟩ = some (.string t.2) := by
  obtain ⟨b, off, e, hb, hc⟩ := h.2 (by omega)
  have hl : k < ts.length := by
    have := h.1
    rw [mkCells_len] at this
    omega
  have hg := mkCells_get (List.getElem?_eq_getElem hl)
  exact ⟨b, off, ts[k], e, hb, List.getElem?_eq_getElem hl, hc _ _ hg.1, by have := hc _ _ hg.2; rwa [← Nat.add_assoc] at this⟩
theorem Held.pl {ps : List Pl} (h : Held w B 3 A n (plCells ps)) (hk : k < n) : ∃ b off p, A = some ⟨b, off, none⟩ ∧ b < B ∧ ps[k]? = some p ∧ w.cell? ⟨b, off + k * 3, none⟩ = some (.int .i64 p.1) ∧
    w.cell? ⟨b, off + k * 3 + 1, none⟩ = some (.string p.2.1) ∧ w.cell? ⟨b, off + k * 3 + 2, none⟩ = some (.int .i64 p.2.2) := by
  obtain ⟨b, off, e, hb, hc⟩ := h.2 (by omega)
  have hl : k < ps.length := by
    have := h.1
    rw [plCells_len] at this
    omega
  have hg := plCells_get (List.getElem?_eq_getElem hl)
  exact ⟨b, off, ps[k], e, hb, List.getElem?_eq_getElem hl, hc _ _ hg.1, by have := hc _ _ hg.2.1; rwa [← Nat.add_assoc] at this, by have := hc _ _ hg.2.2; rwa [← Nat.add_assoc] at this⟩
end
end Go.Proofs.Ytfllliifkgpbkaa
