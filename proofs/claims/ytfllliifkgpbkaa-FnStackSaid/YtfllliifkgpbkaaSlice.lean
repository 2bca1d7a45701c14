/-
  impl.slice makes a reader of a list of tokens; its Next, Text and Line. Conditions: the tokens are of those of which the statements speak.
-/
import Derived.Test.YtfllliifkgpbkaaMake
import Derived.Test.YtfllliifkgpbkaaOk
import Derived.Deep.AppendLies
import Derived.BigQuiet
import Derived.Deep.QuietTactic
namespace Go.Proofs.Ytfllliifkgpbkaa
open Go.Lib Go.RowKit

/-- The tokens that a reader holds of given ones. -/
def mades (ts : List Tk) : List Tk := ts.map fun t => (t.1, toldOf t.2)

theorem mades_get {ts : List Tk} {k : Nat} {t : Tk} (h : ts[k]? = some t) : (mades ts)[k]? = some (t.1, toldOf t.2) := by simp [mades, h]
theorem mades_len (ts : List Tk) : (mades ts).length = ts.length := by simp [mades]
theorem take_get {α : Type} {l : List α} {k : Nat} {x : α} (h : l[k]? = some x) : l.take (k + 1) = l.take k ++ [x] := by
  obtain ⟨hk, rfl⟩ := List.getElem?_eq_some_iff.1 h
  exact List.take_succ_eq_append_getElem hk

/-- A reader at a place: its own block, and the row of its tokens. -/
def SliceAt (w : World) (base g : Nat) (v : Value) (n : Nat) (ts : List Tk) (L pos : Int) : Prop :=
  Blk w g 59 #[v, .pointer none, .int .i64 L, .int .i64 pos] ∧ w.ownsRow base 54 2 v n (mkCells ts)

def SliceMade (n : Nat) (ts : List Tk) (L : Int) (w : World) (e : Ending) (w' : World) : Prop :=
  ∃ g v, e = .returned (.pointer (some ⟨g, 0, none⟩)) ∧ w.heap.size ≤ g ∧ SliceAt w' w.heap.size g v n (mades ts) L (-1) ∧ Below w.heap.size w w'

theorem Try.infoTok : (Try.prog.info? 54).map (fun i => (i.zero, i.size, i.bytes)) = some (some (.agg #[.int .i32 0, .string { data := #[] }]), 2, 24) := by kernel_rfl

theorem own_form {w : World} {base : Nat} {e : TypeId} {size n : Nat} {v : Value} {xs : List Value} (h : w.ownsRow base e size v n xs) : ∃ A c, v = .slice A n c := by
  rcases h.2 with ⟨rfl, rfl⟩ | ⟨g, cap, cur, rfl, _⟩
  · exact ⟨none, 0, rfl⟩
  · exact ⟨_, _, rfl⟩

theorem newSlice_any (A : Option Addr) (n c : Nat) (L : Int) (w : World) :
    Calls Try.prog 23 #[.pointer none, .int .i64 L, .slice A n c] w fun e w' => e = .returned (.pointer (some ⟨w.heap.size, 0, none⟩)) ∧
      w' = w.alloc (.cells #[.slice A n c, .pointer none, .int .i64 L, .int .i64 (-1)] 59) := by
  go_enter Try.func23, Try.ntmps23
  go_wp2
  go_ret
  exact ⟨rfl, rfl⟩

set_option maxHeartbeats 3200000 in
theorem slice_any (A : Option Addr) (n cap : Nat) (ts : List Tk) (L : Int) (w : World) (h : Held w w.heap.size 2 A n (tkCells ts)) (hgood : GoodTks n ts) :
    Calls Try.prog 15 #[.slice A n cap, .int .i64 L] w (SliceMade n ts L w) := by
  obtain ⟨i0, hi, hz0, hz1, hz2⟩ := info_parts Try.infoTok
  have hn : n ≤ 60 := hgood.1
  have hlen : Hid (ts.length = n) := by
    have := h.1
    rw [tkCells_len] at this
    exact (by omega : ts.length = n)
  go_enter Try.func15, Try.ntmps15
  go_wp2
  go_loopw [5, 11] (fun v i wr => ∃ k : Nat, k ≤ n ∧ i = .int .i64 k ∧ wr.ownsRow w.heap.size 54 2 v k (mkCells ((mades ts).take k)) ∧ Below w.heap.size w wr) (fun _ i _ => n - (intOf i).toNat)
  case atStart => exact ⟨0, Nat.zero_le _, rfl, World.ownsRow_made _ _ _ (Nat.le_refl _) (by decide) rfl, (Below.refl _ _).alloc (Nat.le_refl _) _⟩
  case round =>
    obtain ⟨k, hk, rfl, hown, hb⟩ := hrel
    have hbs := hb.size
    by_cases hlt : k < n
    · obtain ⟨b, off, ⟨t, s⟩, rfl, hbb, ht, c0, c1⟩ := (h.below hb).tk hlt
      obtain ⟨_, t1, t2, hs⟩ := hgood.2 (t, s) (List.mem_of_getElem? ht)
      have HT := Lib.hid ht
      clear ht
      simp only at c0 c1 t1 t2 hs
      go_wp2_with fail
      refine (lexMake_any _ s _ (by omega)).mono ?_
      rintro e w1 ⟨rfl, hb1⟩
      obtain ⟨_, _, hz, hB1⟩ := box_facts hb1
      clear hb1
      have hbs1 := hB1.size
      have hg1 : wr.grownBy w1 none := ⟨hB1.os, hB1.tape, hB1.output, hB1.size, fun j hj _ => hB1.block j hj⟩
      have hown1 := hown.kept hg1 (by cases hv : (_ : Value).ownBlock <;> simp)
      go_wp2_with (at_builtin; refine wpList_append_own _ rfl (.tmp 15) (.tmp 22) 52 rfl w.heap.size 54 i0 (.agg #[.int .i32 0, .string { data := #[] }]) 2 24 Try.underlying52 hi hz0 hz1 hz2 rfl (by decide) _ _ _ rfl (hown1.alloc _) ⟨w1.heap.size, 0, none⟩ 1 1 [.int .i32 t, .string (toldOf s)] rfl rfl (World.news_of_block (cs := #[.int .i32 t, .string (toldOf s)]) (t := 54) (fr := (0, 0)) (heap_alloc_new w1 _)) (by simp [Value.oneCell']) (by unfold maxLen; omega) (by omega) (by simp; omega) ?_; intro v2 w2 hown2 hgrow2 _)
      go_roundw
      case rel =>
        refine ⟨k + 1, by omega, by go_num, ?_, (((hb.trans (hB1.mono (by omega))).alloc (by omega) _).grown hgrow2 (by simp; omega) (fun j hj => (hown1.lt j hj).1))⟩
        rw [take_get (mades_get HT.out), mkCells_snoc]
        exact hown2
      case measure => simp [intOf]; omega
    · obtain rfl : n = k := by omega
      obtain ⟨A', c', rfl⟩ := own_form hown
      have hown' : wr.ownsRow w.heap.size 54 2 (.slice A' n c') n (mkCells (mades ts)) := by
        have e : (mades ts).take n = mades ts := List.take_of_length_le (by rw [mades_len, hlen.out]; omega)
        rw [e] at hown
        exact hown
      clear hown
      go_wp2_with fail
      refine (newSlice_any A' n c' L wr).mono ?_
      rintro e w1 ⟨rfl, rfl⟩
      go_wp2
      go_ret
      exact ⟨_, _, rfl, hbs, ⟨Blk.new _ _ _, hown'.alloc _⟩, hb.alloc hbs _⟩
end Go.Proofs.Ytfllliifkgpbkaa
