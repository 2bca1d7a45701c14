/-
  spec.SameTokens answers true of two slices that hold one list of tokens; spec.Kinds tells the kinds and texts of placed tokens. Conditions: at most 2^40 tokens.
-/
import Derived.Test.YtfllliifkgpbkaaChecked
import Derived.Test.YtfllliifkgpbkaaWords
import Derived.WalkSpells
import Derived.WalkLawsBesides
import Derived.Deep.AppendLies
import Derived.BigQuiet
import Derived.Deep.QuietTactic
import Derived.Lib.Hide
namespace Go.Proofs.Ytfllliifkgpbkaa
open Go.RowKit

set_option maxHeartbeats 1600000 in
theorem same_yes (A B : Option Addr) (n ca cb : Nat) (ts : List Tk) (w : World) (hA : Held w w.heap.size 2 A n (tkCells ts)) (hB : Held w w.heap.size 2 B n (tkCells ts)) (hn : n ≤ 1099511627776) :
    Calls Try.prog 8 #[.slice A n ca, .slice B n cb] w fun e w' => e = .returned (.bool true) ∧ Below w.heap.size w w' := by
  go_enter Try.func8, Try.ntmps8
  go_wp2
  go_loopw [14] (fun i wr => ∃ k : Nat, k ≤ n ∧ i = .int .i64 k ∧ Below w.heap.size w wr) (fun i _ => n - (intOf i).toNat)
  case atStart => exact ⟨0, Nat.zero_le _, rfl, Below.refl _ _⟩
  case round =>
    obtain ⟨k, hk, rfl, hb⟩ := hrel
    have hbs := hb.size
    by_cases hlt : k < n
    · obtain ⟨b1, o1, t, rfl, hb1, ht1, c0, c1⟩ := (hA.below hb).tk hlt
      obtain ⟨b2, o2, t', rfl, hb2, ht2, d0, d1⟩ := (hB.below hb).tk hlt
      obtain rfl : t = t' := by rw [ht1] at ht2; injection ht2
      obtain ⟨t, s⟩ := t
      simp only at c0 c1 d0 d1
      clear ht1 ht2
      have hi0 : (0 : Int) ≤ (k : Int) := Int.natCast_nonneg _
      have hi1 : (k : Int) < (n : Int) := by omega
      go_wp2_with fail
      have hz : Below w.heap.size w (wr.alloc (.cells #[.int .i64 t, .string s] 27)) := hb.alloc hbs _
      have x0 : (wr.alloc (.cells #[.int .i64 t, .string s] 27)).cell? ⟨wr.heap.size, 0, none⟩ = some (.int .i64 t) := new_cell wr #[.int .i64 t, .string s] 27 0
      have x1 : (wr.alloc (.cells #[.int .i64 t, .string s] 27)).cell? ⟨wr.heap.size, 1, none⟩ = some (.string s) := new_cell wr #[.int .i64 t, .string s] 27 1
      have y0 : (wr.alloc (.cells #[.int .i64 t, .string s] 27)).cell? ⟨b2, o2 + k * 2, none⟩ = some (.int .i64 t) := (World.cell?_alloc_lt _ _ _ (by show b2 < _; omega)).trans d0
      have y1 : (wr.alloc (.cells #[.int .i64 t, .string s] 27)).cell? ⟨b2, o2 + k * 2 + 1, none⟩ = some (.string s) := (World.cell?_alloc_lt _ _ _ (by show b2 < _; omega)).trans d1
      clear c0 c1 d0 d1
      generalize hwx : wr.alloc (.cells #[.int .i64 t, .string s] 27) = wx at *
      clear hwx
      go_quiet (fail)
      go_wp2
      go_roundw
      case rel => exact ⟨k + 1, by omega, by go_num, below_drewN hz _⟩
      case measure => simp [intOf]; omega
    · have hge : n ≤ k := by omega
      go_wp2
      go_ret
      exact ⟨rfl, hb⟩

/-- Kinds and texts of placed tokens. -/
def kindsOf (ps : List Pl) : List Tk := ps.map fun p => (p.1, p.2.1)
theorem kindsOf_get {ps : List Pl} {k : Nat} {p : Pl} (h : ps[k]? = some p) : (kindsOf ps)[k]? = some (p.1, p.2.1) := by simp [kindsOf, h]
theorem kindsOf_len (ps : List Pl) : (kindsOf ps).length = ps.length := by simp [kindsOf]
theorem kinds_take_get {α : Type} {l : List α} {k : Nat} {x : α} (h : l[k]? = some x) : l.take (k + 1) = l.take k ++ [x] := by
  obtain ⟨hk, rfl⟩ := List.getElem?_eq_some_iff.1 h
  exact List.take_succ_eq_append_getElem hk

/-- A list of tokens in a row of the call's own. -/
def TkMade (n : Nat) (ts : List Tk) (w : World) (e : Ending) (w' : World) : Prop :=
  ∃ v, e = .returned v ∧ w'.ownsRow w.heap.size 27 2 v n (tkCells ts) ∧ Below w.heap.size w w'

theorem Try.infoTk : (Try.prog.info? 27).map (fun i => (i.zero, i.size, i.bytes)) = some (some (.agg #[.int .i64 0, .string { data := #[] }]), 2, 24) := by kernel_rfl

set_option maxHeartbeats 1600000 in
theorem kinds_any (A : Option Addr) (n ca : Nat) (ps : List Pl) (w : World) (hA : Held w w.heap.size 3 A n (plCells ps)) (hn : n ≤ 1099511627776) :
    Calls Try.prog 11 #[.slice A n ca] w (TkMade n (kindsOf ps) w) := by
  obtain ⟨i0, hi, hz0, hz1, hz2⟩ := info_parts Try.infoTk
  have hlen : Hid (ps.length = n) := by
    have := hA.1
    rw [plCells_len] at this
    exact (by omega : ps.length = n)
  go_enter Try.func11, Try.ntmps11
  go_wp2
  go_loopw [3, 9] (fun v i wr => ∃ k : Nat, k ≤ n ∧ i = .int .i64 k ∧ wr.ownsRow w.heap.size 27 2 v k (tkCells ((kindsOf ps).take k)) ∧ Below w.heap.size w wr) (fun _ i _ => n - (intOf i).toNat)
  case atStart => exact ⟨0, Nat.zero_le _, rfl, World.ownsRow_made _ _ _ (Nat.le_refl _) (by decide) rfl, (Below.refl _ _).alloc (Nat.le_refl _) _⟩
  case round =>
    obtain ⟨k, hk, rfl, hown, hb⟩ := hrel
    have hbs := hb.size
    by_cases hlt : k < n
    · obtain ⟨b1, o1, ⟨t, s, L⟩, rfl, hb1, ht, c0, c1, c2⟩ := (hA.below hb).pl hlt
      have HT := Lib.hid ht
      clear ht
      simp only at c0 c1 c2
      go_wp2_with (at_builtin; refine wpList_append_own _ rfl (.tmp 13) (.tmp 19) 24 rfl w.heap.size 27 i0 (.agg #[.int .i64 0, .string { data := #[] }]) 2 24 Try.underlying24 hi hz0 hz1 hz2 rfl (by decide) _ _ _ rfl ((hown.alloc _).alloc _) ⟨wr.heap.size + 1, 0, none⟩ 1 1 [.int .i64 t, .string s] rfl rfl (World.news_of_block (cs := #[.int .i64 t, .string s]) (t := 27) (fr := (0, 0)) (by have := heap_alloc_new (wr.alloc (.cells #[.int .i64 t, .string s, .int .i64 L] 48)) (.cells #[.int .i64 t, .string s] 27); simpa using this)) (by simp [Value.oneCell']) (by unfold maxLen; omega) (by omega) (by simp; omega) ?_; intro v2 w2 hown2 hgrow2 _)
      go_roundw
      case rel =>
        refine ⟨k + 1, by omega, by go_num, ?_, ((hb.alloc hbs _).alloc (by simp; omega) _).grown hgrow2 (by simp; omega) (fun j hj => (hown.lt j hj).1)⟩
        rw [kinds_take_get (kindsOf_get HT.out), tkCells_snoc]
        exact hown2
      case measure => simp [intOf]; omega
    · obtain rfl : n = k := by omega
      go_wp2
      go_ret
      refine ⟨_, rfl, ?_, hb⟩
      have e : (kindsOf ps).take n = kindsOf ps := List.take_of_length_le (by rw [kindsOf_len, hlen.out]; exact Nat.le_refl _)
      rw [e] at hown
      exact hown
end Go.Proofs.Ytfllliifkgpbkaa
