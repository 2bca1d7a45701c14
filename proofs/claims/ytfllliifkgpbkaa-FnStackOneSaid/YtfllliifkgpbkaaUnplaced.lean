/-
  laws.unplaced tells placed tokens without their lines. Conditions: at most 2^40 tokens.
-/
import Derived.Test.YtfllliifkgpbkaaRead
import Derived.Test.YtfllliifkgpbkaaSame
namespace Go.Proofs.Ytfllliifkgpbkaa
open Go.RowKit

def bare (ps : List Pl) : List Pl := ps.map fun p => (p.1, p.2.1, 0)
theorem bare_get {ps : List Pl} {k : Nat} {p : Pl} (h : ps[k]? = some p) : (bare ps)[k]? = some (p.1, p.2.1, 0) := by simp [bare, h]
theorem bare_len (ps : List Pl) : (bare ps).length = ps.length := by simp [bare]

set_option maxHeartbeats 1600000 in
theorem unplaced_any (A : Option Addr) (n ca : Nat) (ps : List Pl) (w : World) (hA : Held w w.heap.size 3 A n (plCells ps)) (hn : n ≤ 1099511627776) :
    Calls Try.prog 12 #[.slice A n ca] w (ReadMade n (bare ps) w) := by
  obtain ⟨i0, hi, hz0, hz1, hz2⟩ := info_parts Try.infoPl
  have hlen : Hid (ps.length = n) := by
    have := hA.1
    rw [plCells_len] at this
    exact (by omega : ps.length = n)
  go_enter Try.func12, Try.ntmps12
  go_wp2
  go_loopw [3, 9] (fun v i wr => ∃ k : Nat, k ≤ n ∧ i = .int .i64 k ∧ wr.ownsRow w.heap.size 48 3 v k (plCells ((bare ps).take k)) ∧ Below w.heap.size w wr) (fun _ i _ => n - (intOf i).toNat)
  case atStart => exact ⟨0, Nat.zero_le _, rfl, World.ownsRow_made _ _ _ (Nat.le_refl _) (by decide) rfl, (Below.refl _ _).alloc (Nat.le_refl _) _⟩
  case round =>
    obtain ⟨k, hk, rfl, hown, hb⟩ := hrel
    have hbs := hb.size
    by_cases hlt : k < n
    · obtain ⟨b1, o1, ⟨t, s, L⟩, rfl, hb1, ht, c0, c1, c2⟩ := (hA.below hb).pl hlt
      have HT := Lib.hid ht
      clear ht
      simp only at c0 c1 c2
      go_wp2_with (at_builtin; refine wpList_append_own _ rfl (.tmp 13) (.tmp 19) 32 rfl w.heap.size 48 i0 (.agg #[.int .i64 0, .string { data := #[] }, .int .i64 0]) 3 32 Try.underlying32 hi hz0 hz1 hz2 rfl (by decide) _ _ _ rfl ((hown.alloc _).alloc _) ⟨wr.heap.size + 1, 0, none⟩ 1 1 [.int .i64 t, .string s, .int .i64 0] rfl rfl (World.news_of_block (cs := #[.int .i64 t, .string s, .int .i64 0]) (t := 48) (fr := (0, 0)) (by have := heap_alloc_new (wr.alloc (.cells #[.int .i64 t, .string s, .int .i64 L] 48)) (.cells #[.int .i64 t, .string s, .int .i64 0] 48); simpa using this)) (by simp [Value.oneCell']) (by unfold maxLen; omega) (by omega) (by simp; omega) ?_; intro v2 w2 hown2 hgrow2 _)
      go_roundw
      case rel =>
        refine ⟨k + 1, by omega, by go_num, ?_, ((hb.alloc hbs _).alloc (by simp; omega) _).grown hgrow2 (by simp; omega) (fun j hj => (hown.lt j hj).1)⟩
        rw [kinds_take_get (bare_get HT.out), plCells_snoc]
        exact hown2
      case measure => simp [intOf]; omega
    · obtain rfl : n = k := by omega
      go_wp2
      go_ret
      refine ⟨_, rfl, ?_, hb⟩
      have e : (bare ps).take n = bare ps := List.take_of_length_le (by rw [bare_len, hlen.out]; exact Nat.le_refl _)
      rw [e] at hown
      exact hown
end Go.Proofs.Ytfllliifkgpbkaa
