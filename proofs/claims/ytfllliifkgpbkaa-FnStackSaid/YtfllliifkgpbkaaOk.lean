/-
  laws.zzFits10 and laws.tokensOk answer some bool, and turn nothing that was there; where tokensOk answers true the tokens are at most 60, none of them the end, their kinds and texts bounded. Conditions: at most 2^63 - 1 tokens.
-/
import Derived.Test.YtfllliifkgpbkaaFits
import Derived.Test.YtfllliifkgpbkaaWords
namespace Go.Proofs.Ytfllliifkgpbkaa
open Go.Lib Go.RowKit

/-- Some bool is answered, of which P holds; nothing that was there has turned. -/
def SomeBool (P : Bool → Prop) (w : World) (e : Ending) (w' : World) : Prop := ∃ b, P b ∧ e = .returned (.bool b) ∧ Below w.heap.size w w'

set_option maxHeartbeats 1600000 in
theorem fits10_any (A : Option Addr) (n cap : Nat) (ts : List Tk) (w : World) (h : Held w w.heap.size 2 A n (tkCells ts)) :
    Calls Try.prog 10 #[.slice A n cap] w (SomeBool (fun _ => True) w) := by
  by_cases hbig : 2147483647 < n
  · go_enter Try.func10, Try.ntmps10
    go_wp2
    go_ret
    exact ⟨false, trivial, rfl, Below.refl _ _⟩
  · go_enter Try.func10, Try.ntmps10
    go_wp2
    go_loopw [10] (fun i wr => ∃ k : Nat, k ≤ n ∧ i = .int .i64 k ∧ Below w.heap.size w wr) (fun i _ => n - (intOf i).toNat)
    case atStart => exact ⟨0, Nat.zero_le _, rfl, Below.refl _ _⟩
    case round =>
      obtain ⟨k, hk, rfl, hb⟩ := hrel
      have hbs := hb.size
      by_cases hlt : k < n
      · obtain ⟨b, off, ⟨t, s⟩, rfl, hbb, ht, c0, c1⟩ := (h.below hb).tk hlt
        have HT := Lib.hid ht
        clear ht
        by_cases hs : s.size ≤ 2147483647
        · go_wp2_with fail
          refine (fits_yes _ _ _ hs).mono ?_
          rintro e w1 ⟨rfl, hb1⟩
          have hB := hb.trans ((box_facts hb1).2.2.2.mono (by omega))
          clear hb1
          go_wp2
          go_roundw
          case rel => exact ⟨k + 1, by omega, by go_num, hB⟩
          case measure => simp [intOf]; omega
        · go_wp2_with fail
          refine (fits_no _ _ _ (by omega)).mono ?_
          rintro e w1 ⟨rfl, hb1⟩
          have hB := hb.trans ((box_facts hb1).2.2.2.mono (by omega))
          clear hb1
          go_wp2
          go_ret
          exact ⟨false, trivial, rfl, hB⟩
      · go_wp2
        go_ret
        exact ⟨true, trivial, rfl, hb⟩

/-- Tokens of which the statements speak. -/
def GoodTk (t : Tk) : Prop := t.1 ≠ -1 ∧ -2000 ≤ t.1 ∧ t.1 ≤ 1000000 ∧ t.2.size ≤ 60
def GoodTks (n : Nat) (ts : List Tk) : Prop := n ≤ 60 ∧ ∀ t ∈ ts, GoodTk t
def GoodUpto (ts : List Tk) (k : Nat) : Prop := ∀ i t, i < k → ts[i]? = some t → GoodTk t

theorem GoodUpto.succ {ts : List Tk} {k : Nat} {t : Tk} (h : GoodUpto ts k) (ht : ts[k]? = some t) (hg : GoodTk t) : GoodUpto ts (k + 1) := by
  intro i u hi hu
  by_cases hik : i < k
  · exact h i u hik hu
  · obtain rfl : i = k := by omega
    rw [ht] at hu
    injection hu with hu
    subst hu
    exact hg

theorem GoodUpto.all {ts : List Tk} {n : Nat} (h : GoodUpto ts n) (hn : ts.length = n) : ∀ t ∈ ts, GoodTk t := by
  intro t ht
  obtain ⟨i, hi, rfl⟩ := List.getElem_of_mem ht
  exact h i _ (by omega) (List.getElem?_eq_getElem hi)

set_option maxHeartbeats 3200000 in
theorem tokensOk_any (A : Option Addr) (n cap : Nat) (ts : List Tk) (w : World) (h : Held w w.heap.size 2 A n (tkCells ts)) (hn : n ≤ 9223372036854775807) :
    Calls Try.prog 6 #[.slice A n cap] w (SomeBool (fun b => b = true → GoodTks n ts) w) := by
  have hlen : Hid (ts.length = n) := by
    have := h.1
    rw [tkCells_len] at this
    exact (by omega : ts.length = n)
  go_enter Try.func6, Try.ntmps6
  go_wp2
  go_loopw [7] (fun i wr => ∃ k : Nat, k ≤ n ∧ i = .int .i64 k ∧ Hid (GoodUpto ts k) ∧ Below w.heap.size w wr) (fun i _ => n - (intOf i).toNat)
  case atStart => exact ⟨0, Nat.zero_le _, rfl, fun i t hi => absurd hi (Nat.not_lt_zero _), Below.refl _ _⟩
  case round =>
    obtain ⟨k, hk, rfl, hg, hb⟩ := hrel
    have hbs := hb.size
    by_cases hlt : k < n
    · obtain ⟨b, off, ⟨t, s⟩, rfl, hbb, ht, c0, c1⟩ := (h.below hb).tk hlt
      have HT := Lib.hid ht
      clear ht
      simp only at c0 c1
      rcases (show t = -1 ∨ (t ≠ -1 ∧ t < -2000) ∨ (t ≠ -1 ∧ -2000 ≤ t ∧ 1000000 < t) ∨ (t ≠ -1 ∧ -2000 ≤ t ∧ t ≤ 1000000 ∧ 60 < s.size) ∨ (t ≠ -1 ∧ -2000 ≤ t ∧ t ≤ 1000000 ∧ s.size ≤ 60) from by omega) with
        rfl | ⟨h1, h2⟩ | ⟨h1, h2, h3⟩ | ⟨h1, h2, h3, h4⟩ | ⟨h1, h2, h3, h4⟩
      · go_wp2
        go_ret
        exact ⟨false, by simp, rfl, hb.trans (((Below.refl _ _).alloc (Nat.le_refl _) _).mono (by omega))⟩
      · have e1 : (t == -1) = false := beq_eq_false_iff_ne.2 h1
        go_wp2
        go_ret
        exact ⟨false, by simp, rfl, hb.trans (((Below.refl _ _).alloc (Nat.le_refl _) _).mono (by omega))⟩
      · have e1 : (t == -1) = false := beq_eq_false_iff_ne.2 h1
        go_wp2
        go_ret
        exact ⟨false, by simp, rfl, hb.trans (((Below.refl _ _).alloc (Nat.le_refl _) _).mono (by omega))⟩
      · have e1 : (t == -1) = false := beq_eq_false_iff_ne.2 h1
        go_wp2
        go_ret
        exact ⟨false, by simp, rfl, hb.trans (((Below.refl _ _).alloc (Nat.le_refl _) _).mono (by omega))⟩
      · have e1 : (t == -1) = false := beq_eq_false_iff_ne.2 h1
        have hgood := Lib.hid (hg.out.succ HT.out ⟨h1, h2, h3, h4⟩)
        go_wp2
        go_roundw
        case rel => exact ⟨k + 1, by omega, by go_num, hgood.out, hb.trans (((Below.refl _ _).alloc (Nat.le_refl _) _).mono (by omega))⟩
        case measure => simp [intOf]; omega
    · have hke : k = n := by omega
      have HKE := Lib.hid hke
      clear hke
      go_wp2
      go_ret
      exact ⟨decide ((n : Int) ≤ 60), fun hd => ⟨by simp at hd; omega, (HKE.out ▸ hg.out).all hlen.out⟩, rfl, hb⟩
end Go.Proofs.Ytfllliifkgpbkaa
