/-
  FnNamePlaces: the walk: it answers true for every character and every two places.
-/
import Derived.Test.YtmadokndnpdbcaaDoorRune
namespace Go.Proofs.YtmadokndnpdbcaaDoor
open Go.Lib Go.RowKit

theorem ident_pos (r : Int) {p q : Int} (hp : 0 < p) (hq : 0 < q) : ident r q = ident r p := by simp [ident, hp, hq]
theorem ident_zero (r : Int) {p : Int} (hp : 0 < p) (h : ident r p = false) : ident r 0 = false := by
  simp only [ident, hp, decide_true, Bool.true_and, Bool.or_eq_false_iff] at h ⊢
  exact ⟨h.1, by simp⟩
theorem ident_a (p : Int) : ident 97 p = true := by
  have h : isLetterU 97 = true := by decide +kernel
  simp [ident, h]

set_option maxHeartbeats 1600000 in
theorem places_walk (c one two : Int) (w : World) (hlo : -2147483648 ≤ c) (hhi : c ≤ 2147483647) (hT : Tabs w) :
    Calls Tryd.prog 3 #[.int .i32 c, .int .i64 one, .int .i64 two] w fun e w' => e = .returned (.bool true) ∧ Below w.heap.size w w' := by
  have HT := Lib.hid hT
  clear hT
  rcases (show c < 0 ∨ (0 ≤ c ∧ 1114111 < c) ∨ (0 ≤ c ∧ c ≤ 1114111 ∧ one < 1) ∨ (0 ≤ c ∧ c ≤ 1114111 ∧ 1 ≤ one ∧ two < 1) ∨ (0 ≤ c ∧ c ≤ 1114111 ∧ 1 ≤ one ∧ 1 ≤ two ∧ 1000 < one) ∨
      (0 ≤ c ∧ c ≤ 1114111 ∧ 1 ≤ one ∧ 1 ≤ two ∧ one ≤ 1000 ∧ 1000 < two) ∨ (0 ≤ c ∧ c ≤ 1114111 ∧ 1 ≤ one ∧ 1 ≤ two ∧ one ≤ 1000 ∧ two ≤ 1000) from by omega) with
    h | ⟨h1, h⟩ | ⟨h1, h2, h⟩ | ⟨h1, h2, h3, h⟩ | ⟨h1, h2, h3, h4, h⟩ | ⟨h1, h2, h3, h4, h5, h⟩ | ⟨h1, h2, h3, h4, h5, h6⟩
  iterate 6
    · go_enter Tryd.func3, Tryd.ntmps3
      go_wp2
      go_ret
      exact ⟨rfl, Below.refl _ _⟩
  cases hb : ident c one with
  | true =>
    have HB := Lib.hid hb
    have HB2 := Lib.hid ((ident_pos c (show 0 < one by omega) (show 0 < two by omega)).trans hb)
    clear hb
    go_enter Tryd.func3, Tryd.ntmps3
    go_wp2_with fail
    refine (isNameRune_any c one w hlo hhi HT.out true HB.out).mono ?_
    rintro e w1 ⟨rfl, b1⟩
    go_wp2_with fail
    refine (isNameRune_any c two w1 hlo hhi (HT.out.below b1) true HB2.out).mono ?_
    rintro e w2 ⟨rfl, b2'⟩
    have b2 := b1.trans (b2'.mono b1.size)
    clear b1 b2'
    go_wp2_with fail
    refine (isNameRune_any 97 one w2 (by omega) (by omega) (HT.out.below b2) true (ident_a one)).mono ?_
    rintro e w3 ⟨rfl, b3'⟩
    have b3 := b2.trans (b3'.mono b2.size)
    go_wp2
    go_ret
    exact ⟨rfl, b3⟩
  | false =>
    have HB := Lib.hid hb
    have HB2 := Lib.hid ((ident_pos c (show 0 < one by omega) (show 0 < two by omega)).trans hb)
    have HB0 := Lib.hid (ident_zero c (show 0 < one by omega) hb)
    clear hb
    go_enter Tryd.func3, Tryd.ntmps3
    go_wp2_with fail
    refine (isNameRune_any c one w hlo hhi HT.out false HB.out).mono ?_
    rintro e w1 ⟨rfl, b1⟩
    go_wp2_with fail
    refine (isNameRune_any c two w1 hlo hhi (HT.out.below b1) false HB2.out).mono ?_
    rintro e w2 ⟨rfl, b2'⟩
    have b2 := b1.trans (b2'.mono b1.size)
    clear b1 b2'
    go_wp2_with fail
    refine (isNameRune_any c 0 w2 hlo hhi (HT.out.below b2) false HB0.out).mono ?_
    rintro e w3 ⟨rfl, b3'⟩
    have b3 := b2.trans (b3'.mono b2.size)
    clear b2 b3'
    go_wp2_with fail
    refine (isNameRune_any 97 one w3 (by omega) (by omega) (HT.out.below b3) true (ident_a one)).mono ?_
    rintro e w4 ⟨rfl, b4'⟩
    have b4 := b3.trans (b4'.mono b3.size)
    go_wp2
    go_ret
    exact ⟨rfl, b4⟩
end Go.Proofs.YtmadokndnpdbcaaDoor
