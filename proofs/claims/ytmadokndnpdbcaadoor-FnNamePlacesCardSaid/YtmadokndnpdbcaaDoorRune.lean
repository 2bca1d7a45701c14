/-
  asmlex.isIdentRune answers one plain Bool function of a character and a place, the tables of unicode being as the text lays them. Conditions: the character is an int32.
-/
import Derived.Test.YtmadokndnpdbcaaDoorChecked
import Derived.Test.YtmadokndnpdbcaaDoorShelf
import Derived.WalkKit
import Derived.ProofKit
import Derived.WalkSpells
import Derived.Lib.Hide
namespace Go.Proofs.YtmadokndnpdbcaaDoor
open Go.Lib Go.RowKit

/-- The three tables, as the text lays them. -/
def Tabs (w : World) : Prop := Lib.TabIs Tryd.prog w "unicode.properties" .u8 Lib.propertiesTab ∧ RVar (Tryd.lays200_ren.g 8) letterT w ∧ RVar (Tryd.lays198_ren.g 5) digitT w

theorem Tabs.below {w w' : World} (h : Tabs w) (hb : Below w.heap.size w w') : Tabs w' :=
  ⟨TabIs_below (g := Tryd.lays200_ren.g 7) (by kernel_rfl) h.1 hb, RVar_below h.2.1 hb, RVar_below h.2.2 hb⟩

theorem letter_any (r : Int) (w : World) (hlo : -2147483648 ≤ r) (hhi : r ≤ 2147483647) (h : Tabs w) (b : Bool) (hb : isLetterU r = b) :
    Calls Tryd.prog 10 #[.int .i32 r] w fun e w' => e = .returned (.bool b) ∧ Below w.heap.size w w' := by
  subst hb
  exact Any.unicode_IsLetter_all Tryd.lays200 (by kernel_rfl) r w hlo hhi h.1 h.2.1
theorem digit_any (r : Int) (w : World) (hlo : -2147483648 ≤ r) (hhi : r ≤ 2147483647) (h : Tabs w) (b : Bool) (hb : isDigitU r = b) :
    Calls Tryd.prog 11 #[.int .i32 r] w fun e w' => e = .returned (.bool b) ∧ Below w.heap.size w w' := by
  subst hb
  exact Any.unicode_IsDigit_all Tryd.lays198 r w hlo hhi h.2.2

/-- May a character stand at a place of a name? -/
def ident (r p : Int) : Bool := isLetterU r || decide (r = 95) || decide (r = 183) || decide (r = 8725) || (decide (0 < p) && isDigitU r)

theorem ident_ret {r p : Int} {b : Bool} (h : ident r p = b) : Ending.returned (.bool b) = .returned (.bool (ident r p)) := by rw [h]

set_option maxHeartbeats 1600000 in
theorem isIdent_any (r p : Int) (w : World) (hlo : -2147483648 ≤ r) (hhi : r ≤ 2147483647) (hT : Tabs w) :
    Calls Tryd.prog 9 #[.int .i32 r, .int .i64 p] w fun e w' => e = .returned (.bool (ident r p)) ∧ Below w.heap.size w w' := by
  have HT := Lib.hid hT
  clear hT
  cases hl : isLetterU r with
  | true =>
    have hid : Hid (ident r p = true) := by show ident r p = true; simp [ident, hl]
    have HL := Lib.hid hl
    clear hl
    go_enter Tryd.func9, Tryd.ntmps9
    go_wp2_with fail
    refine (letter_any r w hlo hhi HT.out true HL.out).mono ?_
    rintro e w1 ⟨rfl, hb⟩
    go_wp2
    go_ret
    exact ⟨ident_ret hid.out, hb⟩
  | false =>
    have HL := Lib.hid hl
    by_cases h1 : r = 95
    · have hid : Hid (ident r p = true) := by show ident r p = true; simp [ident, h1]
      subst h1
      clear hl
      go_enter Tryd.func9, Tryd.ntmps9
      go_wp2_with fail
      refine (letter_any _ w hlo hhi HT.out false HL.out).mono ?_
      rintro e w1 ⟨rfl, hb⟩
      go_wp2
      go_ret
      exact ⟨ident_ret hid.out, hb⟩
    by_cases h2 : r = 183
    · have hid : Hid (ident r p = true) := by show ident r p = true; simp [ident, h2]
      subst h2
      clear hl
      go_enter Tryd.func9, Tryd.ntmps9
      go_wp2_with fail
      refine (letter_any _ w hlo hhi HT.out false HL.out).mono ?_
      rintro e w1 ⟨rfl, hb⟩
      go_wp2
      go_ret
      exact ⟨ident_ret hid.out, hb⟩
    by_cases h3 : r = 8725
    · have hid : Hid (ident r p = true) := by show ident r p = true; simp [ident, h3]
      subst h3
      clear hl
      go_enter Tryd.func9, Tryd.ntmps9
      go_wp2_with fail
      refine (letter_any _ w hlo hhi HT.out false HL.out).mono ?_
      rintro e w1 ⟨rfl, hb⟩
      go_wp2
      go_ret
      exact ⟨ident_ret hid.out, hb⟩
    have g1 : (r == 95) = false := beq_eq_false_iff_ne.2 h1
    have g2 : (r == 183) = false := beq_eq_false_iff_ne.2 h2
    have g3 : (r == 8725) = false := beq_eq_false_iff_ne.2 h3
    by_cases hp : 0 < p
    · cases hd : isDigitU r with
      | true =>
        have hid : Hid (ident r p = true) := by show ident r p = true; simp [ident, hp, hd]
        have HD := Lib.hid hd
        clear hd hl h1 h2 h3
        go_enter Tryd.func9, Tryd.ntmps9
        go_wp2_with fail
        refine (letter_any r w hlo hhi HT.out false HL.out).mono ?_
        rintro e w1 ⟨rfl, hb⟩
        go_wp2_with fail
        refine (digit_any r w1 hlo hhi (HT.out.below hb) true HD.out).mono ?_
        rintro e w2 ⟨rfl, hb2⟩
        go_wp2
        go_ret
        exact ⟨ident_ret hid.out, hb.trans (hb2.mono hb.size)⟩
      | false =>
        have hid : Hid (ident r p = false) := by show ident r p = false; simp [ident, hl, h1, h2, h3, hd]
        have HD := Lib.hid hd
        clear hd hl h1 h2 h3
        go_enter Tryd.func9, Tryd.ntmps9
        go_wp2_with fail
        refine (letter_any r w hlo hhi HT.out false HL.out).mono ?_
        rintro e w1 ⟨rfl, hb⟩
        go_wp2_with fail
        refine (digit_any r w1 hlo hhi (HT.out.below hb) false HD.out).mono ?_
        rintro e w2 ⟨rfl, hb2⟩
        go_wp2
        go_ret
        exact ⟨ident_ret hid.out, hb.trans (hb2.mono hb.size)⟩
    · have hid : Hid (ident r p = false) := by show ident r p = false; simp [ident, hl, h1, h2, h3, hp]
      clear hl h1 h2 h3
      go_enter Tryd.func9, Tryd.ntmps9
      go_wp2_with fail
      refine (letter_any r w hlo hhi HT.out false HL.out).mono ?_
      rintro e w1 ⟨rfl, hb⟩
      go_wp2
      go_ret
      exact ⟨ident_ret hid.out, hb⟩

theorem isNameRune_any (r p : Int) (w : World) (hlo : -2147483648 ≤ r) (hhi : r ≤ 2147483647) (hT : Tabs w) (b : Bool) (hb : ident r p = b) :
    Calls Tryd.prog 5 #[.int .i32 r, .int .i64 p] w fun e w' => e = .returned (.bool b) ∧ Below w.heap.size w w' := by
  have HB := Lib.hid hb
  clear hb
  go_enter Tryd.func5, Tryd.ntmps5
  go_wp2_with (first
    | (go_at_call 9; refine (isIdent_any r p _ hlo hhi hT).mono ?_; rw [HB.out]; rintro e w1 ⟨rfl, hb1⟩)
    | go_in)
  go_ret
  exact ⟨rfl, hb1⟩
end Go.Proofs.YtmadokndnpdbcaaDoor
