/-
  FnNameRune: the walk: it answers true for every byte and every place.
-/
import Derived.Test.YtmadokndnpdbcaaDoorRune
namespace Go.Proofs.YtmadokndnpdbcaaDoor
open Go.Lib Go.RowKit

def isLet (c : Int) : Bool := decide ((97 ≤ c ∧ c ≤ 122) ∨ (65 ≤ c ∧ c ≤ 90) ∨ c = 95)
def isDig (c : Int) : Bool := decide (48 ≤ c ∧ c ≤ 57)

theorem ret_bool {a b : Bool} (h : a = b) : Ending.returned (.bool a) = .returned (.bool b) := by rw [h]

theorem specLetter_any (c : Int) (w : World) (h0 : 0 ≤ c) (h1 : c ≤ 255) (b : Bool) (hb : isLet c = b) :
    Calls Tryd.prog 6 #[.int .u8 c] w fun e w' => e = .returned (.bool b) ∧ w = w' := by
  subst hb
  rcases (show c < 65 ∨ (65 ≤ c ∧ c ≤ 90) ∨ (90 < c ∧ c < 95) ∨ c = 95 ∨ c = 96 ∨ (97 ≤ c ∧ c ≤ 122) ∨ 122 < c from by omega) with h | ⟨h, h'⟩ | ⟨h, h'⟩ | rfl | rfl | ⟨h, h'⟩ | h
  · have e : isLet c = false := by simp [isLet]; omega
    have g : (c == 95) = false := beq_eq_false_iff_ne.2 (by omega)
    rw [e]; clear e
    go_enter Tryd.func6, Tryd.ntmps6
    go_wp2
    go_ret
    exact ⟨rfl, rfl⟩
  · have e : isLet c = true := by simp [isLet]; omega
    have g : (c == 95) = false := beq_eq_false_iff_ne.2 (by omega)
    rw [e]; clear e
    go_enter Tryd.func6, Tryd.ntmps6
    go_wp2
    go_ret
    exact ⟨rfl, rfl⟩
  · have e : isLet c = false := by simp [isLet]; omega
    have g : (c == 95) = false := beq_eq_false_iff_ne.2 (by omega)
    rw [e]; clear e
    go_enter Tryd.func6, Tryd.ntmps6
    go_wp2
    go_ret
    exact ⟨ret_bool (by simp; omega), rfl⟩
  · rw [show isLet 95 = true by decide]
    go_enter Tryd.func6, Tryd.ntmps6
    go_wp2
    go_ret
    exact ⟨rfl, rfl⟩
  · rw [show isLet 96 = false by decide]
    go_enter Tryd.func6, Tryd.ntmps6
    go_wp2
    go_ret
    exact ⟨rfl, rfl⟩
  · have e : isLet c = true := by simp [isLet]; omega
    have g : (c == 95) = false := beq_eq_false_iff_ne.2 (by omega)
    rw [e]; clear e
    go_enter Tryd.func6, Tryd.ntmps6
    go_wp2
    go_ret
    exact ⟨rfl, rfl⟩
  · have e : isLet c = false := by simp [isLet]; omega
    have g : (c == 95) = false := beq_eq_false_iff_ne.2 (by omega)
    rw [e]; clear e
    go_enter Tryd.func6, Tryd.ntmps6
    go_wp2
    go_ret
    exact ⟨ret_bool (by simp; omega), rfl⟩

theorem specDigit_any (c : Int) (w : World) (h0 : 0 ≤ c) (h1 : c ≤ 255) (b : Bool) (hb : isDig c = b) :
    Calls Tryd.prog 7 #[.int .u8 c] w fun e w' => e = .returned (.bool b) ∧ w = w' := by
  subst hb
  rcases (show c < 48 ∨ (48 ≤ c ∧ c ≤ 57) ∨ 57 < c from by omega) with h | ⟨h, h'⟩ | h
  · rw [show isDig c = false by simp [isDig]; omega]
    go_enter Tryd.func7, Tryd.ntmps7
    go_wp2
    go_ret
    exact ⟨rfl, rfl⟩
  · rw [show isDig c = true by simp [isDig]; omega]
    go_enter Tryd.func7, Tryd.ntmps7
    go_wp2
    go_ret
    exact ⟨rfl, rfl⟩
  · rw [show isDig c = false by simp [isDig]; omega]
    go_enter Tryd.func7, Tryd.ntmps7
    go_wp2
    go_ret
    exact ⟨ret_bool (by simp; omega), rfl⟩

/-- Among the characters of ASCII the two say the same. -/
theorem ident_ascii (c p : Int) (h0 : 0 ≤ c) (h1 : c < 128) : ident c p = (isLet c || (decide (0 < p) && isDig c)) := by
  have hl : isLetterU c = (isUpperL c || isLowerL c || decide (c = 170 ∨ c = 186)) := by
    unfold isLetterU
    rw [if_pos (by simp [latin1]; omega)]
    rfl
  have hd : isDigitU c = isDig c := by
    unfold isDigitU
    rw [if_pos (by omega)]
    rfl
  unfold ident
  rw [hl, hd]
  have e : (isUpperL c || isLowerL c || decide (c = 170 ∨ c = 186) || decide (c = 95) || decide (c = 183) || decide (c = 8725)) = isLet c := by
    rw [Bool.eq_iff_iff]
    simp only [isUpperL, isLowerL, isLet, Bool.or_eq_true, decide_eq_true_eq]
    omega
  rw [e]

set_option maxHeartbeats 1600000 in
theorem ascii_walk (c p : Int) (w : World) (h0 : 0 ≤ c) (h1 : c ≤ 255) (hT : Tabs w) :
    Calls Tryd.prog 4 #[.int .u8 c, .int .i64 p] w fun e w' => e = .returned (.bool true) ∧ Below w.heap.size w w' := by
  have HT := Lib.hid hT
  clear hT
  rcases (show 128 ≤ c ∨ (c < 128 ∧ p < 0) ∨ (c < 128 ∧ 0 ≤ p ∧ 1000 < p) ∨ (c < 128 ∧ 0 ≤ p ∧ p ≤ 1000) from by omega) with h | ⟨h2, h⟩ | ⟨h2, h3, h⟩ | ⟨h2, h3, h4⟩
  iterate 3
    · go_enter Tryd.func4, Tryd.ntmps4
      go_wp2
      go_ret
      exact ⟨rfl, Below.refl _ _⟩
  have hi := ident_ascii c p h0 h2
  cases hl : isLet c with
  | true =>
    have HI := Lib.hid (show ident c p = true by rw [hi, hl]; rfl)
    have HL := Lib.hid hl
    clear hi hl
    go_enter Tryd.func4, Tryd.ntmps4
    go_wp2_with fail
    refine (isNameRune_any c p w (by omega) (by omega) HT.out true HI.out).mono ?_
    rintro e w1 ⟨rfl, b1⟩
    go_wp2_with fail
    refine (specLetter_any c w1 h0 h1 true HL.out).mono ?_
    rintro e w2 ⟨rfl, rfl⟩
    go_wp2
    go_ret
    exact ⟨rfl, b1⟩
  | false =>
    have HL := Lib.hid hl
    by_cases hp : 0 < p
    · cases hd : isDig c with
      | true =>
        have HI := Lib.hid (show ident c p = true by rw [hi, hl, hd]; simp [hp])
        have HD := Lib.hid hd
        clear hi hl hd
        go_enter Tryd.func4, Tryd.ntmps4
        go_wp2_with fail
        refine (isNameRune_any c p w (by omega) (by omega) HT.out true HI.out).mono ?_
        rintro e w1 ⟨rfl, b1⟩
        go_wp2_with fail
        refine (specLetter_any c w1 h0 h1 false HL.out).mono ?_
        rintro e w2 ⟨rfl, rfl⟩
        go_wp2_with fail
        refine (specDigit_any c w1 h0 h1 true HD.out).mono ?_
        rintro e w3 ⟨rfl, rfl⟩
        go_wp2
        go_ret
        exact ⟨rfl, b1⟩
      | false =>
        have HI := Lib.hid (show ident c p = false by rw [hi, hl, hd]; simp)
        have HD := Lib.hid hd
        clear hi hl hd
        go_enter Tryd.func4, Tryd.ntmps4
        go_wp2_with fail
        refine (isNameRune_any c p w (by omega) (by omega) HT.out false HI.out).mono ?_
        rintro e w1 ⟨rfl, b1⟩
        go_wp2_with fail
        refine (specLetter_any c w1 h0 h1 false HL.out).mono ?_
        rintro e w2 ⟨rfl, rfl⟩
        go_wp2_with fail
        refine (specDigit_any c w1 h0 h1 false HD.out).mono ?_
        rintro e w3 ⟨rfl, rfl⟩
        go_wp2
        go_ret
        exact ⟨rfl, b1⟩
    · have HI := Lib.hid (show ident c p = false by rw [hi, hl]; simp [hp])
      clear hi hl
      go_enter Tryd.func4, Tryd.ntmps4
      go_wp2_with fail
      refine (isNameRune_any c p w (by omega) (by omega) HT.out false HI.out).mono ?_
      rintro e w1 ⟨rfl, b1⟩
      go_wp2_with fail
      refine (specLetter_any c w1 h0 h1 false HL.out).mono ?_
      rintro e w2 ⟨rfl, rfl⟩
      go_wp2
      go_ret
      exact ⟨rfl, b1⟩
end Go.Proofs.YtmadokndnpdbcaaDoor
