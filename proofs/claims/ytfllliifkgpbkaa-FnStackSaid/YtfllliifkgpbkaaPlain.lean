/-
  Plain laws on bytes, no program in sight: replacing a text that is not empty (in the words of the library's 'index'), and the scan that tells both characters at once.
-/
import Derived.Lib.IndexMore
import Derived.Lib.Replace
namespace Go.Proofs.Ytfllliifkgpbkaa.Plain
open Go.Lib

/-- All instances of o, from the left, each replaced by n. -/
def rep (o n s : List UInt8) : List UInt8 := replaceK o n s.length s

theorem replaceK_fuel (o n : List UInt8) (ho : o ≠ []) : ∀ (k : Nat) (s : List UInt8), s.length ≤ k → replaceK o n k s = rep o n s := by
  have key : ∀ (m : Nat) (k j : Nat) (s : List UInt8), s.length ≤ m → s.length ≤ k → s.length ≤ j → replaceK o n k s = replaceK o n j s := by
    intro m
    induction m with
    | zero =>
      intro k j s hm hk hj
      have hs : s = [] := List.eq_nil_of_length_eq_zero (by omega)
      subst hs
      have hi : index [] o = -1 := index_past ho (NoOcc.zero _ _) (by
        have := List.length_pos_iff.2 ho; simp; omega)
      cases k <;> cases j <;> simp [replaceK, hi]
    | succ m ih =>
      intro k j s hm hk hj
      by_cases hi : index s o = -1
      · cases k <;> cases j <;> simp [replaceK, hi]
      · have hge := index_ge s o
        have hop := List.length_pos_iff.2 ho
        obtain ⟨i, hi'⟩ : ∃ i : Nat, index s o = i := ⟨(index s o).toNat, by omega⟩
        have hpos : 0 < s.length := by
          rcases Nat.eq_zero_or_pos s.length with h0 | h0
          · exfalso
            have hs : s = [] := List.eq_nil_of_length_eq_zero h0
            subst hs
            exact hi (index_past ho (NoOcc.zero _ _) (by simp; omega))
          · exact h0
        match k, j, hk, hj with
        | 0, _, hk, _ => omega
        | _ + 1, 0, _, hj => omega
        | k + 1, j + 1, hk, hj =>
          rw [replaceK_hit o n k s i hi', replaceK_hit o n j s i hi']
          have hl : (s.drop (i + o.length)).length ≤ m := by rw [List.length_drop]; omega
          rw [ih k j _ hl (by rw [List.length_drop]; omega) (by rw [List.length_drop]; omega)]
  intro k s hk
  exact key s.length k s.length s (Nat.le_refl _) hk (Nat.le_refl _)

theorem rep_miss {o n s : List UInt8} (h : index s o = -1) : rep o n s = s := by
  unfold rep
  cases s.length <;> simp [replaceK, h]

theorem rep_hit {o n s : List UInt8} (ho : o ≠ []) {i : Nat} (h : index s o = i) : rep o n s = s.take i ++ n ++ rep o n (s.drop (i + o.length)) := by
  rw [← replaceK_fuel o n ho (s.length + 1) s (by omega), replaceK_hit o n s.length s i h, replaceK_fuel o n ho _ _ (by rw [List.length_drop]; omega)]

theorem rep_nil (o n : List UInt8) (ho : o ≠ []) : rep o n [] = [] := rep_miss (index_past ho (NoOcc.zero _ _) (by
  have := List.length_pos_iff.2 ho; simp; omega))

theorem rep_here {o n s : List UInt8} (ho : o ≠ []) : rep o n (o ++ s) = n ++ rep o n s := by
  have h : index (o ++ s) o = (0 : Nat) := index_first (Nat.zero_le _) (by simp [occAt]) (fun j hj => absurd hj (Nat.not_lt_zero _))
  rw [rep_hit ho h]
  simp

theorem rep_cons {o n : List UInt8} (ho : o ≠ []) {c : UInt8} {t : List UInt8} (h : o.isPrefixOf (c :: t) = false) : rep o n (c :: t) = c :: rep o n t := by
  by_cases hi : index t o = -1
  · have h1 : index (c :: t) o = -1 := by
      unfold index
      rw [h, hi]; rfl
    rw [rep_miss h1, rep_miss hi]
  · have hge := index_ge t o
    obtain ⟨i, hi'⟩ : ∃ i : Nat, index t o = i := ⟨(index t o).toNat, by omega⟩
    have h1 : index (c :: t) o = (i + 1 : Nat) := by
      unfold index
      rw [h, hi']
      have : ((i : Int) == -1) = false := by rw [beq_eq_false_iff_ne]; omega
      simp [this]
    rw [rep_hit ho h1, rep_hit ho hi']
    have e : i + 1 + o.length = (i + o.length) + 1 := by omega
    rw [e]
    simp

/-- An index that is told leaves room for the text. -/
theorem index_room {o s : List UInt8} (ho : o ≠ []) {i : Nat} (h : index s o = i) : i + o.length ≤ s.length := by
  rcases index_spec s o with ⟨h1, _⟩ | ⟨j, h1, _, h2, _⟩
  · omega
  · have : i = j := by omega
    subst this
    rcases occAt_room h2 with h3 | h3
    · exact h3
    · exact absurd h3 ho

/-- The text with a point for the first of the two characters. -/
def dotted : List UInt8 → List UInt8
  | 194 :: 183 :: t => 46 :: dotted t
  | c :: t => c :: dotted t
  | [] => []

/-- The text with a slash for the second. -/
def slashed : List UInt8 → List UInt8
  | 226 :: 136 :: 149 :: t => 47 :: slashed t
  | c :: t => c :: slashed t
  | [] => []

/-- The text with both. -/
def told : List UInt8 → List UInt8
  | 194 :: 183 :: t => 46 :: told t
  | 226 :: 136 :: 149 :: t => 47 :: told t
  | c :: t => c :: told t
  | [] => []

theorem dotted_dot (t : List UInt8) : dotted (194 :: 183 :: t) = 46 :: dotted t := rfl
theorem slashed_slash (t : List UInt8) : slashed (226 :: 136 :: 149 :: t) = 47 :: slashed t := rfl
theorem told_dot (t : List UInt8) : told (194 :: 183 :: t) = 46 :: told t := rfl
theorem told_slash (t : List UInt8) : told (226 :: 136 :: 149 :: t) = 47 :: told t := rfl

theorem isPre_dot (l : List UInt8) : ([194, 183] : List UInt8).isPrefixOf l = true ↔ ∃ t, l = 194 :: 183 :: t := by
  rw [List.isPrefixOf_iff_prefix]
  exact ⟨fun ⟨t, h⟩ => ⟨t, h.symm⟩, fun ⟨t, h⟩ => ⟨t, h.symm⟩⟩
theorem isPre_slash (l : List UInt8) : ([226, 136, 149] : List UInt8).isPrefixOf l = true ↔ ∃ t, l = 226 :: 136 :: 149 :: t := by
  rw [List.isPrefixOf_iff_prefix]
  exact ⟨fun ⟨t, h⟩ => ⟨t, h.symm⟩, fun ⟨t, h⟩ => ⟨t, h.symm⟩⟩

theorem dotted_cons {c : UInt8} {t : List UInt8} (h : ([194, 183] : List UInt8).isPrefixOf (c :: t) = false) : dotted (c :: t) = c :: dotted t := by
  refine dotted.eq_2 c t fun u h1 h2 => ?_
  subst h1 h2
  simp at h

theorem slashed_cons {c : UInt8} {t : List UInt8} (h : ([226, 136, 149] : List UInt8).isPrefixOf (c :: t) = false) : slashed (c :: t) = c :: slashed t := by
  refine slashed.eq_2 c t fun u h1 h2 => ?_
  subst h1 h2
  simp at h

theorem told_cons {c : UInt8} {t : List UInt8} (h1 : ([194, 183] : List UInt8).isPrefixOf (c :: t) = false) (h2 : ([226, 136, 149] : List UInt8).isPrefixOf (c :: t) = false) :
    told (c :: t) = c :: told t := by
  refine told.eq_3 c t (fun u e1 e2 => ?_) (fun u e1 e2 => ?_)
  · subst e1 e2
    simp at h1
  · subst e1 e2
    simp at h2

/-- Three ways of a text that is not empty. -/
theorem ways (c : UInt8) (t : List UInt8) : (∃ u, c :: t = 194 :: 183 :: u) ∨ (∃ u, c :: t = 226 :: 136 :: 149 :: u) ∨
    (([194, 183] : List UInt8).isPrefixOf (c :: t) = false ∧ ([226, 136, 149] : List UInt8).isPrefixOf (c :: t) = false) := by
  cases h1 : ([194, 183] : List UInt8).isPrefixOf (c :: t) with
  | true => exact .inl ((isPre_dot _).1 h1)
  | false =>
    cases h2 : ([226, 136, 149] : List UInt8).isPrefixOf (c :: t) with
    | true => exact .inr (.inl ((isPre_slash _).1 h2))
    | false => exact .inr (.inr ⟨rfl, rfl⟩)

theorem rep_dot : ∀ (k : Nat) (s : List UInt8), s.length ≤ k → rep [194, 183] [46] s = dotted s := by
  intro k
  induction k with
  | zero =>
    intro s hs
    have : s = [] := List.eq_nil_of_length_eq_zero (by omega)
    subst this
    exact rep_nil _ _ (by simp)
  | succ k ih =>
    intro s hs
    match s, hs with
    | [], _ => exact rep_nil _ _ (by simp)
    | c :: t, hs =>
      cases h1 : ([194, 183] : List UInt8).isPrefixOf (c :: t) with
      | true =>
        obtain ⟨u, hu⟩ := (isPre_dot _).1 h1
        rw [hu] at hs ⊢
        have := rep_here (o := [194, 183]) (n := [46]) (s := u) (by simp)
        simp only [List.cons_append, List.nil_append] at this
        rw [this, dotted_dot, ih u (by simp at hs; omega)]
      | false => rw [rep_cons (by simp) h1, dotted_cons h1, ih t (by simp at hs; omega)]

theorem rep_slash : ∀ (k : Nat) (s : List UInt8), s.length ≤ k → rep [226, 136, 149] [47] s = slashed s := by
  intro k
  induction k with
  | zero =>
    intro s hs
    have : s = [] := List.eq_nil_of_length_eq_zero (by omega)
    subst this
    exact rep_nil _ _ (by simp)
  | succ k ih =>
    intro s hs
    match s, hs with
    | [], _ => exact rep_nil _ _ (by simp)
    | c :: t, hs =>
      cases h1 : ([226, 136, 149] : List UInt8).isPrefixOf (c :: t) with
      | true =>
        obtain ⟨u, hu⟩ := (isPre_slash _).1 h1
        rw [hu] at hs ⊢
        have := rep_here (o := [226, 136, 149]) (n := [47]) (s := u) (by simp)
        simp only [List.cons_append, List.nil_append] at this
        rw [this, slashed_slash, ih u (by simp at hs; omega)]
      | false => rw [rep_cons (by simp) h1, slashed_cons h1, ih t (by simp at hs; omega)]

/-- Where the dotted text goes on with a byte that is no point, so did the text. -/
theorem dotted_head {s : List UInt8} {c : UInt8} {r : List UInt8} (hc : c ≠ 46) (h : dotted s = c :: r) : ∃ t, s = c :: t ∧ dotted t = r := by
  match s with
  | [] => simp [dotted] at h
  | b :: t =>
    cases h1 : ([194, 183] : List UInt8).isPrefixOf (b :: t) with
    | true =>
      obtain ⟨u, hu⟩ := (isPre_dot _).1 h1
      rw [hu, dotted_dot] at h
      injection h with h2 _
      exact absurd h2.symm hc
    | false =>
      rw [dotted_cons h1] at h
      injection h with h2 h3
      subst h2
      exact ⟨t, rfl, h3⟩

theorem slashed_dotted : ∀ (k : Nat) (s : List UInt8), s.length ≤ k → slashed (dotted s) = told s := by
  intro k
  induction k with
  | zero =>
    intro s hs
    have : s = [] := List.eq_nil_of_length_eq_zero (by omega)
    subst this; rfl
  | succ k ih =>
    intro s hs
    match s, hs with
    | [], _ => rfl
    | c :: t, hs =>
      rcases ways c t with ⟨u, hu⟩ | ⟨u, hu⟩ | ⟨h1, h2⟩
      · rw [hu] at hs ⊢
        rw [dotted_dot, told_dot, slashed_cons rfl, ih u (by simp at hs; omega)]
      · rw [hu] at hs ⊢
        rw [dotted_cons rfl, dotted_cons rfl, dotted_cons rfl, slashed_slash, told_slash, ih u (by simp at hs; omega)]
      · rw [dotted_cons h1, told_cons h1 h2, ← ih t (by simp at hs; omega)]
        refine slashed_cons ?_
        cases h3 : ([226, 136, 149] : List UInt8).isPrefixOf (c :: dotted t) with
        | false => rfl
        | true =>
          exfalso
          obtain ⟨u, hu⟩ := (isPre_slash _).1 h3
          injection hu with hu1 hu2
          subst hu1
          obtain ⟨t1, rfl, ht1⟩ := dotted_head (by decide) hu2
          obtain ⟨t2, rfl, _⟩ := dotted_head (by decide) ht1
          simp at h2

/-- What is made of a text is what is told of it. -/
theorem made_told (s : List UInt8) : rep [226, 136, 149] [47] (rep [194, 183] [46] s) = told s := by
  rw [rep_dot _ s (Nat.le_refl _), rep_slash _ _ (Nat.le_refl _), slashed_dotted _ s (Nat.le_refl _)]

theorem told_head {s : List UInt8} {c : UInt8} {r : List UInt8} (hc : c ≠ 46) (hd : c ≠ 47) (h : told s = c :: r) : ∃ t, s = c :: t ∧ told t = r := by
  match s with
  | [] => simp [told] at h
  | b :: t =>
    rcases ways b t with ⟨u, hu⟩ | ⟨u, hu⟩ | ⟨h1, h2⟩
    · rw [hu, told_dot] at h
      injection h with h2 _
      exact absurd h2.symm hc
    · rw [hu, told_slash] at h
      injection h with h2 _
      exact absurd h2.symm hd
    · rw [told_cons h1 h2] at h
      injection h with h2 h3
      subst h2
      exact ⟨t, rfl, h3⟩

theorem told_told : ∀ (k : Nat) (s : List UInt8), s.length ≤ k → told (told s) = told s := by
  intro k
  induction k with
  | zero =>
    intro s hs
    have : s = [] := List.eq_nil_of_length_eq_zero (by omega)
    subst this; rfl
  | succ k ih =>
    intro s hs
    match s, hs with
    | [], _ => rfl
    | c :: t, hs =>
      rcases ways c t with ⟨u, hu⟩ | ⟨u, hu⟩ | ⟨h1, h2⟩
      · rw [hu] at hs ⊢
        rw [told_dot, told_cons rfl rfl, ih u (by simp at hs; omega)]
      · rw [hu] at hs ⊢
        rw [told_slash, told_cons rfl rfl, ih u (by simp at hs; omega)]
      · rw [told_cons h1 h2]
        have e := ih t (by simp at hs; omega)
        have g1 : ([194, 183] : List UInt8).isPrefixOf (c :: told t) = false := by
          cases h3 : ([194, 183] : List UInt8).isPrefixOf (c :: told t) with
          | false => rfl
          | true =>
            exfalso
            obtain ⟨u, hu⟩ := (isPre_dot _).1 h3
            injection hu with hu1 hu2
            subst hu1
            obtain ⟨t1, rfl, _⟩ := told_head (by decide) (by decide) hu2
            simp at h1
        have g2 : ([226, 136, 149] : List UInt8).isPrefixOf (c :: told t) = false := by
          cases h3 : ([226, 136, 149] : List UInt8).isPrefixOf (c :: told t) with
          | false => rfl
          | true =>
            exfalso
            obtain ⟨u, hu⟩ := (isPre_slash _).1 h3
            injection hu with hu1 hu2
            subst hu1
            obtain ⟨t1, rfl, ht1⟩ := told_head (by decide) (by decide) hu2
            obtain ⟨t2, rfl, _⟩ := told_head (by decide) (by decide) ht1
            simp at h2
        rw [told_cons g1 g2, e]

theorem told_length : ∀ (k : Nat) (s : List UInt8), s.length ≤ k → (told s).length ≤ s.length := by
  intro k
  induction k with
  | zero =>
    intro s hs
    have : s = [] := List.eq_nil_of_length_eq_zero (by omega)
    subst this; simp [told]
  | succ k ih =>
    intro s hs
    match s, hs with
    | [], _ => simp [told]
    | c :: t, hs =>
      rcases ways c t with ⟨u, hu⟩ | ⟨u, hu⟩ | ⟨h1, h2⟩
      · rw [hu] at hs ⊢
        rw [told_dot]
        have := ih u (by simp at hs; omega)
        simp; omega
      · rw [hu] at hs ⊢
        rw [told_slash]
        have := ih u (by simp at hs; omega)
        simp; omega
      · rw [told_cons h1 h2]
        have := ih t (by simp at hs; omega)
        simp; omega

theorem dotted_le (s : List UInt8) : (dotted s).length ≤ s.length := by
  have key : ∀ (k : Nat) (s : List UInt8), s.length ≤ k → (dotted s).length ≤ s.length := by
    intro k
    induction k with
    | zero =>
      intro s hs
      have : s = [] := List.eq_nil_of_length_eq_zero (by omega)
      subst this; simp [dotted]
    | succ k ih =>
      intro s hs
      match s, hs with
      | [], _ => simp [dotted]
      | c :: t, hs =>
        cases h1 : ([194, 183] : List UInt8).isPrefixOf (c :: t) with
        | true =>
          obtain ⟨u, hu⟩ := (isPre_dot _).1 h1
          rw [hu] at hs ⊢
          rw [dotted_dot]
          have := ih u (by simp at hs; omega)
          simp; omega
        | false =>
          rw [dotted_cons h1]
          have := ih t (by simp at hs; omega)
          simp; omega
  exact key _ s (Nat.le_refl _)

theorem told_le (s : List UInt8) : (told s).length ≤ s.length := told_length _ s (Nat.le_refl _)

theorem told_nil_iff (s : List UInt8) : told s = [] ↔ s = [] := by
  match s with
  | [] => simp [told]
  | c :: t =>
    rcases ways c t with ⟨u, hu⟩ | ⟨u, hu⟩ | ⟨h1, h2⟩
    · rw [hu, told_dot]; simp
    · rw [hu, told_slash]; simp
    · rw [told_cons h1 h2]; simp

/-- A text of ASCII is told as it is, whatever stands behind it. -/
theorem told_ascii : ∀ (a r : List UInt8), (∀ b ∈ a, b.toNat < 128) → told (a ++ r) = a ++ told r
  | [], _, _ => rfl
  | c :: a, r, h => by
    have hc : c.toNat < 128 := h c (by simp)
    have h1 : c ≠ 194 := fun e => by subst e; simp at hc
    have h2 : c ≠ 226 := fun e => by subst e; simp at hc
    rw [List.cons_append, told_cons, told_ascii a r (fun b hb => h b (by simp [hb]))]
    · simp
    · simp [List.isPrefixOf, h1.symm]
    · simp [List.isPrefixOf, h2.symm]

theorem told_plain (a : List UInt8) (h : ∀ b ∈ a, b.toNat < 128) : told a = a := by
  have := told_ascii a [] h
  simpa [told] using this

/-- The two characters between two texts of ASCII. -/
theorem told_dot_between (a b : List UInt8) (ha : ∀ c ∈ a, c.toNat < 128) (hb : ∀ c ∈ b, c.toNat < 128) : told (a ++ 194 :: 183 :: b) = a ++ 46 :: b := by
  rw [told_ascii a _ ha, told_dot, told_plain b hb]
theorem told_slash_between (a b : List UInt8) (ha : ∀ c ∈ a, c.toNat < 128) (hb : ∀ c ∈ b, c.toNat < 128) : told (a ++ 226 :: 136 :: 149 :: b) = a ++ 47 :: b := by
  rw [told_ascii a _ ha, told_slash, told_plain b hb]

end Go.Proofs.Ytfllliifkgpbkaa.Plain
