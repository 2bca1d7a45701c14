/-
  FnSliceJoin answers true for every two lists of tokens and every line, and its arguments read behind the call as they read before. Conditions: none.
-/
import Derived.Test.YtdejmhikmekadaaRows
import Derived.Test.YtdejmhikmekadaaRead
import Derived.Test.YtdejmhikmekadaaApp
import Derived.Test.YtdejmhikmekadaaSame
import Derived.Test.YtdejmhikmekadaaOpen
import Derived.Deep.RegionHeld3
namespace Go.Proofs.Ytdejmhikmekadaa.fnSliceJoin
open Go.Lib Go.RowKit

/-- spec.Kinds, called of a row that was there in an earlier world. -/
def KindsIn (w7 wx : World) (n : Nat) (ts : List Tk) (e : Ending) (w' : World) : Prop :=
  ∃ v, e = .returned v ∧ w'.ownsRow wx.heap.size 29 2 v n (tkCells ts) ∧ Below wx.heap.size wx w' ∧ Below w7.heap.size w7 w'

theorem kinds_in {w7 wx : World} (A : Option Addr) (n ca : Nat) (ps : List Pl) (h : Held w7 w7.heap.size 3 A n (plCells ps)) (hn : n ≤ 1099511627776) (hS : Below w7.heap.size w7 wx) :
    Calls Try.prog 10 #[.slice A n ca] wx (KindsIn w7 wx n (kindsOf ps)) :=
  (kinds_any A n ca ps wx ((h.below hS).more hS.size) hn).mono fun _ _ ⟨v, he, ho, hb⟩ => ⟨v, he, ho, hb, hS.trans (hb.mono hS.size)⟩

theorem good_append {n m : Nat} {ta tb : List Tk} (ha : GoodTks n ta) (hb : GoodTks m tb) (h : n + m ≤ 60) : GoodTks (n + m) (ta ++ tb) :=
  ⟨h, fun t ht => (List.mem_append.1 ht).elim (ha.2 t) (hb.2 t)⟩

theorem kinds_join (ta tb : List Tk) (L : Int) : kindsOf (placed (ta ++ tb) L) = kindsOf ((placed ta L).take ta.length) ++ kindsOf (placed tb L) := by
  unfold placed kindsOf
  rw [List.take_left' (by simp)]
  simp

/-- An older row lies apart from one that was made later. -/
theorem own_apart {wx wy : World} {b : Nat} {e e' : TypeId} {size size' n n' : Nat} {v v' : Value} {xs xs' : List Value} (h : wx.ownsRow b e size v n xs) (h' : wy.ownsRow wx.heap.size e' size' v' n' xs') :
    v.ownBlock = none ∨ v.ownBlock ≠ v'.ownBlock := by
  cases hv : v.ownBlock with
  | none => exact .inl rfl
  | some k =>
    refine .inr fun he => ?_
    have h1 := (h.lt k hv).2
    have h2 := (h'.lt k he.symm).1
    omega

set_option maxRecDepth 100000 in
set_option maxHeartbeats 6400000 in
theorem walk (A : Option Addr) (n cap : Nat) (ta : List Tk) (B : Option Addr) (m cbp : Nat) (tb : List Tk) (L : Int) (w : World) (hA : Held w w.heap.size 2 A n (tkCells ta)) (hB : Held w w.heap.size 2 B m (tkCells tb))
    (hn : n ≤ 9223372036854775807) (hm : m ≤ 9223372036854775807) :
    Calls Try.prog 4 #[.slice A n cap, .slice B m cbp, .int .i64 L] w fun e w' => e = .returned (.bool true) ∧ Below w.heap.size w w' := by
  obtain ⟨i0, hi, hz0, hz1, hz2⟩ := info_parts Try.infoTk
  go_enter Try.func4, Try.ntmps4
  go_wp2_with fail
  refine (fits10_any A n cap ta w hA).mono ?_
  rintro e w1 ⟨b1, _, rfl, s1⟩
  cases b1 with
  | false =>
    go_wp2
    go_ret
    exact ⟨rfl, s1⟩
  | true =>
  go_wp2_with fail
  refine (fits10_any B m cbp tb w1 ((hB.below s1).more s1.size)).mono ?_
  rintro e w2 ⟨b2, _, rfl, s2'⟩
  have s2 := s1.trans (s2'.mono s1.size)
  clear s2' s1
  cases b2 with
  | false =>
    go_wp2
    go_ret
    exact ⟨rfl, s2⟩
  | true =>
  go_wp2_with fail
  refine (tokensOk_any A n cap ta w2 ((hA.below s2).more s2.size) hn).mono ?_
  rintro e w3 ⟨b3, hga, rfl, s3'⟩
  have s3 := s2.trans (s3'.mono s2.size)
  clear s3' s2
  cases b3 with
  | false =>
    go_wp2
    go_ret
    exact ⟨rfl, s3⟩
  | true =>
  have gA : GoodTks n ta := hga rfl
  clear hga
  go_wp2_with fail
  refine (tokensOk_any B m cbp tb w3 ((hB.below s3).more s3.size) hm).mono ?_
  rintro e w4 ⟨b4, hgb, rfl, s4'⟩
  have s4 := s3.trans (s4'.mono s3.size)
  clear s4' s3
  cases b4 with
  | false =>
    go_wp2
    go_ret
    exact ⟨rfl, s4⟩
  | true =>
  have gB : GoodTks m tb := hgb rfl
  clear hgb
  have hn60 : n ≤ 60 := gA.1
  have hm60 : m ≤ 60 := gB.1
  by_cases hn30 : 30 < n
  · go_wp2
    go_ret
    exact ⟨rfl, s4⟩
  by_cases hm30 : 30 < m
  · go_wp2
    go_ret
    exact ⟨rfl, s4⟩
  by_cases hL1 : L < 1
  · go_wp2
    go_ret
    exact ⟨rfl, s4⟩
  by_cases hL2 : 1000000 < L
  · go_wp2
    go_ret
    exact ⟨rfl, s4⟩
  have z4 := s4.size
  have la : Hid (ta.length = n) := by
    have := hA.1
    rw [tkCells_len] at this
    exact (by omega : ta.length = n)
  have lb : Hid (tb.length = m) := by
    have := hB.1
    rw [tkCells_len] at this
    exact (by omega : tb.length = m)
  have hA4 : Held (w4.alloc (.cells #[] 29)) w.heap.size 2 A n (tkCells ta) := hA.below (s4.alloc z4 _)
  have own0 : (w4.alloc (.cells #[] 29)).ownsRow w4.heap.size 29 2 (.slice (some ⟨w4.heap.size, 0, none⟩) 0 0) 0 [] := World.ownsRow_made _ _ _ (Nat.le_refl _) (by decide) rfl
  go_wp2_with (first
    | (at_builtin; refine wpList_append_held _ rfl (.tmp 44) (.tmp 45) 22 rfl w4.heap.size 29 i0 (.agg #[.int .i64 0, .string { data := #[] }]) 2 24 Try.underlying22 hi hz0 hz1 hz2 rfl (by decide) _ _ _ rfl own0 w.heap.size A n cap (tkCells ta) rfl hA4 (tkCells_one ta) (by unfold maxLen; omega) (by omega) (by simp) ?_; intro v5 w5 own5 grow5; have s5 := (s4.alloc z4 _).grown grow5 (by simp; omega) (fun j hj => Nat.le_trans z4 (own0.lt j hj).1); have z5 := s5.size; have q5 := ((Below.refl w4.heap.size w4).alloc (Nat.le_refl _) (.cells #[] 29)).grown grow5 (by simp) (fun j hj => (own0.lt j hj).1); have y5 := q5.size)
    | (at_builtin; refine wpList_append_held _ rfl (.tmp 46) (.tmp 47) 22 rfl w4.heap.size 29 i0 (.agg #[.int .i64 0, .string { data := #[] }]) 2 24 Try.underlying22 hi hz0 hz1 hz2 rfl (by decide) _ _ _ rfl own5 w.heap.size B m cbp (tkCells tb) rfl (hB.below s5) (tkCells_one tb) (by unfold maxLen; omega) (by omega) (by omega) ?_; intro v6 w6 own6 grow6; have s6 := s5.grown grow6 z5 (fun j hj => Nat.le_trans z4 (own5.lt j hj).1))
    | fail)
  simp only [Nat.zero_add, List.nil_append, ← tkCells_append] at own6
  obtain ⟨A6, c6, rfl⟩ := own_form own6
  have gAB := good_append gA gB (by omega)
  have z6 := s6.size
  clear own0 own5 grow5 grow6 q5 s5 s4 hA4
  refine (read_any A6 (n + m) c6 (ta ++ tb) L w6 (Held.of_own own6) gAB).mono ?_
  rintro e w7 ⟨v7, rfl, own7, s7'⟩
  obtain ⟨A7, c7, rfl⟩ := own_form own7
  have s7 := s6.trans (s7'.mono z6)
  clear s7' s6 own6
  go_wp2_with fail
  refine (read_any A n cap ta L w7 ((hA.below s7).more s7.size) gA).mono ?_
  rintro e w8 ⟨v8, rfl, own8, s8'⟩
  obtain ⟨A8, c8, rfl⟩ := own_form own8
  have s8 := s7.trans (s8'.mono s7.size)
  have own7b := own_below own7 s8'
  clear s8' s7 own7
  go_wp2_with fail
  refine (read_any B m cbp tb L w8 ((hB.below s8).more s8.size) gB).mono ?_
  rintro e w9 ⟨v9, rfl, own9, s9'⟩
  obtain ⟨A9, c9, rfl⟩ := own_form own9
  have s9 := s8.trans (s9'.mono s8.size)
  have own8b := own_below own8 s9'
  have own7c := own_below own7b s9'
  clear s9' s8 own8 own7b
  have H7 := Held.of_own own7c
  have H8 := (Held.of_own own8b).front (k := n) (by omega)
  rw [plCells_take] at H8
  have H9 := Held.of_own own9
  have hc8 := own_cap own8b
  have hi0 : (0 : Int) ≤ (n : Int) := Int.natCast_nonneg _
  have hi1 : (n : Int) ≤ (c8 : Int) := by omega
  have z9 := s9.size
  have hj := kinds_join ta tb L
  rw [la.out] at hj
  have HJ := Lib.hid hj
  clear hj own7c own8b own9
  have hn7 : n + m + 1 ≤ 1099511627776 := by omega
  have hn8 : n ≤ 1099511627776 := by omega
  have hn9 : m + 1 ≤ 1099511627776 := by omega
  go_wp2_with fail
  go_region_held3 (fun w' => Below w9.heap.size w9 w')
    (first | assumption | exact (Below.refl _ _).drew)
    (first
      | (go_at_call 10; ((with_reducible refine (kinds_in (w7 := w9) A7 (n + m + 1) c7 (placed (ta ++ tb) L) H7 hn7 ?_).mono ?_); (assumption); rintro e wa ⟨ka, rfl, owna, ba, sa⟩; obtain ⟨Aa, ca, rfl⟩ := own_form owna))
      | (go_at_call 10; ((with_reducible refine (kinds_in (w7 := w9) A8 n c8 ((placed ta L).take n) H8 hn8 ?_).mono ?_); (assumption); rintro e wb ⟨kb, rfl, ownb, bb, sb⟩))
      | (go_at_call 10; ((with_reducible refine (kinds_in (w7 := w9) A9 (m + 1) c9 (placed tb L) H9 hn9 ?_).mono ?_); (assumption); rintro e wc ⟨kc, rfl, ownc, bc, sc⟩; obtain ⟨Ac, cc, rfl⟩ := own_form ownc))
      | (refine step_append_held _ (by rfl) _ _ _ (by rfl) wa.heap.size 29 i0 (.agg #[.int .i64 0, .string { data := #[] }]) 2 24 Try.underlying22 hi hz0 hz1 hz2 rfl (by decide) kb n (tkCells (kindsOf ((placed ta L).take n))) (by rfl) (own_below ownb bc) wc.heap.size Ac (m + 1) cc (tkCells (kindsOf (placed tb L))) (by rfl) (Held.of_own ownc) (tkCells_one _) (by unfold maxLen; omega) (by omega) (Nat.le_trans bb.size bc.size) ?_; intro vd wd ownd growd; rw [← tkCells_append, ← HJ.out, show n + (m + 1) = n + m + 1 from rfl] at ownd; obtain ⟨Ad, cd, rfl⟩ := own_form ownd; have sd := sc.grown growd sc.size (fun j hj => Nat.le_trans sa.size (ownb.lt j hj).1))
      | (go_at_call 9; refine (same_yes Aa Ad (n + m + 1) ca cd (kindsOf (placed (ta ++ tb) L)) wd ?_ (Held.of_own ownd) hn7).mono ?_; exact (Held.of_own ((own_below (own_below owna bb) bc).kept growd (own_apart owna ownb))); rintro e we ⟨rfl, be⟩; have se := sd.trans (be.mono sd.size)))
  go_wp2
  go_ret
  exact ⟨rfl, s9.trans (se.mono z9)⟩

theorem own : ownKnob Try.prog.godebug = none := by kernel_rfl
theorem laidOut : laidOutB Try.prog = true := by kernel_rfl

open Go.ChangeShapes Go.WideShapes in
set_option maxRecDepth 100000 in
theorem lifted (os : Os) (started : os.Started) (H : Type) (enc : TypeId × Value → H) :
    ReturnsInHanded {} Try.checked os 4 .any (Rows.fnSliceJoinSpec.pre6 enc Try.prog Try.f4 Rows.fnSliceJoinRow.domain false) (Rows.fnSliceJoinSpec.post enc Try.prog Try.f4 false true false false) := by
  refine returnsInHanded_of_change (C := Try.checked) own started (by kernel_rfl) Try.func4
    (ChangeSpec.witness6 (enc := enc) (C := Try.checked) false ⟨#[], #[.slice none 0 0, .slice none 0 0, .int .i64 0], []⟩ 8 (by kernel_rfl) (by kernel_rfl) (by kernel_rfl) (by kernel_rfl)) ?_
  intro W base args ds gs before hval0 hW hcnd _
  have hval : ∀ (j : Nat) t v, Try.f4.params[j]? = some t → args[j]? = some v → Value.okWide Try.prog W .any base t v := hval0
  have hW' := hW
  obtain ⟨p, q, hA0, hV, rfl, hfz, hnd⟩ := hW
  have hA : DataW.TrodAll enc Try.prog W 0 (fun _ => true) true Try.f4.params.toList args.toList ds p := hA0
  rw [Try.params4] at hA hval
  obtain ⟨v0, vs0, d0, ds0, p0, q0, hargs, rfl, rfl, h0, r0⟩ := trodAll_cons hA
  obtain ⟨v1, vs1, d1, ds1, p1, q1, rfl, rfl, rfl, h1, r1⟩ := trodAll_cons r0
  obtain ⟨v2, vs2, d2, ds2, p2, q2, rfl, rfl, rfl, h2, r2⟩ := trodAll_cons r1
  obtain ⟨rfl, rfl, rfl⟩ := trodAll_nil r2
  obtain rfl : args = #[v0, v1, v2] := by cases args; simp_all
  obtain ⟨rfl, rfl⟩ := trodVars_none hV
  have h0k := h0
  have h1k := h1
  obtain ⟨A, n, cap, ta, rfl, hn, hta⟩ := open_toks (hval 0 22 v0 rfl rfl) h0
  obtain ⟨B, m, cb, tb, rfl, hm, htb⟩ := open_toks (hval 1 22 v1 rfl rfl) h1
  obtain ⟨L, rfl, rfl, rfl, wL⟩ := open_int Try.underlying3 (hval 2 3 v2 rfl rfl) h2
  clear hA0 hval0
  simp only [List.append_nil] at hW'
  have hlt0 : ∀ x ∈ p0, x.block < W.heap.size := fun x hx => hW'.lt x (List.mem_append_left _ hx)
  have hlt1 : ∀ x ∈ p1, x.block < W.heap.size := fun x hx => hW'.lt x (List.mem_append_right _ hx)
  refine (walk A n cap ta B m cb tb L W hta htb hn hm).mono fun e W' ⟨he, hb⟩ => ?_
  subst he
  refine ⟨_, rfl, _, _, _, [], p0 ++ (p1 ++ []), [], hW', ?_, ?_, rfl, hb.frame _, fun h => by cases h⟩
  · exact trodAll_cons_mk (shut_bool Try.underlying4 _) trodAll_mk0
  · exact trodAll_cons_mk (Below.trod laidOut (by kernel_rfl) (of_decide_eq_true (by kernel_rfl)) h0k hb hlt0) (trodAll_cons_mk (Below.trod laidOut (by kernel_rfl) (of_decide_eq_true (by kernel_rfl)) h1k hb hlt1) (trodAll_cons_mk (shut_int Try.underlying3 wL) trodAll_mk0))

theorem over : Rows.fnSliceJoinRow.holds Try.pinned (OpenSpec.ofChange Rows.fnSliceJoinSpec) :=
  OpenClaim.holds_of_wide 4 Try.f4 rfl rfl rfl rfl rfl rfl rfl ⟨rfl, rfl, rfl, rfl, rfl⟩ rfl rfl rfl rfl rfl (by kernel_rfl) Try.func4 (by kernel_rfl)
    (of_decide_eq_true (by kernel_rfl)) (by unfold Func.isWrapper; first | (rw [if_pos (by decide +kernel)]; kernel_rfl) | (rw [if_neg (by decide +kernel)]; exact ⟨rfl, rfl⟩))
    (fun os started H enc _ => lifted os started H enc)

/-- The statement. -/
theorem proved : Rows.FnSliceJoinSaid :=
  over
#print axioms proved
end Go.Proofs.Ytdejmhikmekadaa.fnSliceJoin
