/-
  FnSlice answers true for every list of tokens and every line, and its arguments read behind the call as they read before. Conditions: none.
-/
import Derived.Test.YtdejmhikmekadaaRows
import Derived.Test.YtdejmhikmekadaaRead
import Derived.Test.YtdejmhikmekadaaTold
import Derived.Test.YtdejmhikmekadaaOpen
import Derived.Deep.RegionHeld3
namespace Go.Proofs.Ytdejmhikmekadaa.fnSlice
open Go.Lib Go.RowKit

/-- Rows of what is read, at plain addresses. -/
def PlAt (w : World) (b off : Nat) (ps : List Pl) : Prop :=
  ∀ k p, ps[k]? = some p → w.cell? ⟨b, off + k * 3, none⟩ = some (.int .i64 p.1) ∧ w.cell? ⟨b, off + k * 3 + 1, none⟩ = some (.string p.2.1) ∧ w.cell? ⟨b, off + k * 3 + 2, none⟩ = some (.int .i64 p.2.2)

theorem plAt_of {w : World} {B n : Nat} {A : Option Addr} {ps : List Pl} (h : Held w B 3 A n (plCells ps)) (hn : 0 < n) : ∃ b off, A = some ⟨b, off, none⟩ ∧ b < B ∧ PlAt w b off ps := by
  obtain ⟨b, off, e, hb, hc⟩ := h.2 hn
  refine ⟨b, off, e, hb, fun k p hp => ?_⟩
  have hg := plCells_get hp
  exact ⟨hc _ _ hg.1, by have := hc _ _ hg.2.1; rwa [← Nat.add_assoc] at this, by have := hc _ _ hg.2.2; rwa [← Nat.add_assoc] at this⟩

theorem PlAt.below {w w' : World} {B b off : Nat} {ps : List Pl} (h : PlAt w b off ps) (hb : Below B w w') (hB : b < B) : PlAt w' b off ps := fun k p hp => by
  obtain ⟨h0, h1, h2⟩ := h k p hp
  exact ⟨(hb.cell (p := ⟨b, off + k * 3, none⟩) hB).trans h0, (hb.cell (p := ⟨b, off + k * 3 + 1, none⟩) hB).trans h1, (hb.cell (p := ⟨b, off + k * 3 + 2, none⟩) hB).trans h2⟩

/-- A call that turns nothing that was there, said with five cells. -/
theorem five {P : Program} {f : FuncId} {args : Array Value} {v u0 u1 u2 u3 u4 : Value} {W wx : World} {a0 a1 a2 a3 a4 : Addr} (c : Calls P f args wx fun e w' => e = .returned v ∧ Below wx.heap.size wx w')
    (h : wx.cell? a0 = some u0 ∧ wx.cell? a1 = some u1 ∧ wx.cell? a2 = some u2 ∧ wx.cell? a3 = some u3 ∧ wx.cell? a4 = some u4 ∧ Below W.heap.size W wx) :
    Calls P f args wx fun e w' => e = .returned v ∧ w'.cell? a0 = some u0 ∧ w'.cell? a1 = some u1 ∧ w'.cell? a2 = some u2 ∧ w'.cell? a3 = some u3 ∧ w'.cell? a4 = some u4 ∧ Below W.heap.size W w' :=
  let ⟨h0, h1, h2, h3, h4, h5⟩ := h
  c.mono fun _ _ ⟨he, hb⟩ => ⟨he, (hb.cell (World.block_lt_of_cell? wx a0 h0)).trans h0, (hb.cell (World.block_lt_of_cell? wx a1 h1)).trans h1, (hb.cell (World.block_lt_of_cell? wx a2 h2)).trans h2,
    (hb.cell (World.block_lt_of_cell? wx a3 h3)).trans h3, (hb.cell (World.block_lt_of_cell? wx a4 h4)).trans h4, h5.trans (hb.mono h5.size)⟩

set_option maxRecDepth 100000 in
set_option maxHeartbeats 3200000 in
theorem walk (A : Option Addr) (n cap : Nat) (ts : List Tk) (L : Int) (w : World) (h : Held w w.heap.size 2 A n (tkCells ts)) (hn : n ≤ 9223372036854775807) :
    Calls Try.prog 3 #[.slice A n cap, .int .i64 L] w fun e w' => e = .returned (.bool true) ∧ Below w.heap.size w w' := by
  go_enter Try.func3, Try.ntmps3
  go_wp2_with fail
  refine (fits10_any A n cap ts w h).mono ?_
  rintro e w1 ⟨b1, _, rfl, hB1⟩
  cases b1 with
  | false =>
    go_wp2
    go_ret
    exact ⟨rfl, hB1⟩
  | true =>
    go_wp2_with fail
    refine (tokensOk_any A n cap ts w1 ((h.below hB1).more hB1.size) hn).mono ?_
    rintro e w2 ⟨b2, hgood, rfl, hB2'⟩
    have hB2 := hB1.trans (hB2'.mono hB1.size)
    clear hB1 hB2'
    cases b2 with
    | false =>
      go_wp2
      go_ret
      exact ⟨rfl, hB2⟩
    | true =>
      have hG : GoodTks n ts := hgood rfl
      clear hgood
      have hn60 : n ≤ 60 := hG.1
      by_cases hL1 : L < 1
      · go_wp2
        go_ret
        exact ⟨rfl, hB2⟩
      by_cases hL2 : 1000000 < L
      · go_wp2
        go_ret
        exact ⟨rfl, hB2⟩
      have hbs2 := hB2.size
      go_wp2_with fail
      refine (read_any A n cap ts L w2 ((h.below hB2).more hB2.size) hG).mono ?_
      rintro e w3 ⟨v, rfl, hown, hB3'⟩
      obtain ⟨A', c', rfl⟩ := own_form hown
      obtain ⟨b, off, rfl, hbl, hpl⟩ := plAt_of (Held.of_own hown) (by omega)
      have hB3 := hB2.trans (hB3'.mono hbs2)
      have hbs3 := hB3.size
      have hlen : Hid (ts.length = n) := by
        have := h.1
        rw [tkCells_len] at this
        exact (by omega : ts.length = n)
      obtain ⟨e0, _, _⟩ := hpl n (-1, ByteArray.empty, 0) (by rw [← hlen.out]; exact placed_end ts L)
      simp only at e0
      have HPL := Lib.hid hpl
      clear hpl hown hB3' hB2
      go_wp2
      go_loopw [42] (fun i wr => ∃ k : Nat, k ≤ n ∧ i = .int .i64 k ∧ Below w3.heap.size w3 wr) (fun i _ => n - (intOf i).toNat)
      case atStart => exact ⟨0, Nat.zero_le _, rfl, Below.refl _ _⟩
      case round =>
        obtain ⟨k, hk, rfl, hb⟩ := hrel
        have hbs := hb.size
        by_cases hlt : k < n
        · obtain ⟨bt, ot, ⟨t, s⟩, rfl, hbb, ht, c0, c1⟩ := ((h.below hB3).below (hb.mono hbs3)).tk hlt
          obtain ⟨_, _, _, hs⟩ := hG.2 (t, s) (List.mem_of_getElem? ht)
          obtain ⟨p0, p1, p2⟩ := (HPL.out.below hb hbl) k _ (placed_get ht)
          have HT := Lib.hid ht
          clear ht e0
          simp only at c0 c1 p0 p1 p2 hs
          have hs' : s.size ≤ 140737488351232 := by omega
          have hi0 : (0 : Int) ≤ (k : Int) := Int.natCast_nonneg _
          have hi1 : (k : Int) < ((n + 1 : Nat) : Int) := by omega
          have hi2 : (k : Int) < (n : Int) + 1 := by omega
          go_wp2_with fail
          have hz : Below w3.heap.size w3 (wr.alloc (.cells #[.int .i64 t, .string s] 29)) := hb.alloc hbs _
          have d0 := new_cell wr #[.int .i64 t, .string s] 29 0
          have d1 := new_cell wr #[.int .i64 t, .string s] 29 1
          have x0 : (wr.alloc (.cells #[.int .i64 t, .string s] 29)).cell? ⟨b, off + k * 3, none⟩ = some (.int .i64 t) := (World.cell?_alloc_lt _ _ _ (by show b < _; omega)).trans p0
          have x1 : (wr.alloc (.cells #[.int .i64 t, .string s] 29)).cell? ⟨b, off + k * 3 + 1, none⟩ = some (.string (toldOf s)) := (World.cell?_alloc_lt _ _ _ (by show b < _; omega)).trans p1
          have x2 : (wr.alloc (.cells #[.int .i64 t, .string s] 29)).cell? ⟨b, off + k * 3 + 2, none⟩ = some (.int .i64 L) := (World.cell?_alloc_lt _ _ _ (by show b < _; omega)).trans p2
          have hA : (wr.alloc (.cells #[.int .i64 t, .string s] 29)).cell? ⟨wr.heap.size, 0, none⟩ = some (.int .i64 t) := d0
          have hA1 : (wr.alloc (.cells #[.int .i64 t, .string s] 29)).cell? ⟨wr.heap.size, 1, none⟩ = some (.string s) := d1
          clear d0 d1 p0 p1 p2 c0 c1
          generalize hwx : wr.alloc (.cells #[.int .i64 t, .string s] 29) = wx at *
          clear hwx
          go_region_held3 (fun w' => w'.cell? ⟨b, off + k * 3, none⟩ = some (.int .i64 t) ∧ w'.cell? ⟨b, off + k * 3 + 1, none⟩ = some (.string (toldOf s)) ∧ w'.cell? ⟨b, off + k * 3 + 2, none⟩ = some (.int .i64 L) ∧
              w'.cell? ⟨wr.heap.size, 0, none⟩ = some (.int .i64 t) ∧ w'.cell? ⟨wr.heap.size, 1, none⟩ = some (.string s) ∧ Below w3.heap.size w3 w')
            (first | assumption | (go_split_ands; refine ⟨?_, ?_, ?_, ?_, ?_, ?_⟩ <;> first | assumption | exact Below.drew (by assumption)))
            (first
              | (go_at_call 8; refine (five (W := w3) (a0 := ⟨b, off + k * 3, none⟩) (a1 := ⟨b, off + k * 3 + 1, none⟩) (a2 := ⟨b, off + k * 3 + 2, none⟩) (a3 := ⟨wr.heap.size, 0, none⟩) (a4 := ⟨wr.heap.size, 1, none⟩) (u0 := .int .i64 t) (u1 := .string (toldOf s)) (u2 := .int .i64 L) (u3 := .int .i64 t) (u4 := .string s) (told_any s _ hs') ?_).mono ?_; (assumption); rintro e w' ⟨rfl, hS⟩))
          go_wp2
          go_roundw
          case rel => exact ⟨k + 1, by omega, by go_num, hS.2.2.2.2.2⟩
          case measure => simp [intOf]; omega
        · have hge : n ≤ k := by omega
          go_wp2
          go_ret
          exact ⟨rfl, hB3.trans (hb.mono hbs3)⟩

theorem own : ownKnob Try.prog.godebug = none := by kernel_rfl
theorem laidOut : laidOutB Try.prog = true := by kernel_rfl

open Go.ChangeShapes Go.WideShapes in
set_option maxRecDepth 100000 in
theorem lifted (os : Os) (started : os.Started) (H : Type) (enc : TypeId × Value → H) :
    ReturnsInHanded {} Try.checked os 3 .any (Rows.fnSliceSpec.pre6 enc Try.prog Try.f3 Rows.fnSliceRow.domain false) (Rows.fnSliceSpec.post enc Try.prog Try.f3 false true false false) := by
  refine returnsInHanded_of_change (C := Try.checked) own started (by kernel_rfl) Try.func3
    (ChangeSpec.witness6 (enc := enc) (C := Try.checked) false ⟨#[], #[.slice none 0 0, .int .i64 0], []⟩ 8 (by kernel_rfl) (by kernel_rfl) (by kernel_rfl) (by kernel_rfl)) ?_
  intro W base args ds gs before hval0 hW hcnd _
  have hval : ∀ (j : Nat) t v, Try.f3.params[j]? = some t → args[j]? = some v → Value.okWide Try.prog W .any base t v := hval0
  have hW' := hW
  obtain ⟨p, q, hA0, hV, rfl, hfz, hnd⟩ := hW
  have hA : DataW.TrodAll enc Try.prog W 0 (fun _ => true) true Try.f3.params.toList args.toList ds p := hA0
  rw [Try.params3] at hA hval
  obtain ⟨v0, vs0, d0, ds0, p0, q0, hargs, rfl, rfl, h0, r0⟩ := trodAll_cons hA
  obtain ⟨v1, vs1, d1, ds1, p1, q1, rfl, rfl, rfl, h1, r1⟩ := trodAll_cons r0
  obtain ⟨rfl, rfl, rfl⟩ := trodAll_nil r1
  obtain rfl : args = #[v0, v1] := by cases args; simp_all
  obtain ⟨rfl, rfl⟩ := trodVars_none hV
  have h0k := h0
  obtain ⟨A, n, cap, ts, rfl, hn, hts⟩ := open_toks (hval 0 22 v0 rfl rfl) h0
  obtain ⟨L, rfl, rfl, rfl, wL⟩ := open_int Try.underlying3 (hval 1 3 v1 rfl rfl) h1
  clear hA0 hval0
  simp only [List.append_nil] at hW'
  have hlt : ∀ x ∈ p0, x.block < W.heap.size := fun x hx => by simpa using hW'.lt x hx
  refine (walk A n cap ts L W hts hn).mono fun e W' ⟨he, hb⟩ => ?_
  subst he
  refine ⟨_, rfl, _, _, _, [], p0 ++ [], [], hW', ?_, ?_, rfl, hb.frame _, fun h => by cases h⟩
  · exact trodAll_cons_mk (shut_bool Try.underlying4 _) trodAll_mk0
  · exact trodAll_cons_mk (Below.trod laidOut (by kernel_rfl) (of_decide_eq_true (by kernel_rfl)) h0k hb hlt) (trodAll_cons_mk (shut_int Try.underlying3 wL) trodAll_mk0)

theorem over : Rows.fnSliceRow.holds Try.pinned (OpenSpec.ofChange Rows.fnSliceSpec) :=
  OpenClaim.holds_of_wide 3 Try.f3 rfl rfl rfl rfl rfl rfl rfl ⟨rfl, rfl, rfl, rfl, rfl⟩ rfl rfl rfl rfl rfl (by kernel_rfl) Try.func3 (by kernel_rfl)
    (of_decide_eq_true (by kernel_rfl)) (by unfold Func.isWrapper; first | (rw [if_pos (by decide +kernel)]; kernel_rfl) | (rw [if_neg (by decide +kernel)]; exact ⟨rfl, rfl⟩))
    (fun os started H enc _ => lifted os started H enc)

/-- The statement. -/
theorem proved : Rows.FnSliceSaid :=
  over
#print axioms proved
end Go.Proofs.Ytdejmhikmekadaa.fnSlice
