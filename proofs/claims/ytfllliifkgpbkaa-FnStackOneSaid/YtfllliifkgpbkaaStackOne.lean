/-
  FnStackOne answers true for every list of tokens, and its argument reads behind the call as it read before. Conditions: none.
-/
import Derived.Test.YtfllliifkgpbkaaRows
import Derived.Test.YtfllliifkgpbkaaReadStack
import Derived.Test.YtfllliifkgpbkaaUnplaced
import Derived.Test.YtfllliifkgpbkaaOpen
namespace Go.Proofs.Ytfllliifkgpbkaa.fnStackOne
open Go.Lib Go.RowKit

theorem readStack_one (b : Nat) (A : Option Addr) (n c : Nat) (ts : List Tk) (w : World) (hb : b < w.heap.size) (h0 : w.cell? ⟨b, 0, none⟩ = some (.slice A n c)) (h : Held w w.heap.size 2 A n (tkCells ts)) (hgood : GoodTks n ts) :
    Calls Try.prog 9 #[.slice (some ⟨b, 0, none⟩) 1 1] w (TkMade (n + 1) (mades ts ++ [endTk]) w) := by
  have hl : ts.length = n := by
    have := h.1
    rw [tkCells_len] at this
    omega
  have hL : Lists w w.heap.size (some ⟨b, 0, none⟩) 1 [⟨A, n, c, ts⟩] :=
    ⟨⟨rfl, fun _ => ⟨b, 0, rfl, hb, fun j u hu => by
      match j, hu with
      | 0, hu => simp [l1Val] at hu; subst hu; exact h0
      | j + 1, hu => simp at hu⟩⟩, fun l hl => by simp at hl; subst hl; exact h⟩
  have e1 : allOf [⟨A, n, c, ts⟩] = mades ts := by simp [allOf]
  have := readStack_any (some ⟨b, 0, none⟩) 1 1 [⟨A, n, c, ts⟩] w hL (by omega) (by omega) (fun l hl => by simp at hl; subst hl; exact hgood)
  rw [e1, mades_len, hl] at this
  exact this

theorem same_end (ts : List Tk) : kindsOf (bare (placed ts 1)) = mades ts ++ [endTk] := by
  simp [kindsOf, bare, placed, mades, endTk, ByteArray.empty, ByteArray.emptyWithCapacity]
  rfl

set_option maxRecDepth 100000 in
set_option maxHeartbeats 3200000 in
theorem walk (A : Option Addr) (n cap : Nat) (ts : List Tk) (w : World) (h : Held w w.heap.size 2 A n (tkCells ts)) (hn : n ≤ 9223372036854775807) :
    Calls Try.prog 4 #[.slice A n cap] w fun e w' => e = .returned (.bool true) ∧ Below w.heap.size w w' := by
  go_enter Try.func4, Try.ntmps4
  go_wp2_with fail
  refine (fits10_any A n cap ts w h).mono ?_
  rintro e w1 ⟨b1, _, rfl, s1⟩
  cases b1 with
  | false =>
    go_wp2
    go_ret
    exact ⟨rfl, s1⟩
  | true =>
  go_wp2_with fail
  refine (tokensOk_any A n cap ts w1 ((h.below s1).more s1.size) hn).mono ?_
  rintro e w2 ⟨b2, hg, rfl, s2'⟩
  have s2 := s1.trans (s2'.mono s1.size)
  clear s2' s1
  cases b2 with
  | false =>
    go_wp2
    go_ret
    exact ⟨rfl, s2⟩
  | true =>
  have hG : GoodTks n ts := hg rfl
  clear hg
  have hn60 : n ≤ 60 := hG.1
  have z2 := s2.size
  go_wp2_with fail
  have s2a := s2.alloc z2 (.cells #[.slice A n cap] 24)
  refine (readStack_one w2.heap.size A n cap ts _ (by simp) (new_cell w2 #[.slice A n cap] 24 0) ((h.below s2a).more s2a.size) hG).mono ?_
  rintro e w3 ⟨v3, rfl, own3, s3'⟩
  obtain ⟨A3, c3, rfl⟩ := own_form own3
  have s3 := s2a.trans (s3'.mono s2a.size)
  clear s3' s2a
  go_wp2_with fail
  refine (read_any A n cap ts 1 w3 ((h.below s3).more s3.size) hG).mono ?_
  rintro e w4 ⟨v4, rfl, own4, s4'⟩
  obtain ⟨A4, c4, rfl⟩ := own_form own4
  have s4 := s3.trans (s4'.mono s3.size)
  have own3b := own_below own3 s4'
  clear s4' s3 own3
  go_wp2_with fail
  refine (unplaced_any A4 (n + 1) c4 (placed ts 1) w4 (Held.of_own own4) (by omega)).mono ?_
  rintro e w5 ⟨v5, rfl, own5, s5'⟩
  obtain ⟨A5, c5, rfl⟩ := own_form own5
  have s5 := s4.trans (s5'.mono s4.size)
  have own3c := own_below own3b s5'
  clear s5' s4 own3b own4
  go_wp2_with fail
  refine (kinds_any A5 (n + 1) c5 (bare (placed ts 1)) w5 (Held.of_own own5) (by omega)).mono ?_
  rintro e w6 ⟨v6, rfl, own6, s6'⟩
  obtain ⟨A6, c6, rfl⟩ := own_form own6
  have s6 := s5.trans (s6'.mono s5.size)
  have own3d := own_below own3c s6'
  rw [same_end] at own6
  clear s6' s5 own3c own5
  go_wp2_with fail
  refine (same_yes A3 A6 (n + 1) c3 c6 (mades ts ++ [endTk]) w6 (Held.of_own own3d) (Held.of_own own6) (by omega)).mono ?_
  rintro e w7 ⟨rfl, s7'⟩
  have s7 := s6.trans (s7'.mono s6.size)
  go_wp2
  go_ret
  exact ⟨rfl, s7⟩

theorem own : ownKnob Try.prog.godebug = none := by kernel_rfl
theorem laidOut : laidOutB Try.prog = true := by kernel_rfl

open Go.ChangeShapes Go.WideShapes in
set_option maxRecDepth 100000 in
theorem lifted (os : Os) (started : os.Started) (H : Type) (enc : TypeId × Value → H) :
    ReturnsInHanded {} Try.checked os 4 .any (Rows.fnStackOneSpec.pre6 enc Try.prog Try.f4 Rows.fnStackOneRow.domain false) (Rows.fnStackOneSpec.post enc Try.prog Try.f4 false true false false) := by
  refine returnsInHanded_of_change (C := Try.checked) own started (by kernel_rfl) Try.func4
    (ChangeSpec.witness6 (enc := enc) (C := Try.checked) false ⟨#[], #[.slice none 0 0], []⟩ 8 (by kernel_rfl) (by kernel_rfl) (by kernel_rfl) (by kernel_rfl)) ?_
  intro W base args ds gs before hval0 hW hcnd _
  have hval : ∀ (j : Nat) t v, Try.f4.params[j]? = some t → args[j]? = some v → Value.okWide Try.prog W .any base t v := hval0
  have hW' := hW
  obtain ⟨p, q, hA0, hV, rfl, hfz, hnd⟩ := hW
  have hA : DataW.TrodAll enc Try.prog W 0 (fun _ => true) true Try.f4.params.toList args.toList ds p := hA0
  rw [Try.params4] at hA hval
  obtain ⟨v0, vs0, d0, ds0, p0, q0, hargs, rfl, rfl, h0, r0⟩ := trodAll_cons hA
  obtain ⟨rfl, rfl, rfl⟩ := trodAll_nil r0
  obtain rfl : args = #[v0] := by cases args; simp_all
  obtain ⟨rfl, rfl⟩ := trodVars_none hV
  have h0k := h0
  obtain ⟨A, n, cap, ts, rfl, hn, hts⟩ := open_toks (hval 0 24 v0 rfl rfl) h0
  clear hA0 hval0
  simp only [List.append_nil] at hW'
  have hlt : ∀ x ∈ p0, x.block < W.heap.size := fun x hx => by simpa using hW'.lt x hx
  refine (walk A n cap ts W hts hn).mono fun e W' ⟨he, hb⟩ => ?_
  subst he
  refine ⟨_, rfl, _, _, _, [], p0 ++ [], [], hW', ?_, ?_, rfl, hb.frame _, fun h => by cases h⟩
  · exact trodAll_cons_mk (shut_bool Try.underlying4 _) trodAll_mk0
  · exact trodAll_cons_mk (Below.trod laidOut (by kernel_rfl) (of_decide_eq_true (by kernel_rfl)) h0k hb hlt) trodAll_mk0

theorem over : Rows.fnStackOneRow.holds Try.pinned (OpenSpec.ofChange Rows.fnStackOneSpec) :=
  OpenClaim.holds_of_wide 4 Try.f4 rfl rfl rfl rfl rfl rfl rfl ⟨rfl, rfl, rfl, rfl, rfl⟩ rfl rfl rfl rfl rfl (by kernel_rfl) Try.func4 (by kernel_rfl)
    (of_decide_eq_true (by kernel_rfl)) (by unfold Func.isWrapper; first | (rw [if_pos (by decide +kernel)]; kernel_rfl) | (rw [if_neg (by decide +kernel)]; exact ⟨rfl, rfl⟩))
    (fun os started H enc _ => lifted os started H enc)

/-- The statement. -/
theorem proved : Rows.FnStackOneSaid :=
  over
#print axioms proved
end Go.Proofs.Ytfllliifkgpbkaa.fnStackOne
