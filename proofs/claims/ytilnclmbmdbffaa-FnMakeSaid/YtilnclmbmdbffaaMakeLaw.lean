/-
  FnMake answers true for every token, and its argument reads behind the call as it read before. Conditions: none.
-/
import Derived.Test.YtilnclmbmdbffaaRows
import Derived.Test.YtilnclmbmdbffaaTold
import Derived.Test.YtilnclmbmdbffaaFits
import Derived.ProofKit
import Derived.OpenShut
import Derived.ShutString
import Derived.Lib.SmallJoins
import Derived.BigQuiet
import Derived.Deep.QuietTactic
import Derived.Deep.RegionHeld3
import Derived.SizedLaws
namespace Go.Proofs.Ytilnclmbmdbffaa.fnMake
open Go.Lib Go.RowKit Go.ChangeShapes Go.WideShapes Go.Joins
open Go.ChangeMaps (open_string shut_string)

set_option maxHeartbeats 1600000 in
theorem walk (t : Int) (s : ByteArray) (w : World) :
    Calls Try.prog 4 #[.agg #[.int .i64 t, .string s]] w fun e w' => e = .returned (.bool true) ∧ Below w.heap.size w w' := by
  by_cases h : 2147483647 < s.size
  · go_enter Try.func4, Try.ntmps4
    go_wp2_with fail
    refine (fits_no _ _ _ h).mono ?_
    rintro e w1 ⟨rfl, hb1⟩
    go_wp2
    go_ret
    exact ⟨rfl, ((Below.refl _ _).alloc (Nat.le_refl _) _).trans (hb1.mono (by simp))⟩
  · have h' : s.size ≤ 2147483647 := by omega
    go_enter Try.func4, Try.ntmps4
    go_wp2_with fail
    refine (fits_yes _ _ _ h').mono ?_
    rintro e w1 ⟨rfl, hb1⟩
    obtain ⟨c0, c1, hz, hB⟩ := box_facts hb1
    clear hb1
    by_cases h60 : 60 < s.size
    · have hd : decide ((60 : Int) < (s.size : Int)) = true := by simp; omega
      go_wp2_with fail
      go_quiet (fail)
      go_wp2
      go_ret
      exact ⟨rfl, below_drewN hB _⟩
    · have hd : decide ((60 : Int) < (s.size : Int)) = false := by simp; omega
      have hs : s.size ≤ 140737488351232 := by omega
      go_wp2_with fail
      go_region_held3 (fun w' => w'.cell? ⟨w.heap.size, 0, none⟩ = some (.int .i64 t) ∧ w'.cell? ⟨w.heap.size, 1, none⟩ = some (.string s) ∧ w.heap.size < w'.heap.size ∧ Below w.heap.size w w')
        (first | assumption | (go_split_ands; refine ⟨?_, ?_, ?_, ?_⟩ <;> first | assumption | exact Below.drew (by assumption)) | (go_keep; done))
        (first
          | (go_at_call 9; refine (boxed (W := w) (B := w.heap.size) (a := .int .i64 t) (b := .string s) (implMake_any t s _ hs) ?_).mono ?_; (assumption); rintro e w' ⟨rfl, hS⟩)
          | (go_at_call 10; refine (boxed (W := w) (B := w.heap.size) (a := .int .i64 t) (b := .string s) (told_any s _ hs) ?_).mono ?_; (assumption); rintro e w' ⟨rfl, hS⟩))
      go_wp2
      go_ret
      exact ⟨rfl, hS.2.2.2⟩

theorem own : ownKnob Try.prog.godebug = none := by kernel_rfl
theorem laidOut : laidOutB Try.prog = true := by kernel_rfl
theorem cellsTok : Try.prog.cellsOf 24 = 2 := by kernel_rfl

set_option maxRecDepth 100000 in
theorem lifted (os : Os) (started : os.Started) (H : Type) (enc : TypeId × Value → H) :
    ReturnsInHanded {} Try.checked os 4 .any (Rows.fnMakeSpec.pre6 enc Try.prog Try.f4 Rows.fnMakeRow.domain false) (Rows.fnMakeSpec.post enc Try.prog Try.f4 false true false false) := by
  refine returnsInHanded_of_change (C := Try.checked) own started (by kernel_rfl) Try.func4
    (ChangeSpec.witness6 (enc := enc) (C := Try.checked) false ⟨#[], #[.agg #[.int .i64 0, .string ByteArray.empty]], []⟩ 8 (by kernel_rfl) (by kernel_rfl) (by kernel_rfl) (by kernel_rfl)) ?_
  intro W base args ds gs before hval0 hW hcnd _
  have hval : ∀ (j : Nat) t v, Try.f4.params[j]? = some t → args[j]? = some v → Value.okWide Try.prog W .any base t v := hval0
  have hW' := hW
  obtain ⟨p, q, hA0, hV, rfl, hfz, hnd⟩ := hW
  have hA : DataW.TrodAll enc Try.prog W 0 (fun _ => true) true Try.f4.params.toList args.toList ds p := hA0
  rw [Try.params4] at hA hval
  obtain ⟨v0, vs0, d0, ds0, p0, q0, hargs, rfl, rfl, h0, r0⟩ := trodAll_cons hA
  obtain ⟨rfl, rfl, rfl⟩ := trodAll_nil r0
  obtain rfl : args = #[v0] := by cases args; simp_all
  obtain ⟨rfl, rfl⟩ := trodVars_none hV
  have h0k := h0
  obtain ⟨c0, c1, y0, y1, m, rfl, hd0, _, hy0, hy1⟩ := open_agg2 Try.underlying24 (by kernel_rfl) cellsTok (hval 0 24 v0 rfl rfl) h0
  obtain ⟨a, e0, _, wa⟩ := DataW.trod_int Try.underlying2 hy0
  obtain ⟨s, e1, _, ws⟩ := DataW.trod_string Try.underlying9 hy1
  simp only [List.cons.injEq, and_true] at e0 e1
  subst e0 e1
  clear hA0 hval0
  simp only [List.append_nil] at hW'
  have hlt : ∀ x ∈ p0, x.block < W.heap.size := fun x hx => by simpa using hW'.lt x hx
  refine (walk a s W).mono fun e W' ⟨he, hb⟩ => ?_
  subst he
  refine ⟨_, rfl, _, _, _, [], p0 ++ [], [], hW', ?_, ?_, rfl, hb.frame _, fun h => by cases h⟩
  · exact trodAll_cons_mk (shut_bool Try.underlying4 _) trodAll_mk0
  · exact trodAll_cons_mk (Below.trod laidOut (by kernel_rfl) (of_decide_eq_true (by kernel_rfl)) h0k hb hlt) trodAll_mk0

theorem over : Rows.fnMakeRow.holds Try.pinned (OpenSpec.ofChange Rows.fnMakeSpec) :=
  OpenClaim.holds_of_wide 4 Try.f4 rfl rfl rfl rfl rfl rfl rfl ⟨rfl, rfl, rfl, rfl, rfl⟩ rfl rfl rfl rfl rfl (by kernel_rfl) Try.func4 (by kernel_rfl)
    (of_decide_eq_true (by kernel_rfl)) (by unfold Func.isWrapper; first | (rw [if_pos (by decide +kernel)]; kernel_rfl) | (rw [if_neg (by decide +kernel)]; exact ⟨rfl, rfl⟩))
    (fun os started H enc _ => lifted os started H enc)

/-- The statement. -/
theorem proved : Rows.FnMakeSaid :=
  over
#print axioms proved
end Go.Proofs.Ytilnclmbmdbffaa.fnMake
