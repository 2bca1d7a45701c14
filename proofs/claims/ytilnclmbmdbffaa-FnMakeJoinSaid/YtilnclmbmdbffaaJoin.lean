/-
  FnMakeJoin answers true for every input, and its arguments read behind the call as it read before. Conditions: none.
-/
import Derived.Test.YtilnclmbmdbffaaRows
import Derived.Test.YtilnclmbmdbffaaTold
import Derived.Test.YtilnclmbmdbffaaFits
import Derived.ProofKit
import Derived.OpenShut
import Derived.ShutString
import Derived.Lib.SmallJoins
import Derived.BigQuiet
import Derived.Deep.QuietTactic
import Derived.Deep.RegionHeld3
import Derived.SizedLaws
namespace Go.Proofs.Ytilnclmbmdbffaa.fnMakeJoin
open Go.Lib Go.RowKit Go.ChangeShapes Go.WideShapes Go.Joins
open Go.ChangeMaps (open_string shut_string)

/-- The first j bytes of both texts are of ASCII. -/
def Ascii (a b : ByteArray) (j : Nat) : Prop := ∀ x, (h : x < (a ++ b).size) → x < j → (a ++ b)[x].toNat < 128

theorem app_list (a b : ByteArray) : (a ++ b).data.toList = a.data.toList ++ b.data.toList := by
  simp

theorem ascii_parts {a b : ByteArray} (h : Ascii a b (a.size + b.size)) : (∀ c ∈ a.data.toList, c.toNat < 128) ∧ (∀ c ∈ b.data.toList, c.toNat < 128) := by
  have key : ∀ c ∈ (a ++ b).data.toList, c.toNat < 128 := by
    intro c hc
    obtain ⟨i, hi, rfl⟩ := List.getElem_of_mem hc
    have hi' : i < (a ++ b).size := hi
    have := h i hi' (by rw [ByteArray.size_append] at hi'; exact hi')
    exact this
  rw [app_list] at key
  exact ⟨fun c hc => key c (List.mem_append_left _ hc), fun c hc => key c (List.mem_append_right _ hc)⟩

theorem implMake_slash (k : Int) (a b : ByteArray) (w : World) (hs : a.size + b.size ≤ 60) (h : Ascii a b (a.size + b.size)) :
    Calls Try.prog 9 #[.agg #[.int .i64 k, .string (a ++ { data := #[226, 136, 149] } ++ b)]] w fun e w' =>
      e = .returned (.string (a ++ { data := #[47] } ++ b)) ∧ Below w.heap.size w w' :=
  (implMake_any k _ w (by
    rw [ByteArray.size_append, ByteArray.size_append]
    have : ({ data := #[226, 136, 149] } : ByteArray).size = 3 := rfl
    omega)).mono fun _ _ ⟨he, hb⟩ => ⟨by
      rw [he]
      congr 2
      unfold toldOf
      rw [app_list, app_list, List.append_assoc]
      have e1 := Plain.told_slash_between _ _ (ascii_parts h).1 (ascii_parts h).2
      show (⟨(Plain.told (a.data.toList ++ 226 :: 136 :: 149 :: b.data.toList)).toArray⟩ : ByteArray) = _
      rw [e1]
      apply ByteArray.ext
      apply Array.ext'
      simp, hb⟩

theorem implMake_dot (k : Int) (a b : ByteArray) (w : World) (hs : a.size + b.size ≤ 60) (h : Ascii a b (a.size + b.size)) :
    Calls Try.prog 9 #[.agg #[.int .i64 k, .string (a ++ { data := #[194, 183] } ++ b)]] w fun e w' =>
      e = .returned (.string (a ++ { data := #[46] } ++ b)) ∧ Below w.heap.size w w' :=
  (implMake_any k _ w (by
    rw [ByteArray.size_append, ByteArray.size_append]
    have : ({ data := #[194, 183] } : ByteArray).size = 2 := rfl
    omega)).mono fun _ _ ⟨he, hb⟩ => ⟨by
      rw [he]
      congr 2
      unfold toldOf
      rw [app_list, app_list, List.append_assoc]
      have e1 := Plain.told_dot_between _ _ (ascii_parts h).1 (ascii_parts h).2
      show (⟨(Plain.told (a.data.toList ++ 194 :: 183 :: b.data.toList)).toArray⟩ : ByteArray) = _
      rw [e1]
      apply ByteArray.ext
      apply Array.ext'
      simp, hb⟩

set_option maxRecDepth 100000 in
set_option maxHeartbeats 1600000 in
theorem walk (k : Int) (a : ByteArray) (slash : Bool) (b : ByteArray) (w : World) :
    Calls Try.prog 5 #[.int .i64 k, .string a, .bool slash, .string b] w fun e w' => e = .returned (.bool true) ∧ Below w.heap.size w w' := by
  by_cases ha : 2147483647 < a.size
  · go_enter Try.func5, Try.ntmps5
    go_wp2
    go_ret
    exact ⟨rfl, Below.refl _ _⟩
  by_cases hb : 2147483647 < b.size
  · go_enter Try.func5, Try.ntmps5
    go_wp2
    go_ret
    exact ⟨rfl, Below.refl _ _⟩
  by_cases hab : 60 < a.size + b.size
  · go_enter Try.func5, Try.ntmps5
    go_wp2
    go_ret
    exact ⟨rfl, Below.refl _ _⟩
  by_cases hk1 : k < -2000
  · go_enter Try.func5, Try.ntmps5
    go_wp2
    go_ret
    exact ⟨rfl, Below.refl _ _⟩
  by_cases hk2 : 1000000 < k
  · go_enter Try.func5, Try.ntmps5
    go_wp2
    go_ret
    exact ⟨rfl, Below.refl _ _⟩
  go_enter Try.func5, Try.ntmps5
  go_wp2
  go_loop [36] (fun i => ∃ j : Nat, j ≤ a.size + b.size ∧ i = .int .i64 j ∧ Hid (Ascii a b j)) (fun i => a.size + b.size - (intOf i).toNat)
  case atStart => exact ⟨0, Nat.zero_le _, rfl, fun x _ hx => absurd hx (Nat.not_lt_zero _)⟩
  case round =>
    obtain ⟨j, hj, rfl, hasc⟩ := hrel
    by_cases hlt : j < a.size + b.size
    · have hlt' : j < (a ++ b).size := by rw [ByteArray.size_append]; exact hlt
      go_wp2
      · go_ret
        exact ⟨rfl, Below.refl _ _⟩
      · have hx : ((a ++ b)[j].toNat : Int) < 128 := by assumption
        go_round
        case rel =>
          refine ⟨j + 1, by omega, by go_num, fun x hs hx' => ?_⟩
          by_cases hxj : x < j
          · exact hasc.out x hs hxj
          · obtain rfl : x = j := by omega
            omega
        case measure => simp [intOf]; omega
    · have hall : Hid (Ascii a b (a.size + b.size)) := by
        have : j = a.size + b.size := by omega
        subst this
        exact hasc
      clear hasc
      cases slash with
      | true =>
        go_wp2_with fail
        refine (implMake_slash k a b _ (by omega) hall.out).mono ?_
        rintro e w1 ⟨rfl, hb1⟩
        go_wp2
        go_ret
        exact ⟨rfl, hb1⟩
      | false =>
        go_wp2_with fail
        refine (implMake_dot k a b _ (by omega) hall.out).mono ?_
        rintro e w1 ⟨rfl, hb1⟩
        go_wp2
        go_ret
        exact ⟨rfl, hb1⟩


theorem own : ownKnob Try.prog.godebug = none := by kernel_rfl

set_option maxRecDepth 100000 in
theorem lifted (os : Os) (started : os.Started) (H : Type) (enc : TypeId × Value → H) :
    ReturnsInHanded {} Try.checked os 5 .any (Rows.fnMakeJoinSpec.pre6 enc Try.prog Try.f5 Rows.fnMakeJoinRow.domain false) (Rows.fnMakeJoinSpec.post enc Try.prog Try.f5 false true false false) := by
  refine returnsInHanded_of_change (C := Try.checked) own started (by kernel_rfl) Try.func5
    (ChangeSpec.witness6 (enc := enc) (C := Try.checked) false ⟨#[], #[.int .i64 0, .string ByteArray.empty, .bool false, .string ByteArray.empty], []⟩ 8 (by kernel_rfl) (by kernel_rfl) (by kernel_rfl) (by kernel_rfl)) ?_
  intro W base args ds gs before hval0 hW hcnd _
  have hval : ∀ (j : Nat) t v, Try.f5.params[j]? = some t → args[j]? = some v → Value.okWide Try.prog W .any base t v := hval0
  have hW' := hW
  obtain ⟨p, q, hA0, hV, rfl, hfz, hnd⟩ := hW
  have hA : DataW.TrodAll enc Try.prog W 0 (fun _ => true) true Try.f5.params.toList args.toList ds p := hA0
  rw [Try.params5] at hA hval
  obtain ⟨v0, vs0, d0, ds0, p0, q0, hargs, rfl, rfl, h0, r0⟩ := trodAll_cons hA
  obtain ⟨v1, vs1, d1, ds1, p1, q1, rfl, rfl, rfl, h1, r1⟩ := trodAll_cons r0
  obtain ⟨v2, vs2, d2, ds2, p2, q2, rfl, rfl, rfl, h2, r2⟩ := trodAll_cons r1
  obtain ⟨v3, vs3, d3, ds3, p3, q3, rfl, rfl, rfl, h3, r3⟩ := trodAll_cons r2
  obtain ⟨rfl, rfl, rfl⟩ := trodAll_nil r3
  obtain rfl : args = #[v0, v1, v2, v3] := by cases args; simp_all
  obtain ⟨rfl, rfl⟩ := trodVars_none hV
  obtain ⟨a0, rfl, rfl, rfl, w0⟩ := open_int Try.underlying2 (hval 0 2 v0 rfl rfl) h0
  obtain ⟨a1, rfl, rfl, rfl, w1⟩ := open_string Try.underlying9 (hval 1 9 v1 rfl rfl) h1
  obtain ⟨a2, rfl, rfl, rfl⟩ := open_bool Try.underlying4 (hval 2 4 v2 rfl rfl) h2
  obtain ⟨a3, rfl, rfl, rfl, w3⟩ := open_string Try.underlying9 (hval 3 9 v3 rfl rfl) h3
  clear hA0 hval0
  simp only [List.append_nil] at hW'
  refine (walk a0 a1 a2 a3 W).mono fun e W' ⟨he, hb⟩ => ?_
  subst he
  refine ⟨_, rfl, _, _, _, [], [], [], hW', ?_, ?_, rfl, hb.frame _, fun h => by cases h⟩
  · exact trodAll_cons_mk (shut_bool Try.underlying4 _) trodAll_mk0
  · exact trodAll_cons_mk (shut_int Try.underlying2 w0) (trodAll_cons_mk (shut_string Try.underlying9 w1) (trodAll_cons_mk (shut_bool Try.underlying4 _) (trodAll_cons_mk (shut_string Try.underlying9 w3) trodAll_mk0)))

theorem over : Rows.fnMakeJoinRow.holds Try.pinned (OpenSpec.ofChange Rows.fnMakeJoinSpec) :=
  OpenClaim.holds_of_wide 5 Try.f5 rfl rfl rfl rfl rfl rfl rfl ⟨rfl, rfl, rfl, rfl, rfl⟩ rfl rfl rfl rfl rfl (by kernel_rfl) Try.func5 (by kernel_rfl)
    (of_decide_eq_true (by kernel_rfl)) (by unfold Func.isWrapper; first | (rw [if_pos (by decide +kernel)]; kernel_rfl) | (rw [if_neg (by decide +kernel)]; exact ⟨rfl, rfl⟩))
    (fun os started H enc _ => lifted os started H enc)

/-- The statement. -/
theorem proved : Rows.FnMakeJoinSaid :=
  over
#print axioms proved
end Go.Proofs.Ytilnclmbmdbffaa.fnMakeJoin
