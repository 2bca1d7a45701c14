/-
  asmlex.zzIndex tells the first place of a text that is not empty, or -1. Conditions: at most 2^47 bytes; the text that is looked for has 1 to 1000.
-/
import Derived.Test.YtfllliifkgpbkaaChecked
import Derived.Test.YtfllliifkgpbkaaPlain
import Derived.WalkKit
import Derived.ProofKit
import Derived.Lib.IndexBytes
import Derived.Lib.Hide
import Derived.WalkSpells
namespace Go.Proofs.Ytfllliifkgpbkaa
open Go.Lib Go.RowKit

theorem ret_int {k : IntKind} {a b : Int} (h : a = b) : Ending.returned (.int k a) = .returned (.int k b) := by rw [h]

set_option maxHeartbeats 400000 in
theorem zzIndex_any (s sub : ByteArray) (w : World) (hs : s.size ≤ 140737488355328) (h1 : 0 < sub.size) (h2 : sub.size ≤ 1000) :
    Calls Try.prog 25 #[.string s, .string sub] w fun e w' => e = .returned (.int .i64 (index s.data.toList sub.data.toList)) ∧ w = w' := by
  have hsub : Hid (sub.data.toList ≠ []) := fun e => by
    have := congrArg List.length e
    rw [Array.length_toList] at this
    have h0 : sub.size = 0 := this
    omega
  go_enter Try.func25, Try.ntmps25
  go_wp2
  go_loop [5] (fun i => ∃ k : Nat, k ≤ s.size + 1 ∧ Hid (NoOcc s.data.toList sub.data.toList k) ∧ i = .int .i64 k) (fun i => s.size + 1 - (intOf i).toNat)
  case atStart => exact ⟨0, Nat.zero_le _, NoOcc.zero _ _, rfl⟩
  case round =>
    obtain ⟨k, hk, hno, rfl⟩ := hrel
    by_cases hlt : k + sub.size ≤ s.size
    · have hp := occ_of_piece s sub k hlt
      have HP := Lib.hid hp
      clear hp
      go_wp2
      · go_ret
        have ht : ((s.extract k (k + sub.size)).toList == sub.toList) = true := by assumption
        exact ⟨ret_int (index_hit hno.out (by show k ≤ s.size; omega) (HP.out.trans ht)).symm, rfl⟩
      · have ht : ((s.extract k (k + sub.size)).toList == sub.toList) = false := by assumption
        go_round
        case rel => exact ⟨k + 1, by omega, hno.out.succ (HP.out.trans ht), by go_num⟩
        case measure => simp [intOf]; omega
    · go_wp2
      go_ret
      exact ⟨ret_int (index_past hsub.out hno.out (by show s.size < k + sub.size; omega)).symm, rfl⟩
end Go.Proofs.Ytfllliifkgpbkaa
