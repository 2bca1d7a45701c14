/-
  laws.zzFits9 tells whether a token's text has at most 2^31 - 1 bytes.
-/
import Derived.Test.YtfllliifkgpbkaaTold
import Derived.Test.YtfllliifkgpbkaaMem
namespace Go.Proofs.Ytfllliifkgpbkaa
open Go.Lib Go.RowKit

theorem fits_yes (t : Int) (s : ByteArray) (w : World) (h : s.size ≤ 2147483647) :
    Calls Try.prog 18 #[.agg #[.int .i64 t, .string s]] w fun e w' => e = .returned (.bool true) ∧ Below w.heap.size w w' := by
  go_enter Try.func18, Try.ntmps18
  go_wp2
  go_ret
  exact ⟨rfl, (Below.refl _ _).alloc (Nat.le_refl _) _⟩
theorem fits_no (t : Int) (s : ByteArray) (w : World) (h : 2147483647 < s.size) :
    Calls Try.prog 18 #[.agg #[.int .i64 t, .string s]] w fun e w' => e = .returned (.bool false) ∧ Below w.heap.size w w' := by
  go_enter Try.func18, Try.ntmps18
  go_wp2
  go_ret
  exact ⟨rfl, (Below.refl _ _).alloc (Nat.le_refl _) _⟩

end Go.Proofs.Ytfllliifkgpbkaa
