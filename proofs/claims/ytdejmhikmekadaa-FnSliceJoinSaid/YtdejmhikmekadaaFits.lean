/-
  laws.zzFits9 tells whether a token's text has at most 2^31 - 1 bytes.
-/
import Derived.Test.YtdejmhikmekadaaTold
import Derived.Test.YtdejmhikmekadaaMem
namespace Go.Proofs.Ytdejmhikmekadaa
open Go.Lib Go.RowKit

theorem fits_yes (t : Int) (s : ByteArray) (w : World) (h : s.size ≤ 2147483647) :
    Calls Try.prog 11 #[.agg #[.int .i64 t, .string s]] w fun e w' => e = .returned (.bool true) ∧ Below w.heap.size w w' := by
  go_enter Try.func11, Try.ntmps11
  go_wp2
  go_ret
  exact ⟨rfl, (Below.refl _ _).alloc (Nat.le_refl _) _⟩
theorem fits_no (t : Int) (s : ByteArray) (w : World) (h : 2147483647 < s.size) :
    Calls Try.prog 11 #[.agg #[.int .i64 t, .string s]] w fun e w' => e = .returned (.bool false) ∧ Below w.heap.size w w' := by
  go_enter Try.func11, Try.ntmps11
  go_wp2
  go_ret
  exact ⟨rfl, (Below.refl _ _).alloc (Nat.le_refl _) _⟩

end Go.Proofs.Ytdejmhikmekadaa
