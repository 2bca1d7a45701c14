/-
  (*asmlex.Stack).Text is the text of the token that the top reader has read last; (*asmlex.Stack).Push lays a reader on top.
-/
import Derived.Test.YtfllliifkgpbkaaStackNext
import Derived.IntWalk
import Derived.StillTailTactics
namespace Go.Proofs.Ytfllliifkgpbkaa
open Go.Lib Go.RowKit

set_option maxRecDepth 100000 in
set_option maxHeartbeats 3200000 in
theorem stext (base sB tb c : Nat) (rs : List Rd) (t : Tk) (w : World) (h : Stk w base sB tb c rs) (hn : rs.length ≤ 100) (ht : TopAt rs t) :
    Calls Try.prog 17 #[.pointer (some ⟨sB, 0, none⟩)] w fun e w' => e = .returned (.string t.2) ∧ ∃ m, w' = w.drewN m := by
  obtain ⟨r, rest, j, rfl, hk, htj⟩ := ht
  obtain ⟨hB, _, hc, _, ⟨htr, _⟩, ⟨hS, _, hk', h60, hne⟩, _, _⟩ := h
  have hkl : j < r.ts.length := (List.getElem?_eq_some_iff.1 htj).1
  have hn' : rest.length ≤ 100 := by simp at hn; omega
  have b0 : w.cell? ⟨sB, 0, none⟩ = some (.slice (some ⟨tb, 0, none⟩) (rest.length + 1) c) := hB.cell 0
  have t0 : w.cell? ⟨tb, rest.length, none⟩ = some (.iface 41 (.pointer (some ⟨r.g, 0, none⟩))) := htr
  have hi0 : (0 : Int) ≤ (rest.length : Int) := Int.natCast_nonneg _
  have hi1 : (rest.length : Int) < (rest.length : Int) + 1 := by omega
  have e : ((r.k : Int) - 1) = (j : Int) := by omega
  rw [e] at hS
  have HT := Lib.hid htj
  have HS := Lib.hid hS
  clear htj hS hB htr hne hk e hn hc
  have hw : IntKind.i64.wrap (rest.length : Int) = (rest.length : Int) := IntWalk.i64_in _ (by omega)
  go_enter Try.func17, Try.ntmps17
  go_wp2
  go_still_tail 12, (by kernel_rfl)
  change wpList _ _ _ _ _ w.drew
  go_wp2_with fail
  refine (text_tok base r.g r.v r.ts.length r.ts 1 j t _ (HS.out.drewN 1) hkl HT.out).mono ?_
  rintro e w1 ⟨rfl, m, hw1⟩
  have HW := Lib.hid hw1
  clear hw1 hw
  go_wp2
  go_ret
  exact ⟨rfl, 1 + m, by rw [← World.drewN_drewN]; exact HW.out⟩
end Go.Proofs.Ytfllliifkgpbkaa
