/-
  (*asmlex.Stack).Push lays a reader on top. Conditions: at most 1000 readers.
-/
import Derived.Test.YtfllliifkgpbkaaStackText
import Derived.Deep.DeepMust
namespace Go.Proofs.Ytfllliifkgpbkaa
open Go.Lib Go.RowKit

theorem Try.infoIf : (Try.prog.info? 51).map (fun i => (i.zero, i.size, i.bytes)) = some (some .nilIface, 1, 16) := by kernel_rfl

def PushMade (base sB m : Nat) (cells : List Value) (tv : Value) (w : World) (e : Ending) (w' : World) : Prop :=
  e = .returned (.tuple #[]) ∧ ∃ A' c', Blk w' sB 39 #[.slice A' m c'] ∧ w'.ownsRow base 51 1 (.slice A' m c') m cells ∧ Only w w' (sB :: tv.ownBlock.toList)

set_option maxRecDepth 100000 in
set_option maxHeartbeats 1600000 in
theorem push_any (base sB m c : Nat) (A : Option Addr) (cells : List Value) (g : Nat) (w : World) (hB : Blk w sB 39 #[.slice A m c]) (hO : w.ownsRow base 51 1 (.slice A m c) m cells) (hm : m ≤ 1000) (hb : base ≤ w.heap.size) :
    Calls Try.prog 14 #[.pointer (some ⟨sB, 0, none⟩), .iface 41 (.pointer (some ⟨g, 0, none⟩))] w
      (PushMade base sB (m + 1) (cells ++ [.iface 41 (.pointer (some ⟨g, 0, none⟩))]) (.slice A m c) w) := by
  obtain ⟨i0, hi, hz0, hz1, hz2⟩ := info_parts Try.infoIf
  have b0 : w.cell? ⟨sB, 0, none⟩ = some (.slice A m c) := hB.cell 0
  have HB := Lib.hid hB
  clear hB
  go_enter Try.func14, Try.ntmps14
  go_wp2_with (at_builtin; go_must (refine wpList_append_own _ rfl (.tmp 8) (.tmp 10) 37 rfl base 51 i0 .nilIface 1 16 Try.underlying37 hi hz0 hz1 hz2 rfl (by decide) _ _ _ rfl (hO.alloc _) ⟨w.heap.size, 0, none⟩ 1 1 [.iface 41 (.pointer (some ⟨g, 0, none⟩))] rfl rfl (cell_one_new _ _ _) (by intro u hu; simp at hu; subst hu; rfl) (by unfold maxLen; omega) (by omega) (by simp; omega) ?_; intro v1 w1 hown1 hgrow1 _; have hblk := ((HB.out.alloc (.cells #[.iface 41 (.pointer (some ⟨g, 0, none⟩))] 51)).grown hgrow1 (Ne.symm (own_blk_ne hO HB.out (by decide)))); obtain ⟨A1, c1, rfl⟩ := own_form hown1; have d0 := hblk.cell 0; have d1 := hblk.frozen 0))
  go_end0
  have hgw : (w.alloc (.cells #[.iface 41 (.pointer (some ⟨g, 0, none⟩))] 51)).grownBy w1 (Value.slice A m c).ownBlock := hgrow1
  have hne := own_blk_ne hown1 hblk (by decide)
  refine ⟨rfl, A1, c1, hblk.set_ 0 _, own_set hown1 (fun k hk e => hne (by rw [hk]; exact congrArg some e)) _, ?_⟩
  have o1 : Only w (w.alloc (.cells #[.iface 41 (.pointer (some ⟨g, 0, none⟩))] 51)) (sB :: (Value.slice A m c).ownBlock.toList) := Only.grown (World.grownBy_alloc w _ none) (by simp)
  have o2 : Only (w.alloc (.cells #[.iface 41 (.pointer (some ⟨g, 0, none⟩))] 51)) w1 (sB :: (Value.slice A m c).ownBlock.toList) := Only.grown hgw (fun k hk => by simp [hk])
  exact (o1.trans o2).trans (Only.grown (grown_set _ _ _) (fun k hk => by injection hk with hk; simp [← hk]))
end Go.Proofs.Ytfllliifkgpbkaa
