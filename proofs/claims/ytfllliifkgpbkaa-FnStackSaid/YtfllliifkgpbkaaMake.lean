/-
  asmlex.Make makes a token whose text is told with a point and a slash for the two characters. Conditions: at most 2^47 - 4096 bytes.
-/
import Derived.Test.YtfllliifkgpbkaaRepl
import Derived.WalkLawsBesides
namespace Go.Proofs.Ytfllliifkgpbkaa
open Go.Lib Go.RowKit

/-- The text that is told of a text. -/
def toldOf (s : ByteArray) : ByteArray := ⟨(Plain.told s.data.toList).toArray⟩

theorem toldOf_list (s : ByteArray) : (toldOf s).data.toList = Plain.told s.data.toList := rfl
theorem toldOf_size (s : ByteArray) : (toldOf s).size ≤ s.size := by
  show (Plain.told s.data.toList).length ≤ s.data.toList.length
  exact Plain.told_le _

def dotOf (s : ByteArray) : ByteArray := ⟨(Plain.rep [194, 183] [46] s.data.toList).toArray⟩

theorem zzReplace_dot (s : ByteArray) (w : World) (hs : s.size ≤ 140737488351232) :
    Calls Try.prog 24 #[.string s, .string { data := #[194, 183] }, .string { data := #[46] }] w fun e w' =>
      e = .returned (.string (dotOf s)) ∧ (dotOf s).size ≤ 140737488351232 ∧ Below w.heap.size w w' :=
  (zzReplaceAll_any s _ _ w hs (by decide) (by decide) (by decide)).mono fun _ _ ⟨he, hb⟩ => ⟨he, by
    have h := Plain.rep_dot _ s.data.toList (Nat.le_refl _)
    show (Plain.rep [194, 183] [46] s.data.toList).length ≤ _
    rw [h]
    have := Plain.dotted_le s.data.toList
    have e : s.data.toList.length = s.size := rfl
    omega, hb⟩

theorem zzReplace_slash (s : ByteArray) (w : World) (hs : (dotOf s).size ≤ 140737488351232) :
    Calls Try.prog 24 #[.string (dotOf s), .string { data := #[226, 136, 149] }, .string { data := #[47] }] w fun e w' =>
      e = .returned (.string (toldOf s)) ∧ Below w.heap.size w w' :=
  (zzReplaceAll_any (dotOf s) _ _ w hs (by decide) (by decide) (by decide)).mono fun _ _ ⟨he, hb⟩ => ⟨by
    rw [he]
    show Ending.returned (Value.string ⟨(Plain.rep [226, 136, 149] [47] (Plain.rep [194, 183] [46] s.data.toList)).toArray⟩) = _
    rw [Plain.made_told]
    rfl, hb⟩

theorem bcell {W w w1 : World} {B : Nat} (hb : Below B w w1) (hB : W.heap.size ≤ B) : (∀ b o, b < W.heap.size → w1.cell? ⟨b, o, none⟩ = w.cell? ⟨b, o, none⟩) ∧ (∀ b o, b < W.heap.size → w1.frozen? ⟨b, o, none⟩ = w.frozen? ⟨b, o, none⟩) :=
  ⟨fun b o h => hb.cell (p := ⟨b, o, none⟩) (show b < B by omega), fun b o h => hb.frozen (p := ⟨b, o, none⟩) (show b < B by omega)⟩

set_option maxHeartbeats 800000 in
theorem lexMake_any (t : Int) (s : ByteArray) (w : World) (hs : s.size ≤ 140737488351232) :
    Calls Try.prog 22 #[.int .i32 t, .string s] w fun e w' => e = .returned (.agg #[.int .i32 t, .string (toldOf s)]) ∧ Below w.heap.size w w' := by
  go_enter Try.func22, Try.ntmps22
  go_wp2_with fail
  refine (zzReplace_dot s _ hs).mono ?_
  rintro e w1 ⟨rfl, hd, hb1⟩
  go_wp2_with fail
  refine (zzReplace_slash s _ hd).mono ?_
  rintro e w2 ⟨rfl, hb2⟩
  have hs1 := hb1.size
  have hs2 := hb2.size
  have hz : w.heap.size < w2.heap.size := by simp at hs1; omega
  have hblk : w2.heap[w.heap.size]? = some (.cells #[.int .i32 0, .string { data := #[] }] 54 (0, 0)) :=
    (hb2.block _ (by simp at hs1; omega)).trans ((hb1.block _ (by simp)).trans (heap_alloc_new w _))
  have c0 : w2.cell? ⟨w.heap.size, 0, none⟩ = some (.int .i32 0) := by simp [World.cell?, hblk]
  have c1 : w2.cell? ⟨w.heap.size, 1, none⟩ = some (.string { data := #[] }) := by simp [World.cell?, hblk]
  have f0 : w2.frozen? ⟨w.heap.size, 0, none⟩ = false := by simp [World.frozen?, hblk]
  have f1 : w2.frozen? ⟨w.heap.size, 1, none⟩ = false := by simp [World.frozen?, hblk]
  have hB : Below w.heap.size w w2 := (((Below.refl _ _).alloc (Nat.le_refl _) _).trans (hb1.mono (by simp))).trans (hb2.mono (by simp at hs1; omega))
  have HBLK := Lib.hid hblk
  clear hblk hb1 hb2 hs1 hs2
  go_wp2
  refine bodyPost_ret (v := .agg #[.int .i32 t, .string (toldOf s)]) ?_ rfl ⟨rfl, ?_⟩
  · simp [results, Try.results22, go_sem, c0, c1]
  · exact (hB.setCell (Nat.le_refl _) _).setCell (Nat.le_refl _) _

end Go.Proofs.Ytfllliifkgpbkaa
