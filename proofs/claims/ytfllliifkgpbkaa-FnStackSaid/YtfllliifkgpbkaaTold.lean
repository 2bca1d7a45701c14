/-
  spec.Told tells a text with a point and a slash for the two characters. Conditions: at most 2^47 - 4096 bytes.
-/
import Derived.Test.YtfllliifkgpbkaaMake
namespace Go.Proofs.Ytfllliifkgpbkaa
open Go.Lib Go.RowKit

/-- What is told, and what is left. -/
def ToldPart (s : ByteArray) (d : List UInt8) (k : Nat) : Prop := Plain.told s.data.toList = d ++ Plain.told (s.data.toList.drop k)

theorem ext_pre (s : ByteArray) (k m : Nat) (p : List UInt8) (hm : p.length = m) (h : k + m ≤ s.size) : ((s.extract k (k + m)).toList == p) = p.isPrefixOf (s.data.toList.drop k) := by
  subst hm
  rw [extract_toList]
  have e : k + p.length - k = p.length := by omega
  rw [e]
  have := occAt_iff_take s.data.toList p k h
  rw [← this]
  rfl

theorem at_byte (s : ByteArray) (k : Nat) (h : k < s.size) : s.data.toList.drop k = s[k] :: s.data.toList.drop (k + 1) := by
  rw [List.drop_eq_getElem_cons (by simpa using h)]
  rfl

theorem pre_short (s : ByteArray) (k m : Nat) (p : List UInt8) (hm : p.length = m) (h : s.size < k + m) (hk : k ≤ s.size) : p.isPrefixOf (s.data.toList.drop k) = false := by
  cases hp : p.isPrefixOf (s.data.toList.drop k) with
  | false => rfl
  | true =>
    have := (List.isPrefixOf_iff_prefix.1 hp).length_le
    rw [List.length_drop] at this
    have e : s.data.toList.length = s.size := rfl
    omega

theorem ToldPart.dot {s : ByteArray} {d : List UInt8} {k : Nat} (h : ToldPart s d k) (hp : ([194, 183] : List UInt8).isPrefixOf (s.data.toList.drop k) = true) : ToldPart s (d ++ [46]) (k + 2) := by
  obtain ⟨u, hu⟩ := (Plain.isPre_dot _).1 hp
  unfold ToldPart at h ⊢
  have e : s.data.toList.drop (k + 2) = u := by rw [← List.drop_drop, hu]; rfl
  rw [h, hu, e, Plain.told_dot]
  simp

theorem ToldPart.slash {s : ByteArray} {d : List UInt8} {k : Nat} (h : ToldPart s d k) (hp : ([226, 136, 149] : List UInt8).isPrefixOf (s.data.toList.drop k) = true) : ToldPart s (d ++ [47]) (k + 3) := by
  obtain ⟨u, hu⟩ := (Plain.isPre_slash _).1 hp
  unfold ToldPart at h ⊢
  have e : s.data.toList.drop (k + 3) = u := by rw [← List.drop_drop, hu]; rfl
  rw [h, hu, e, Plain.told_slash]
  simp

theorem ToldPart.byte {s : ByteArray} {d : List UInt8} {k : Nat} (h : ToldPart s d k) (hk : k < s.size) (h1 : ([194, 183] : List UInt8).isPrefixOf (s.data.toList.drop k) = false)
    (h2 : ([226, 136, 149] : List UInt8).isPrefixOf (s.data.toList.drop k) = false) : ToldPart s (d ++ [s[k]]) (k + 1) := by
  unfold ToldPart at h ⊢
  rw [at_byte s k hk] at h h1 h2
  rw [h, Plain.told_cons h1 h2]
  simp

set_option maxHeartbeats 800000 in
theorem told_any (s : ByteArray) (w : World) (hs : s.size ≤ 140737488351232) :
    Calls Try.prog 7 #[.string s] w fun e w' => e = .returned (.string (toldOf s)) ∧ Below w.heap.size w w' := by
  obtain ⟨i0, hi, hz0, hz1, hz2⟩ := info_parts Try.info5
  go_enter Try.func7, Try.ntmps7
  go_wp2
  go_loopw [3, 4] (fun out i wr => ∃ (k : Nat) (d : List UInt8), k ≤ s.size ∧ i = .int .i64 k ∧ wr.ownsRow w.heap.size 5 1 out d.length (d.map fun b => Value.int .u8 b.toNat) ∧
      Hid (ToldPart s d k) ∧ d.length ≤ k ∧ Below w.heap.size w wr)
    (fun _ i _ => s.size - (intOf i).toNat)
  case atStart => exact ⟨0, [], Nat.zero_le _, rfl, World.ownsRow_made _ _ _ (Nat.le_refl _) (by decide) rfl, rfl, Nat.le_refl _, (Below.refl _ _).alloc (Nat.le_refl _) _⟩
  case round =>
    obtain ⟨k, d, hk, rfl, hown, hp, hd, hb⟩ := hrel
    have hbs := hb.size
    by_cases hlt : k < s.size
    · cases g1 : ([194, 183] : List UInt8).isPrefixOf (s.data.toList.drop k) with
      | true =>
        have hroom : k + 2 ≤ s.size := by
          rcases Nat.lt_or_ge s.size (k + 2) with h | h
          · rw [pre_short s k 2 _ rfl h hk] at g1; cases g1
          · exact h
        have t1 : ((s.extract k (k + 2)).toList == [194, 183]) = true := (ext_pre s k 2 _ rfl hroom).trans g1
        have G1 := Lib.hid g1
        clear g1
        go_wp2_with (at_builtin; refine wpList_append_own _ rfl (.tmp 32) (.tmp 33) 35 rfl w.heap.size 5 i0 (.int .u8 0) 1 1 Try.underlying35 hi hz0 hz1 hz2 rfl (by decide) _ _ _ rfl (hown.alloc _) ⟨wr.heap.size, 0, none⟩ 1 1 [.int .u8 46] rfl rfl (cell_one_new _ _ _) (by intro u hu; simp at hu; subst hu; rfl) (by unfold maxLen; omega) (by omega) (by simp; omega) ?_; intro v1 w1 hown1 hgrow1 _)
        go_roundw
        case rel =>
          refine ⟨k + 2, d ++ [46], by omega, by go_num, ?_, hp.out.dot G1.out, by simp; omega, (hb.alloc (by omega) _).grown hgrow1 (by simp; omega) (fun j hj => (hown.lt j hj).1)⟩
          rw [List.length_append, List.map_append]
          exact hown1
        case measure => simp [intOf]; omega
      | false =>
        cases g2 : ([226, 136, 149] : List UInt8).isPrefixOf (s.data.toList.drop k) with
        | true =>
          have hroom : k + 3 ≤ s.size := by
            rcases Nat.lt_or_ge s.size (k + 3) with h | h
            · rw [pre_short s k 3 _ rfl h hk] at g2; cases g2
            · exact h
          have t1 : ((s.extract k (k + 2)).toList == [194, 183]) = false := (ext_pre s k 2 _ rfl (by omega)).trans g1
          have t2 : ((s.extract k (k + 3)).toList == [226, 136, 149]) = true := (ext_pre s k 3 _ rfl hroom).trans g2
          have G2 := Lib.hid g2
          clear g1 g2
          go_wp2_with (at_builtin; refine wpList_append_own _ rfl (.tmp 51) (.tmp 52) 35 rfl w.heap.size 5 i0 (.int .u8 0) 1 1 Try.underlying35 hi hz0 hz1 hz2 rfl (by decide) _ _ _ rfl (hown.alloc _) ⟨wr.heap.size, 0, none⟩ 1 1 [.int .u8 47] rfl rfl (cell_one_new _ _ _) (by intro u hu; simp at hu; subst hu; rfl) (by unfold maxLen; omega) (by omega) (by simp; omega) ?_; intro v1 w1 hown1 hgrow1 _)
          go_roundw
          case rel =>
            refine ⟨k + 3, d ++ [47], by omega, by go_num, ?_, hp.out.slash G2.out, by simp; omega, (hb.alloc (by omega) _).grown hgrow1 (by simp; omega) (fun j hj => (hown.lt j hj).1)⟩
            rw [List.length_append, List.map_append]
            exact hown1
          case measure => simp [intOf]; omega
        | false =>
          have HPB := Lib.hid (hp.out.byte hlt g1 g2)
          by_cases h2 : k + 2 ≤ s.size
          · have t1 : ((s.extract k (k + 2)).toList == [194, 183]) = false := (ext_pre s k 2 _ rfl h2).trans g1
            by_cases h3 : k + 3 ≤ s.size
            · have t2 : ((s.extract k (k + 3)).toList == [226, 136, 149]) = false := (ext_pre s k 3 _ rfl h3).trans g2
              clear g1 g2
              go_wp2_with (at_builtin; refine wpList_append_own _ rfl (.tmp 10) (.tmp 14) 35 rfl w.heap.size 5 i0 (.int .u8 0) 1 1 Try.underlying35 hi hz0 hz1 hz2 rfl (by decide) _ _ _ rfl (hown.alloc _) ⟨wr.heap.size, 0, none⟩ 1 1 [.int .u8 s[k].toNat] rfl rfl (cell_one_new _ _ _) (by intro u hu; simp at hu; subst hu; rfl) (by unfold maxLen; omega) (by omega) (by simp; omega) ?_; intro v1 w1 hown1 hgrow1 _)
              go_roundw
              case rel =>
                refine ⟨k + 1, d ++ [s[k]], by omega, by go_num, ?_, HPB.out, by simp; omega, (hb.alloc (by omega) _).grown hgrow1 (by simp; omega) (fun j hj => (hown.lt j hj).1)⟩
                rw [List.length_append, List.map_append]
                exact hown1
              case measure => simp [intOf]; omega
            · clear g1 g2
              go_wp2_with (at_builtin; refine wpList_append_own _ rfl (.tmp 10) (.tmp 14) 35 rfl w.heap.size 5 i0 (.int .u8 0) 1 1 Try.underlying35 hi hz0 hz1 hz2 rfl (by decide) _ _ _ rfl (hown.alloc _) ⟨wr.heap.size, 0, none⟩ 1 1 [.int .u8 s[k].toNat] rfl rfl (cell_one_new _ _ _) (by intro u hu; simp at hu; subst hu; rfl) (by unfold maxLen; omega) (by omega) (by simp; omega) ?_; intro v1 w1 hown1 hgrow1 _)
              go_roundw
              case rel =>
                refine ⟨k + 1, d ++ [s[k]], by omega, by go_num, ?_, HPB.out, by simp; omega, (hb.alloc (by omega) _).grown hgrow1 (by simp; omega) (fun j hj => (hown.lt j hj).1)⟩
                rw [List.length_append, List.map_append]
                exact hown1
              case measure => simp [intOf]; omega
          · clear g1 g2
            go_wp2_with (at_builtin; refine wpList_append_own _ rfl (.tmp 10) (.tmp 14) 35 rfl w.heap.size 5 i0 (.int .u8 0) 1 1 Try.underlying35 hi hz0 hz1 hz2 rfl (by decide) _ _ _ rfl (hown.alloc _) ⟨wr.heap.size, 0, none⟩ 1 1 [.int .u8 s[k].toNat] rfl rfl (cell_one_new _ _ _) (by intro u hu; simp at hu; subst hu; rfl) (by unfold maxLen; omega) (by omega) (by simp; omega) ?_; intro v1 w1 hown1 hgrow1 _)
            go_roundw
            case rel =>
              refine ⟨k + 1, d ++ [s[k]], by omega, by go_num, ?_, HPB.out, by simp; omega, (hb.alloc (by omega) _).grown hgrow1 (by simp; omega) (fun j hj => (hown.lt j hj).1)⟩
              rw [List.length_append, List.map_append]
              exact hown1
            case measure => simp [intOf]; omega
    · have hke : k = s.size := by omega
      have hcv := run_convert_own wr 35 9 5 _ Try.underlying35 Try.underlying5 Try.underlying9 hown
      have HKE := Lib.hid hke
      clear hke
      go_wp2
      go_ret
      refine ⟨?_, hb⟩
      have e := hp.out
      unfold ToldPart at e
      rw [HKE.out, List.drop_of_length_le (by exact Nat.le_refl _)] at e
      unfold toldOf
      rw [e]
      simp [Plain.told]
end Go.Proofs.Ytfllliifkgpbkaa
