/-
  asmlex.zzReplaceAll puts a text in the place of each instance of another one. Conditions: at most 2^47 - 4096 bytes; the text that is looked for has 1 to 1000; the new one is no longer.
-/
import Derived.Test.YtfllliifkgpbkaaIndex
import Derived.Lib.AppendStr
import Derived.Laws.BytesArg
namespace Go.Proofs.Ytfllliifkgpbkaa
open Go.Lib Go.RowKit

/-- The text of a row of bytes that the call owns. -/
theorem run_convert_own {P : Program} (w : World) (src dst e : TypeId) (base : Nat) (hs : P.underlying src = some (.slice e)) (he : P.underlying e = some (.int .u8)) (hd : P.underlying dst = some .string)
    {v : Value} {n : Nat} {l : List UInt8} (h : w.ownsRow base e 1 v n (l.map fun b => Value.int .u8 b.toNat)) : (convert src dst v).run P w = .ok (.string ⟨l.toArray⟩) w := by
  have hn : l.length = n := by simpa using h.1
  rcases h.2 with ⟨rfl, h0⟩ | ⟨g, cap, cur, rfl, _⟩
  · have hl : l = [] := List.eq_nil_of_length_eq_zero (by omega)
    subst hl
    exact run_convert_bytes_nil w src e hs he 0 0 dst hd
  · have hx : strOfNums (l.map fun b => (b.toNat : Int)) = ⟨l.toArray⟩ := by
      unfold strOfNums
      rw [List.map_map]
      congr 1
      congr 1
      rw [List.map_congr_left (g := id) (fun b _ => by simp)]
      simp
    rw [run_convert_bytes_arg w src e hs he g 0 n cap (l.map fun b => (b.toNat : Int)) (by simpa using hn) ?_ dst hd, hx]
    intro i hi
    have hc := h.cells (g := g) rfl i (.int .u8 (l[i]'(by omega)).toNat) (by simp; exact ⟨_, List.getElem?_eq_getElem (by omega), rfl⟩)
    have hplain : (⟨g, 0, none⟩ : Addr).add i = ⟨g, 0 + i, none⟩ := by unfold Addr.add; split <;> simp_all
    rw [hplain] at hc
    rw [hc]
    simp [List.getD, List.getElem?_eq_getElem (show i < l.length by omega)]

theorem Try.info5 : (Try.prog.info? 5).map (fun i => (i.zero, i.size, i.bytes)) = some (some (.int .u8 0), 1, 1) := by kernel_rfl

theorem zzIndex_miss (s sub : ByteArray) (w : World) (hs : s.size ≤ 140737488355328) (h1 : 0 < sub.size) (h2 : sub.size ≤ 1000) (h : index s.data.toList sub.data.toList = -1) :
    Calls Try.prog 25 #[.string s, .string sub] w fun e w' => e = .returned (.int .i64 (-1)) ∧ w = w' :=
  (zzIndex_any s sub w hs h1 h2).mono fun _ _ ⟨he, hw⟩ => ⟨by rw [he, h], hw⟩
theorem zzIndex_hit (s sub : ByteArray) (i : Nat) (w : World) (hs : s.size ≤ 140737488355328) (h1 : 0 < sub.size) (h2 : sub.size ≤ 1000) (h : index s.data.toList sub.data.toList = i) :
    Calls Try.prog 25 #[.string s, .string sub] w fun e w' => e = .returned (.int .i64 i) ∧ w = w' :=
  (zzIndex_any s sub w hs h1 h2).mono fun _ _ ⟨he, hw⟩ => ⟨by rw [he, h], hw⟩

/-- What is done, and what is left. -/
def Part (s o n : List UInt8) (d : List UInt8) (r : ByteArray) : Prop := Plain.rep o n s = d ++ Plain.rep o n r.data.toList ∧ d.length + r.size ≤ s.length

theorem ext_take (r : ByteArray) (i : Nat) : (r.extract 0 i).data.toList = r.data.toList.take i := by rw [extract_data]; simp

theorem Part.hit {s o n d : List UInt8} {r : ByteArray} (h : Part s o n d r) (ho : o ≠ []) (hn : n.length ≤ o.length) {i : Nat} (hi : index r.data.toList o = i) :
    i + o.length ≤ r.size ∧ Part s o n (d ++ (r.extract 0 i).data.toList ++ n) (r.extract (i + o.length) r.size) := by
  have hroom : i + o.length ≤ r.size := Plain.index_room ho hi
  refine ⟨hroom, ?_, ?_⟩
  · rw [h.1, Plain.rep_hit ho hi, ext_take, extract_to_end]
    simp only [List.append_assoc]
  · have hl : (d ++ (r.extract 0 i).data.toList ++ n).length = d.length + i + n.length := by
      rw [ext_take]
      simp only [List.length_append, List.length_take]
      have : r.data.toList.length = r.size := rfl
      omega
    have hsz : (r.extract (i + o.length) r.size).size = r.size - (i + o.length) := by simp
    rw [hl, hsz]
    have := h.2
    omega

theorem strCells_list (s : ByteArray) : strCells s = s.data.toList.map fun b => Value.int .u8 b.toNat := rfl

set_option maxHeartbeats 800000 in
theorem zzReplaceAll_any (s o n : ByteArray) (w : World) (hs : s.size ≤ 140737488351232) (h1 : 0 < o.size) (h2 : o.size ≤ 1000) (hn : n.size ≤ o.size) :
    Calls Try.prog 24 #[.string s, .string o, .string n] w fun e w' => e = .returned (.string ⟨(Plain.rep o.data.toList n.data.toList s.data.toList).toArray⟩) ∧ Below w.heap.size w w' := by
  have ho : Hid (o.data.toList ≠ []) := fun e => by
    have := congrArg List.length e
    rw [Array.length_toList] at this
    have h0 : o.size = 0 := this
    omega
  obtain ⟨i0, hi, hz0, hz1, hz2⟩ := info_parts Try.info5
  go_enter Try.func24, Try.ntmps24
  go_wp2
  go_loopw [0, 7] (fun r out wr => ∃ (x : ByteArray) (d : List UInt8), r = .string x ∧ wr.ownsRow w.heap.size 5 1 out d.length (d.map fun b => Value.int .u8 b.toNat) ∧
      Hid (Part s.data.toList o.data.toList n.data.toList d x) ∧ d.length + x.size ≤ s.size ∧ Below w.heap.size w wr)
    (fun r _ _ => match r with | .string x => x.size | _ => 0)
  case atStart => exact ⟨s, [], rfl, World.ownsRow_nil _ _ _ _, ⟨rfl, by simp⟩, by simp, Below.refl _ _⟩
  case round =>
    obtain ⟨x, d, rfl, hown, hp, hd, hb⟩ := hrel
    have hbs := hb.size
    by_cases hm : index x.data.toList o.data.toList = -1
    · have HM := Lib.hid hm
      clear hm
      go_wp2_with (first
        | (go_at_call 25; refine (zzIndex_miss _ _ _ (by omega) (by omega) (by omega) HM.out).mono ?_; rintro e w' ⟨rfl, rfl⟩)
        | (at_builtin; refine wpList_append_own_string _ rfl (.tmp 14) (.tmp 15) 35 9 rfl w.heap.size 5 i0 Try.underlying35 Try.underlying9 hi hz0 hz1 hz2 _ _ _ rfl hown _ rfl (by unfold maxLen; omega) (by omega) (by omega) ?_; intro v' w1 hown1 hgrow1 _; rw [strCells_list, ← List.map_append] at hown1; have hcv := run_convert_own w1 35 9 5 _ Try.underlying35 Try.underlying5 Try.underlying9 hown1))
      go_ret
      refine ⟨?_, hb.grown hgrow1 (by omega) (fun k hk => (hown.lt k hk).1)⟩
      have e := hp.out.1
      rw [Plain.rep_miss HM.out] at e
      rw [e]
      rfl
    · have hge := index_ge x.data.toList o.data.toList
      obtain ⟨i, hi'⟩ : ∃ i : Nat, index x.data.toList o.data.toList = i := ⟨(index x.data.toList o.data.toList).toNat, by omega⟩
      have HI := Lib.hid hi'
      clear hi' hm hge
      obtain ⟨hroom, hp2⟩ := hp.out.hit ho.out (show n.data.toList.length ≤ o.data.toList.length from hn) HI.out
      have hroom' : i + o.size ≤ x.size := hroom
      have HP2 := Lib.hid hp2
      clear hp2 hroom
      have hxs : (x.extract 0 i).size = i := by simp; omega
      have HXS := Lib.hid hxs
      clear hxs
      go_wp2_with (first
        | (go_at_call 25; refine (zzIndex_hit _ _ i _ (by omega) (by omega) (by omega) HI.out).mono ?_; rintro e w' ⟨rfl, rfl⟩)
        | (at_builtin; refine wpList_append_own_string _ rfl (.tmp 18) (.tmp 21) 35 9 rfl w.heap.size 5 i0 Try.underlying35 Try.underlying9 hi hz0 hz1 hz2 _ _ _ rfl hown _ rfl (by rw [HXS.out]; unfold maxLen; omega) (by rw [HXS.out]; omega) (by omega) ?_; intro v1 w1 hown1 hgrow1 _; have hb1 := hb.grown hgrow1 (by omega) (fun k hk => (hown.lt k hk).1); have hbs1 := hb1.size; rw [HXS.out] at hown1)
        | (at_builtin; refine wpList_append_own_string _ rfl (.tmp 22) (.tmp 23) 35 9 rfl w.heap.size 5 i0 Try.underlying35 Try.underlying9 hi hz0 hz1 hz2 _ _ _ rfl hown1 _ rfl (by unfold maxLen; omega) (by omega) (by omega) ?_; intro v2 w2 hown2 hgrow2 _))
      go_roundw
      case rel =>
        refine ⟨_, d ++ (x.extract 0 i).data.toList ++ n.data.toList, rfl, ?_, HP2.out, ?_, hb1.grown hgrow2 (by omega) (fun k hk => (hown1.lt k hk).1)⟩
        · have e1 : (d ++ (x.extract 0 i).data.toList ++ n.data.toList).length = d.length + i + n.size := by
            have := HXS.out
            simp only [List.length_append, Array.length_toList]
            show d.length + (x.extract 0 i).size + n.size = _
            rw [this]
          rw [e1, List.map_append, List.map_append]
          exact hown2
        · exact HP2.out.2
      case measure =>
        simp
        omega
end Go.Proofs.Ytfllliifkgpbkaa
