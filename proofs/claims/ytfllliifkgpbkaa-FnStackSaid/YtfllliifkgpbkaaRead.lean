/-
  impl.ReadSlice reads a list of tokens, each with its text and the line, and the end. Conditions: the tokens are of those of which the statements speak; the line is an int.
-/
import Derived.Test.YtfllliifkgpbkaaNext
import Derived.Lib.Hide
import Derived.Deep.DeepMust
namespace Go.Proofs.Ytfllliifkgpbkaa
open Go.Lib Go.RowKit

/-- What is read of a list of tokens. -/
def placed (ts : List Tk) (L : Int) : List Pl := ts.map (fun t => (t.1, toldOf t.2, L)) ++ [(-1, ByteArray.empty, 0)]

theorem placed_len (ts : List Tk) (L : Int) : (placed ts L).length = ts.length + 1 := by simp [placed]
theorem placed_get {ts : List Tk} {L : Int} {k : Nat} {t : Tk} (h : ts[k]? = some t) : (placed ts L)[k]? = some (t.1, toldOf t.2, L) := by
  have hk : k < ts.length := (List.getElem?_eq_some_iff.1 h).1
  unfold placed
  rw [List.getElem?_append_left (by simpa using hk)]
  simp [h]
theorem placed_end (ts : List Tk) (L : Int) : (placed ts L)[ts.length]? = some (-1, ByteArray.empty, 0) := by simp [placed]

theorem SliceAt.keep {w w' : World} {base g n : Nat} {v : Value} {ts : List Tk} {L p : Int} {row : Option Nat} (h : SliceAt w base g v n ts L p) (hg : w.grownBy w' row) (h1 : some g ≠ row) (h2 : v.ownBlock = none ∨ v.ownBlock ≠ row) :
    SliceAt w' base g v n ts L p := ⟨h.1.grown hg h1, h.2.kept hg h2⟩
theorem SliceAt.below {w w' : World} {base g n : Nat} {v : Value} {ts : List Tk} {L p : Int} (h : SliceAt w base g v n ts L p) (hb : Below w.heap.size w w') : SliceAt w' base g v n ts L p :=
  h.keep (row := none) ⟨hb.os, hb.tape, hb.output, hb.size, fun j hj _ => hb.block j hj⟩ (by simp) (by cases v.ownBlock <;> simp)

theorem grown_set (w : World) (p : Addr) (u : Value) : w.grownBy (w.setCell p u) (some p.block) :=
  ⟨rfl, rfl, rfl, by simp [World.setCell], fun j _ hne => Below.heap_setCell _ _ _ _ (fun e => hne (by rw [e]))⟩
theorem own_set {w : World} {base : Nat} {e : TypeId} {size n : Nat} {v : Value} {xs : List Value} (h : w.ownsRow base e size v n xs) {p : Addr} (hp : ∀ k, v.ownBlock = some k → k ≠ p.block) (u : Value) : (w.setCell p u).ownsRow base e size v n xs :=
  h.kept (grown_set w p u) (by
    cases hv : v.ownBlock with
    | none => exact .inl rfl
    | some k => exact .inr fun he => hp k hv (by injection he))
theorem SliceAt.set {w : World} {base g n : Nat} {v : Value} {ts : List Tk} {L q : Int} (h : SliceAt w base g v n ts L q) {p : Addr} (h1 : g ≠ p.block) (hp : ∀ k, v.ownBlock = some k → k ≠ p.block) (u : Value) :
    SliceAt (w.setCell p u) base g v n ts L q := ⟨h.1.far h1 u, own_set h.2 hp u⟩

theorem Try.infoPl : (Try.prog.info? 48).map (fun i => (i.zero, i.size, i.bytes)) = some (some (.agg #[.int .i64 0, .string { data := #[] }, .int .i64 0]), 3, 32) := by kernel_rfl

/-- What is read: a row of the call's own. -/
def ReadMade (n : Nat) (ps : List Pl) (w : World) (e : Ending) (w' : World) : Prop :=
  ∃ v, e = .returned v ∧ w'.ownsRow w.heap.size 48 3 v n (plCells ps) ∧ Below w.heap.size w w'

set_option maxRecDepth 100000 in
set_option maxHeartbeats 3200000 in
theorem read_any (A : Option Addr) (n cap : Nat) (ts : List Tk) (L : Int) (w : World) (h : Held w w.heap.size 2 A n (tkCells ts)) (hgood : GoodTks n ts) :
    Calls Try.prog 13 #[.slice A n cap, .int .i64 L] w (ReadMade (n + 1) (placed ts L) w) := by
  obtain ⟨i0, hi, hz0, hz1, hz2⟩ := info_parts Try.infoPl
  have hn : n ≤ 60 := hgood.1
  have hlen : Hid (ts.length = n) := by
    have := h.1
    rw [tkCells_len] at this
    exact (by omega : ts.length = n)
  go_enter Try.func13, Try.ntmps13
  go_wp2_with fail
  refine (slice_any A n cap ts L w h hgood).mono ?_
  rintro e w0 ⟨g, v, rfl, hg, hS0, hb0⟩
  have hbs0 := hb0.size
  go_wp2
  go_loopw [6, 15] (fun out i wr => ∃ k : Nat, k ≤ n + 1 ∧ i = .int .i64 k ∧ SliceAt wr w.heap.size g v n (mades ts) L ((k : Int) - 1) ∧
      wr.ownsRow w.heap.size 48 3 out k (plCells ((placed ts L).take k)) ∧ Below w.heap.size w wr) (fun _ i _ => n + 1 - (intOf i).toNat)
  case atStart => exact ⟨0, Nat.zero_le _, rfl, hS0.below ((Below.refl _ _).alloc (Nat.le_refl _) _), World.ownsRow_made _ _ _ hbs0 (by decide) rfl, hb0.alloc hbs0 _⟩
  case round =>
    obtain ⟨k, hk, rfl, hS, hown, hb⟩ := hrel
    have hbs := hb.size
    by_cases hlt : k < n
    · obtain ⟨⟨t, s⟩, ht⟩ : ∃ t, ts[k]? = some t := ⟨_, List.getElem?_eq_getElem (by rw [hlen.out]; exact hlt)⟩
      obtain ⟨t0, t1, t2, hs⟩ := hgood.2 (t, s) (List.mem_of_getElem? ht)
      simp only at t0 t1 t2 hs
      have HT := Lib.hid ht
      clear ht
      have e1 : (t == -1) = false := beq_eq_false_iff_ne.2 t0
      have e2 : (t != -1) = true := by rw [bne_iff_ne]; exact t0
      go_wp2_with fail
      refine (next_tok w.heap.size g v n (mades ts) L k (t, toldOf s) wr hS hlt (by omega) (mades_get HT.out)).mono ?_
      rintro e w1 ⟨rfl, hS1, hg1⟩
      have hB1 : Below w.heap.size w w1 := hb.grown hg1 (by omega) (fun j hj => by injection hj; omega)
      have hbs1 := hB1.size
      have hown1 : w1.ownsRow w.heap.size 48 3 u6 k (plCells ((placed ts L).take k)) := hown.kept hg1 (.inr (own_blk_ne hown hS.1 (by decide)))
      clear hS hown hb hg1 hbs
      go_wp2_with fail
      refine (text_tok w.heap.size g v n (mades ts) L k (t, toldOf s) _ (hS1.below ((Below.refl _ _).alloc (Nat.le_refl _) _)) hlt (mades_get HT.out)).mono ?_
      rintro e w2 ⟨rfl, m, hw2⟩
      have hb2 : Below w1.heap.size w1 w2 := by rw [hw2]; exact below_drewN ((Below.refl _ _).alloc (Nat.le_refl _) _) _
      have hblk : Blk w2 w1.heap.size 48 #[.int .i64 t, .string { data := #[] }, .int .i64 0] := by rw [hw2]; exact Blk.new w1 _ _
      clear hw2
      have hS2 := hS1.below hb2
      have hown2 := hown1.kept (row := none) ⟨hb2.os, hb2.tape, hb2.output, hb2.size, fun j hj _ => hb2.block j hj⟩ (by cases u6.ownBlock <;> simp)
      have hB2 := hB1.trans (hb2.mono hbs1)
      have hbs2 := hb2.size
      go_wp2_with fail
      refine (line_any w.heap.size g v n (mades ts) L k w2 hS2).mono ?_
      rintro e w3 ⟨rfl, rfl⟩
      have hne : g ≠ w1.heap.size := fun e => by have := hS1.1.lt; omega
      have hS3 := ((hS2.set (p := ⟨w1.heap.size, 1, none⟩) hne (fun j hj => by have := (hS1.2.lt j hj).2; show j ≠ w1.heap.size; omega) (.string (toldOf s))).set (p := ⟨w1.heap.size, 2, none⟩) hne (fun j hj => by have := (hS1.2.lt j hj).2; show j ≠ w1.heap.size; omega) (.int .i64 L))
      have hown3 := own_set (p := ⟨w1.heap.size, 2, none⟩) (own_set (p := ⟨w1.heap.size, 1, none⟩) hown2 (fun j hj => by have := (hown1.lt j hj).2; show j ≠ w1.heap.size; omega) (.string (toldOf s))) (fun j hj => by have := (hown1.lt j hj).2; show j ≠ w1.heap.size; omega) (.int .i64 L)
      have hB3 := (hB2.setCell (p := ⟨w1.heap.size, 1, none⟩) hbs1 (.string (toldOf s))).setCell (p := ⟨w1.heap.size, 2, none⟩) hbs1 (.int .i64 L)
      have hbs3 := hB3.size
      have k0 := hblk.cell 0
      have k1 := hblk.cell 1
      have k2 := hblk.cell 2
      have q1 := hblk.frozen 1
      have q2 := hblk.frozen 2
      simp only [List.getElem?_toArray, List.getElem?_cons_zero, List.getElem?_cons_succ] at k0 k1 k2
      clear hS1 hS2 hown1 hown2 hB1 hB2 hb2
      have hnew3 : ∀ o, (((w2.setCell ⟨w1.heap.size, 1, none⟩ (.string (toldOf s))).setCell ⟨w1.heap.size, 2, none⟩ (.int .i64 L)).alloc o).heap[w2.heap.size]? = some o := fun o => by
        have e := heap_alloc_new ((w2.setCell ⟨w1.heap.size, 1, none⟩ (.string (toldOf s))).setCell ⟨w1.heap.size, 2, none⟩ (.int .i64 L)) o
        have hz : ((w2.setCell ⟨w1.heap.size, 1, none⟩ (.string (toldOf s))).setCell ⟨w1.heap.size, 2, none⟩ (.int .i64 L)).heap.size = w2.heap.size := by simp [World.setCell]
        rwa [hz] at e
      have HNEW3 := Lib.hid hnew3
      clear hnew3
      go_wp2_with (at_builtin; go_must (refine wpList_append_own _ rfl (.tmp 30) (.tmp 32) 32 rfl w.heap.size 48 i0 (.agg #[.int .i64 0, .string { data := #[] }, .int .i64 0]) 3 32 Try.underlying32 hi hz0 hz1 hz2 rfl (by decide) _ _ _ rfl (hown3.alloc _) ⟨w2.heap.size, 0, none⟩ 1 1 [.int .i64 t, .string (toldOf s), .int .i64 L] rfl rfl (World.news_of_block (cs := #[.int .i64 t, .string (toldOf s), .int .i64 L]) (t := 48) (fr := (0, 0)) (HNEW3.out _)) (by simp [Value.oneCell']) (by unfold maxLen; omega) (by omega) (by simp; omega) ?_; intro v4 w4 hown4 hgrow4 _))
      go_roundw
      case rel =>
        have hSa := hS3.below ((Below.refl _ _).alloc (Nat.le_refl _) (.cells #[.int .i64 t, .string (toldOf s), .int .i64 L] 48))
        have e : (((k + 1 : Nat) : Int) - 1) = (k : Int) := by omega
        refine ⟨k + 1, by omega, by go_num, ?_, ?_, (hB3.alloc (by omega) _).grown hgrow4 (by simp; omega) (fun j hj => (hown3.lt j hj).1)⟩
        · rw [e]
          exact hSa.keep hgrow4 (Ne.symm (own_blk_ne hown3 hS3.1 (by decide))) (own_own_ne hS3.2 hown3 (by decide))
        · rw [take_get (placed_get HT.out), plCells_snoc]
          exact hown4
      case measure => simp [intOf]; omega
    · by_cases hke : k = n
      · obtain rfl : n = k := hke.symm
        clear hk hlt
        go_wp2_with fail
        refine (next_end w.heap.size g v n (mades ts) L n wr hS (Nat.le_refl _) (by omega)).mono ?_
        rintro e w1 ⟨rfl, hS1, hg1⟩
        have hB1 : Below w.heap.size w w1 := hb.grown hg1 (by omega) (fun j hj => by injection hj; omega)
        have hbs1 := hB1.size
        have hown1 : w1.ownsRow w.heap.size 48 3 u6 n (plCells ((placed ts L).take n)) := hown.kept hg1 (.inr (own_blk_ne hown hS.1 (by decide)))
        clear hS hown hb hg1 hbs
        go_wp2_with (at_builtin; go_must (refine wpList_append_own _ rfl (.tmp 30) (.tmp 32) 32 rfl w.heap.size 48 i0 (.agg #[.int .i64 0, .string { data := #[] }, .int .i64 0]) 3 32 Try.underlying32 hi hz0 hz1 hz2 rfl (by decide) _ _ _ rfl ((hown1.alloc _).alloc _) ⟨w1.heap.size + 1, 0, none⟩ 1 1 [.int .i64 (-1), .string { data := #[] }, .int .i64 0] rfl rfl (World.news_of_block (cs := #[.int .i64 (-1), .string { data := #[] }, .int .i64 0]) (t := 48) (fr := (0, 0)) (by have := heap_alloc_new (w1.alloc (.cells #[.int .i64 (-1), .string { data := #[] }, .int .i64 0] 48)) (.cells #[.int .i64 (-1), .string { data := #[] }, .int .i64 0] 48); simpa using this)) (by simp [Value.oneCell']) (by unfold maxLen; omega) (by omega) (by simp; omega) ?_; intro v4 w4 hown4 hgrow4 _))
        go_roundw
        case rel =>
          have hSa := (hS1.below ((Below.refl _ _).alloc (Nat.le_refl _) (.cells #[.int .i64 (-1), .string { data := #[] }, .int .i64 0] 48)))
          have hSb := (hSa.below ((Below.refl _ _).alloc (Nat.le_refl _) (.cells #[.int .i64 (-1), .string { data := #[] }, .int .i64 0] 48)))
          have e : (((n + 1 : Nat) : Int) - 1) = (n : Int) := by omega
          refine ⟨n + 1, Nat.le_refl _, by go_num, ?_, ?_, ((hB1.alloc hbs1 _).alloc (by simp; omega) _).grown hgrow4 (by simp; omega) (fun j hj => (hown1.lt j hj).1)⟩
          · rw [e]; exact hSb.keep hgrow4 (Ne.symm (own_blk_ne hown1 hS1.1 (by decide))) (own_own_ne hS1.2 hown1 (by decide))
          · have hend := placed_end ts L
            rw [hlen.out] at hend
            rw [take_get hend, plCells_snoc]
            exact hown4
        case measure => simp [intOf]
      · have hke' : k = n + 1 := by omega
        have HKE := Lib.hid hke'
        have hge : n + 1 ≤ k := by omega
        clear hke hke'
        go_wp2
        go_ret
        refine ⟨_, rfl, ?_, hb⟩
        have e : (placed ts L).take k = placed ts L := List.take_of_length_le (by rw [placed_len, hlen.out, HKE.out]; exact Nat.le_refl _)
        rw [e] at hown
        rw [← HKE.out]
        exact hown
end Go.Proofs.Ytfllliifkgpbkaa
