/-
  FnStack answers true for every list of lists of tokens, and its argument reads behind the call as it read before. Conditions: none.
-/
import Derived.Test.YtfllliifkgpbkaaRows
import Derived.Test.YtfllliifkgpbkaaReadStack
import Derived.Test.YtfllliifkgpbkaaOpenLists
import Derived.Test.YtfllliifkgpbkaaTold
import Derived.Deep.RegionHeld3
namespace Go.Proofs.Ytfllliifkgpbkaa.fnStack
open Go.Lib Go.RowKit

set_option maxHeartbeats 1600000 in
theorem fits11_any (O : Option Addr) (m cap : Nat) (ls : List L1) (w : World) (h : Lists w w.heap.size O m ls) :
    Calls Try.prog 5 #[.slice O m cap] w (SomeBool (fun b => b = true → m ≤ 2147483647) w) := by
  by_cases hbig : 2147483647 < m
  · go_enter Try.func5, Try.ntmps5
    go_wp2
    go_ret
    exact ⟨false, by simp, rfl, Below.refl _ _⟩
  · have hm : m ≤ 2147483647 := by omega
    go_enter Try.func5, Try.ntmps5
    go_wp2
    go_loopw [10] (fun i wr => ∃ k : Nat, k ≤ m ∧ i = .int .i64 k ∧ Below w.heap.size w wr) (fun i _ => m - (intOf i).toNat)
    case atStart => exact ⟨0, Nat.zero_le _, rfl, Below.refl _ _⟩
    case round =>
      obtain ⟨k, hk, rfl, hb⟩ := hrel
      have hbs := hb.size
      by_cases hlt : k < m
      · obtain ⟨b, off, l, rfl, hbb, hl, c0⟩ := (h.below hb).at_ hlt
        have hHe := (h.below hb).2 l (List.mem_of_getElem? hl)
        clear hl
        go_wp2_with fail
        refine (fits10_any l.A l.n l.c l.ts _ (hHe.more hbs)).mono ?_
        rintro e w1 ⟨b1, _, rfl, hb1⟩
        have hB := hb.trans (hb1.mono hbs)
        cases b1 with
        | true =>
          go_wp2
          go_roundw
          case rel => exact ⟨k + 1, by omega, by go_num, hB⟩
          case measure => simp [intOf]; omega
        | false =>
          go_wp2
          go_ret
          exact ⟨false, by simp, rfl, hB⟩
      · go_wp2
        go_ret
        exact ⟨true, fun _ => hm, rfl, hb⟩

theorem allOf_cons (l : L1) (ls : List L1) : allOf (l :: ls) = allOf ls ++ mades l.ts := by simp [allOf]

/-- What has been gathered of the lists from place k on. -/
def Due (ls : List L1) (k : Nat) (D : List Tk) : Prop := D = allOf (ls.drop k) ∧ ∀ l ∈ ls.drop k, GoodTks l.n l.ts

theorem Due.more {ls : List L1} {k : Nat} {D : List Tk} {l : L1} (h : Due ls (k + 1) D) (hl : ls[k]? = some l) (hg : GoodTks l.n l.ts) : Due ls k (D ++ mades l.ts) := by
  obtain ⟨hk, rfl⟩ := List.getElem?_eq_some_iff.1 hl
  have e := List.drop_eq_getElem_cons hk
  refine ⟨by rw [e, allOf_cons, h.1], fun x hx => ?_⟩
  rw [e] at hx
  rcases List.mem_cons.1 hx with rfl | hx
  · exact hg
  · exact h.2 x hx

theorem held_pair (w : World) (a b : Value) (t : TypeId) : Held (w.alloc (.cells #[a, b] t)) (w.heap.size + 1) 2 (some ⟨w.heap.size, 0, none⟩) 1 [a, b] :=
  ⟨rfl, fun _ => ⟨w.heap.size, 0, rfl, Nat.lt_succ_self _, fun i v hv => by
    have := new_cell w #[a, b] t i
    rw [Nat.zero_add, this]
    simpa using hv⟩⟩

section
variable {P : Program} {W wx w1 : World} {B : Nat} {a b : Value}
theorem box_alloc (h : wx.cell? ⟨B, 0, none⟩ = some a ∧ wx.cell? ⟨B, 1, none⟩ = some b ∧ B < wx.heap.size ∧ Below W.heap.size W wx) (o : Obj) :
    (wx.alloc o).cell? ⟨B, 0, none⟩ = some a ∧ (wx.alloc o).cell? ⟨B, 1, none⟩ = some b ∧ B < (wx.alloc o).heap.size ∧ Below W.heap.size W (wx.alloc o) :=
  ⟨(World.cell?_alloc_lt _ _ _ h.2.2.1).trans h.1, (World.cell?_alloc_lt _ _ _ h.2.2.1).trans h.2.1, by simp; omega, h.2.2.2.alloc h.2.2.2.size o⟩
theorem box_drew (h : wx.cell? ⟨B, 0, none⟩ = some a ∧ wx.cell? ⟨B, 1, none⟩ = some b ∧ B < wx.heap.size ∧ Below W.heap.size W wx) :
    wx.drew.cell? ⟨B, 0, none⟩ = some a ∧ wx.drew.cell? ⟨B, 1, none⟩ = some b ∧ B < wx.drew.heap.size ∧ Below W.heap.size W wx.drew := ⟨h.1, h.2.1, h.2.2.1, h.2.2.2.drew⟩
theorem box_grown {row : Option Nat} (h : wx.cell? ⟨B, 0, none⟩ = some a ∧ wx.cell? ⟨B, 1, none⟩ = some b ∧ B < wx.heap.size ∧ Below W.heap.size W wx) (hg : wx.grownBy w1 row) (hr : ∀ k, row = some k → k ≠ B ∧ W.heap.size ≤ k) :
    w1.cell? ⟨B, 0, none⟩ = some a ∧ w1.cell? ⟨B, 1, none⟩ = some b ∧ B < w1.heap.size ∧ Below W.heap.size W w1 := by
  have hb : w1.heap[B]? = wx.heap[B]? := hg.block B h.2.2.1 (fun e => (hr B e.symm).1 rfl)
  exact ⟨(World.cell?_of_block (w := wx) hb).trans h.1, (World.cell?_of_block (w := wx) hb).trans h.2.1, Nat.lt_of_lt_of_le h.2.2.1 hg.size, h.2.2.2.grown hg h.2.2.2.size (fun k hk => (hr k hk).2)⟩
theorem boxed_own {f : FuncId} {args : Array Value} {v v' : Value} {base n size : Nat} {e : TypeId} {xs : List Value} (c : Calls P f args wx fun e w' => e = .returned v ∧ Below wx.heap.size wx w')
    (h : wx.cell? ⟨B, 0, none⟩ = some a ∧ wx.cell? ⟨B, 1, none⟩ = some b ∧ B < wx.heap.size ∧ Below W.heap.size W wx) (ho : wx.ownsRow base e size v' n xs) :
    Calls P f args wx fun e' w' => e' = .returned v ∧ (w'.cell? ⟨B, 0, none⟩ = some a ∧ w'.cell? ⟨B, 1, none⟩ = some b ∧ B < w'.heap.size ∧ Below W.heap.size W w') ∧ w'.ownsRow base e size v' n xs :=
  c.mono fun _ _ ⟨he, hb⟩ => ⟨he, ⟨(hb.cell (p := ⟨B, 0, none⟩) h.2.2.1).trans h.1, (hb.cell (p := ⟨B, 1, none⟩) h.2.2.1).trans h.2.1, Nat.lt_of_lt_of_le h.2.2.1 hb.size, h.2.2.2.trans (hb.mono h.2.2.2.size)⟩, own_below ho hb⟩
end

/-- A row that was made later lies apart from an older one. -/
theorem own_apart2 {wx wy : World} {b : Nat} {e e' : TypeId} {size size' n n' : Nat} {v v' : Value} {xs xs' : List Value} (h : wx.ownsRow b e size v n xs) (h' : wy.ownsRow wx.heap.size e' size' v' n' xs') :
    v'.ownBlock = none ∨ v'.ownBlock ≠ v.ownBlock := by
  cases hv : v'.ownBlock with
  | none => exact .inl rfl
  | some k =>
    refine .inr fun he => ?_
    have h1 := (h.lt k he.symm).2
    have h2 := (h'.lt k hv).1
    omega

set_option maxRecDepth 100000 in
set_option maxHeartbeats 6400000 in
theorem walk (O : Option Addr) (m cap : Nat) (ls : List L1) (w : World) (h : Lists w w.heap.size O m ls) (hns : ∀ l ∈ ls, l.n ≤ 9223372036854775807) :
    Calls Try.prog 3 #[.slice O m cap] w fun e w' => e = .returned (.bool true) ∧ Below w.heap.size w w' := by
  obtain ⟨i0, hi, hz0, hz1, hz2⟩ := info_parts Try.infoTk
  have hlen := Lib.hid h.len
  go_enter Try.func3, Try.ntmps3
  go_wp2_with fail
  refine (fits11_any O m cap ls w h).mono ?_
  rintro e w1 ⟨b1, hm0, rfl, s1⟩
  cases b1 with
  | false =>
    go_wp2
    go_ret
    exact ⟨rfl, s1⟩
  | true =>
  have hm : m ≤ 2147483647 := hm0 rfl
  clear hm0
  have z1 := s1.size
  go_wp2
  go_loopw [3, 4] (fun due i wr => ∃ (k N : Nat) (D : List Tk), k ≤ m ∧ i = .int .i64 ((k : Int) - 1) ∧ wr.ownsRow w.heap.size 27 2 due N (tkCells D) ∧ Hid (Due ls k D) ∧ N + 60 * k ≤ 60 * m ∧ Below w.heap.size w wr) (fun _ i _ => (intOf i + 1).toNat)
  case atStart => exact ⟨m, 0, [], Nat.le_refl _, rfl, World.ownsRow_made _ _ _ z1 (by decide) rfl, ⟨by rw [List.drop_of_length_le (by rw [hlen.out]; exact Nat.le_refl _)]; rfl, by rw [List.drop_of_length_le (by rw [hlen.out]; exact Nat.le_refl _)]; simp⟩, by omega, s1.alloc z1 _⟩
  case round =>
    obtain ⟨k, N, D, hk, rfl, hown, hdue, hNk, hb⟩ := hrel
    have hbs := hb.size
    clear s1 z1
    match k, hk, hdue, hNk with
    | k + 1, hk, hdue, hNk =>
      obtain ⟨b, off, l, rfl, hbb, hl, c0⟩ := (h.below hb).at_ (show k < m by omega)
      have hHe := (h.below hb).2 l (List.mem_of_getElem? hl)
      have e1 : (((k + 1 : Nat) : Int) - 1) = (k : Int) := by omega
      rw [e1]
      clear e1
      have hi0 : (0 : Int) ≤ (k : Int) := Int.natCast_nonneg _
      have hi1 : (k : Int) < (m : Int) := by omega
      have hln := hns l (List.mem_of_getElem? hl)
      obtain ⟨A, n, c, ts⟩ := l
      simp only at c0 hHe hln
      have HL := Lib.hid hl
      clear hl
      go_wp2_with fail
      refine (tokensOk_any A n c ts wr (hHe.more hbs) hln).mono ?_
      rintro e w2 ⟨b2, hg0, rfl, s2'⟩
      have s2 := hb.trans (s2'.mono hbs)
      have own2 := own_below hown s2'
      have z2 := s2.size
      clear s2' hb hbs hown
      cases b2 with
      | false =>
        go_wp2
        go_ret
        exact ⟨rfl, s2⟩
      | true =>
      have hG : GoodTks n ts := hg0 rfl
      clear hg0
      have hn60 : n ≤ 60 := hG.1
      obtain ⟨b', off', l', hO', _, hl', d0⟩ := (h.below s2).at_ (show k < m by omega)
      obtain ⟨rfl, rfl⟩ : b' = b ∧ off' = off := by injection hO' with hO'; injection hO' with h1 h2; exact ⟨h1.symm, h2.symm⟩
      obtain rfl : l' = ⟨A, n, c, ts⟩ := by rw [HL.out] at hl'; injection hl' with hl'; exact hl'.symm
      simp only at d0
      have hdn := Lib.hid (hdue.out.more HL.out hG)
      have HH := h.2 _ (List.mem_of_getElem? hl')
      simp only at HH
      have hlen1 : Hid (ts.length = n) := by
        have := HH.1
        rw [tkCells_len] at this
        exact (by omega : ts.length = n)
      clear hl' hO' c0 hHe hdue hi0 hi1
      go_wp2
      go_loopw [3, 29] (fun due i wr => ∃ q : Nat, q ≤ n ∧ i = .int .i64 q ∧ wr.ownsRow w.heap.size 27 2 due (N + q) (tkCells (D ++ (mades ts).take q)) ∧ Below w.heap.size w wr) (fun _ i _ => n - (intOf i).toNat)
      case atStart => exact ⟨0, Nat.zero_le _, rfl, by simpa using own2, s2⟩
      case round =>
        obtain ⟨q, hq, rfl, hown, hb⟩ := hrel
        have hbs := hb.size
        clear own2 s2 z2
        by_cases hlt : q < n
        · obtain ⟨bt, ot, ⟨t, s⟩, rfl, hbb2, ht, c0, c1⟩ := (HH.below hb).tk hlt
          obtain ⟨_, _, _, hs⟩ := hG.2 (t, s) (List.mem_of_getElem? ht)
          have HT := Lib.hid ht
          clear ht d0
          simp only at c0 c1 hs
          have hs' : s.size ≤ 140737488351232 := by omega
          have hi0 : (0 : Int) ≤ (q : Int) := Int.natCast_nonneg _
          have hi1 : (q : Int) < (n : Int) := by omega
          go_wp2_with fail
          have hS0 : (wr.alloc (.cells #[.int .i64 t, .string s] 27)).cell? ⟨wr.heap.size, 0, none⟩ = some (.int .i64 t) ∧ (wr.alloc (.cells #[.int .i64 t, .string s] 27)).cell? ⟨wr.heap.size, 1, none⟩ = some (.string s) ∧
              wr.heap.size < (wr.alloc (.cells #[.int .i64 t, .string s] 27)).heap.size ∧ Below w.heap.size w (wr.alloc (.cells #[.int .i64 t, .string s] 27)) :=
            ⟨new_cell wr #[.int .i64 t, .string s] 27 0, new_cell wr #[.int .i64 t, .string s] 27 1, by simp, hb.alloc hbs _⟩
          have hownx := hown.alloc (.cells #[.int .i64 t, .string s] 27)
          clear c0 c1
          generalize hwx : wr.alloc (.cells #[.int .i64 t, .string s] 27) = wx at *
          clear hwx
          generalize hB : wr.heap.size = B at hS0
          clear hb
          have hownd : wx.drew.ownsRow w.heap.size 27 2 u3 (N + q) (tkCells (D ++ (mades ts).take q)) := hownx
          go_region_held3 (fun w' => w'.cell? ⟨B, 0, none⟩ = some (.int .i64 t) ∧ w'.cell? ⟨B, 1, none⟩ = some (.string s) ∧ B < w'.heap.size ∧ Below w.heap.size w w')
            (first | assumption | exact box_drew (by assumption) | exact box_alloc (by assumption) _)
            (first
              | (go_at_call 7; refine (boxed_own (W := w) (B := B) (a := .int .i64 t) (b := .string s) (told_any s _ hs') ?_ hownd).mono ?_; (assumption); rintro e w' ⟨rfl, hS1, hown1⟩)
              | (refine step_append_held _ (by rfl) _ _ _ (by rfl) w.heap.size 27 i0 (.agg #[.int .i64 0, .string { data := #[] }]) 2 24 Try.underlying24 hi hz0 hz1 hz2 rfl (by decide) u3 (N + q) (tkCells (D ++ (mades ts).take q)) (by rfl) (hown1.alloc _) (w'.heap.size + 1) (some ⟨w'.heap.size, 0, none⟩) 1 1 [.int .i64 t, .string (toldOf s)] (by rfl) (held_pair _ _ _ _) (by simp [Value.oneCell']) (by unfold maxLen; omega) (by omega) (box_alloc hS1 _).2.2.2.size ?_; intro v4 w4 hown4 hgrow4; have hS4 := box_grown (box_alloc hS1 _) hgrow4 (fun j hj => ⟨by have := (hown.lt j hj).2; omega, (hown.lt j hj).1⟩)))
          go_wp2
          go_roundw
          case rel =>
            refine ⟨q + 1, by omega, by go_num, ?_, hS4.2.2.2⟩
            rw [take_get (mades_get HT.out), ← List.append_assoc, tkCells_snoc]
            exact hown4
          case measure => simp [intOf]; omega
        · have hge : n ≤ q := by omega
          have hqe : q = n := by omega
          have HQE := Lib.hid hqe
          clear hqe
          go_wp2
          go_roundw
          case rel => exact ⟨k, N + q, D ++ mades ts, by omega, by go_num, by have e : (mades ts).take q = mades ts := List.take_of_length_le (by rw [mades_len, hlen1.out, HQE.out]; exact Nat.le_refl _); rwa [e] at hown, hdn, by omega, hb⟩
          case measure => simp [intOf]
    | 0, hk, hdue, hNk =>
      rw [show (((0 : Nat) : Int) - 1) = -1 from rfl]
      by_cases hm1 : m < 1
      · go_wp2
        go_ret
        exact ⟨rfl, hb⟩
      by_cases hm8 : 8 < m
      · go_wp2
        go_ret
        exact ⟨rfl, hb⟩
      go_wp2_with fail
      have HLS := (h.below hb).more hbs
      obtain ⟨hDe, hgood⟩ := hdue.out
      rw [List.drop_zero] at hDe hgood
      have hND : Hid (N = D.length) := by
        have := hown.1
        rw [tkCells_len] at this
        exact (by omega : N = D.length)
      have hlen8 : Hid (m ≤ 8) := (by omega : m ≤ 8)
      have hall : Hid (D = allOf ls) := hDe
      refine (readStack_any O m cap ls wr HLS (by omega) (by omega) hgood).mono ?_
      rintro e w2 ⟨v2, rfl, hout, hb2⟩
      have hown2 := own_below hown hb2
      have hB2 := hb.trans (hb2.mono hbs)
      have HAP := Lib.hid (own_apart2 hown hout)
      clear hown hb2 HLS
      have hz2w := hB2.size
      go_wp2_with (at_builtin; go_must (refine wpList_append_own _ rfl (.tmp 53) (.tmp 55) 24 rfl w.heap.size 27 i0 (.agg #[.int .i64 0, .string { data := #[] }]) 2 24 Try.underlying24 hi hz0 hz1 hz2 rfl (by decide) _ _ _ rfl (hown2.alloc _) ⟨w2.heap.size, 0, none⟩ 1 1 [.int .i64 (-1), .string { data := #[] }] rfl rfl (World.news_of_block (cs := #[.int .i64 (-1), .string { data := #[] }]) (t := 27) (fr := (0, 0)) (heap_alloc_new w2 _)) (by simp [Value.oneCell']) (by unfold maxLen; omega) (by omega) (by simp; omega) ?_; intro v4 w4 hown4 hgrow4 _))
      have hout4 := (hout.alloc (.cells #[.int .i64 (-1), .string { data := #[] }] 27)).kept hgrow4 HAP.out
      have hB4 := (hB2.alloc hz2w (.cells #[.int .i64 (-1), .string { data := #[] }] 27)).grown hgrow4 (by simp; omega) (fun j hj => (hown2.lt j hj).1)
      have hz4 := hB4.size
      have hown5 : w4.ownsRow w.heap.size 27 2 v4 (N + 1) (tkCells (D ++ [endTk])) := by
        rw [tkCells_snoc]
        exact hown4
      rw [← hall.out, ← hND.out] at hout4
      obtain ⟨A4, c4, rfl⟩ := own_form hout4
      obtain ⟨A5, c5, rfl⟩ := own_form hown5
      refine (same_yes A4 A5 (N + 1) c4 c5 (D ++ [endTk]) w4 (Held.of_own hout4) (Held.of_own hown5) (by omega)).mono ?_
      rintro e w5 ⟨rfl, hb5⟩
      go_wp2
      go_ret
      exact ⟨rfl, hB4.trans (hb5.mono hz4)⟩

theorem own : ownKnob Try.prog.godebug = none := by kernel_rfl
theorem laidOut : laidOutB Try.prog = true := by kernel_rfl

open Go.ChangeShapes Go.WideShapes in
set_option maxRecDepth 100000 in
theorem lifted (os : Os) (started : os.Started) (H : Type) (enc : TypeId × Value → H) :
    ReturnsInHanded {} Try.checked os 3 .any (Rows.fnStackSpec.pre6 enc Try.prog Try.f3 Rows.fnStackRow.domain false) (Rows.fnStackSpec.post enc Try.prog Try.f3 false true false false) := by
  refine returnsInHanded_of_change (C := Try.checked) own started (by kernel_rfl) Try.func3
    (ChangeSpec.witness6 (enc := enc) (C := Try.checked) false ⟨#[], #[.slice none 0 0], []⟩ 8 (by kernel_rfl) (by kernel_rfl) (by kernel_rfl) (by kernel_rfl)) ?_
  intro W base args ds gs before hval0 hW hcnd _
  have hval : ∀ (j : Nat) t v, Try.f3.params[j]? = some t → args[j]? = some v → Value.okWide Try.prog W .any base t v := hval0
  have hW' := hW
  obtain ⟨p, q, hA0, hV, rfl, hfz, hnd⟩ := hW
  have hA : DataW.TrodAll enc Try.prog W 0 (fun _ => true) true Try.f3.params.toList args.toList ds p := hA0
  rw [Try.params3] at hA hval
  obtain ⟨v0, vs0, d0, ds0, p0, q0, hargs, rfl, rfl, h0, r0⟩ := trodAll_cons hA
  obtain ⟨rfl, rfl, rfl⟩ := trodAll_nil r0
  obtain rfl : args = #[v0] := by cases args; simp_all
  obtain ⟨rfl, rfl⟩ := trodVars_none hV
  have h0k := h0
  obtain ⟨O, m, cap, ls, rfl, hls, hns⟩ := open_lists (hval 0 22 v0 rfl rfl) h0
  clear hA0 hval0
  simp only [List.append_nil] at hW'
  have hlt : ∀ x ∈ p0, x.block < W.heap.size := fun x hx => by simpa using hW'.lt x hx
  refine (walk O m cap ls W hls hns).mono fun e W' ⟨he, hb⟩ => ?_
  subst he
  refine ⟨_, rfl, _, _, _, [], p0 ++ [], [], hW', ?_, ?_, rfl, hb.frame _, fun h => by cases h⟩
  · exact trodAll_cons_mk (shut_bool Try.underlying4 _) trodAll_mk0
  · exact trodAll_cons_mk (Below.trod laidOut (by kernel_rfl) (of_decide_eq_true (by kernel_rfl)) h0k hb hlt) trodAll_mk0

theorem over : Rows.fnStackRow.holds Try.pinned (OpenSpec.ofChange Rows.fnStackSpec) :=
  OpenClaim.holds_of_wide 3 Try.f3 rfl rfl rfl rfl rfl rfl rfl ⟨rfl, rfl, rfl, rfl, rfl⟩ rfl rfl rfl rfl rfl (by kernel_rfl) Try.func3 (by kernel_rfl)
    (of_decide_eq_true (by kernel_rfl)) (by unfold Func.isWrapper; first | (rw [if_pos (by decide +kernel)]; kernel_rfl) | (rw [if_neg (by decide +kernel)]; exact ⟨rfl, rfl⟩))
    (fun os started H enc _ => lifted os started H enc)

/-- The statement. -/
theorem proved : Rows.FnStackSaid :=
  over
#print axioms proved
end Go.Proofs.Ytfllliifkgpbkaa.fnStack
