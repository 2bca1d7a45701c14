/-
  impl.ReadStack reads lists of tokens that lie on a stack, the last one on top, and the end. Conditions: 1 to 8 lists of tokens of which the statements speak.
-/
import Derived.Test.YtfllliifkgpbkaaLists
namespace Go.Proofs.Ytfllliifkgpbkaa
open Go.Lib Go.RowKit

/-- The end. -/
def endTk : Tk := (-1, { data := #[] })

/-- Something is left on the stack, or all has been told. -/
def Left (wr : World) (B sB tb c : Nat) (gs : List Nat) (D : List Tk) (k : Nat) : Prop :=
  k ≤ D.length → ∃ rs, Stk wr B sB tb c rs ∧ rem rs = D.drop k ∧ rs ≠ [] ∧ rs.length ≤ 8 ∧ ∀ q ∈ rs, q.g ∈ gs

set_option maxRecDepth 100000 in
set_option maxHeartbeats 6400000 in
theorem readStack_any (O : Option Addr) (m cap : Nat) (ls : List L1) (w : World) (h : Lists w w.heap.size O m ls) (hm1 : 1 ≤ m) (hm : m ≤ 8) (hgood : ∀ l ∈ ls, GoodTks l.n l.ts) :
    Calls Try.prog 9 #[.slice O m cap] w (TkMade ((allOf ls).length + 1) (allOf ls ++ [endTk]) w) := by
  obtain ⟨i0, hi, hz0, hz1, hz2⟩ := info_parts Try.infoTk
  have hlen := Lib.hid h.len
  have htot := Lib.hid (total_le ls (fun l hl => (hgood l hl).1))
  go_enter Try.func9, Try.ntmps9
  go_wp2_with fail
  go_loopw [4, 13] (fun many i wr => ∃ (k tk : Nat) (A : Option Addr) (c : Nat) (rs : List Rd), k ≤ m ∧ i = .int .i64 k ∧ many = .int .i64 tk ∧ Hid (tk = 1 + total (ls.take k)) ∧
      Hid (Built wr w.heap.size w.heap.size (ls.take k) A c rs) ∧ Below w.heap.size w wr) (fun _ i _ => m - (intOf i).toNat)
  case atStart => exact ⟨0, 1, none, 0, [], Nat.zero_le _, rfl, rfl, rfl, ⟨Blk.new _ _ _, World.ownsRow_nil _ _ _ _, trivial, rfl, rfl, by simp⟩, (Below.refl _ _).alloc (Nat.le_refl _) _⟩
  case round =>
    obtain ⟨k, tk, A, c, rs, hk, rfl, rfl, htk, hbu, hb⟩ := hrel
    have hbs := hb.size
    have hlk : Hid ((ls.take k).length = k) := by
      show (ls.take k).length = k
      rw [List.length_take, hlen.out]; omega
    have htk' : tk ≤ 1 + 60 * k := by
      have h1 := total_le (ls.take k) (fun l hl => (hgood l (List.mem_of_mem_take hl)).1)
      rw [hlk.out] at h1
      have := htk.out
      omega
    by_cases hlt : k < m
    · obtain ⟨b, off, l, rfl, hbb, hl, c0⟩ := (h.below hb).at_ hlt
      have hlm : l ∈ ls := List.mem_of_getElem? hl
      have hG := hgood l hlm
      have hl60 : l.n ≤ 60 := hG.1
      have hHe := ((h.below hb).2 l hlm)
      have hll : Hid (l.ts.length = l.n) := by
        show l.ts.length = l.n
        have := hHe.1
        rw [tkCells_len] at this
        omega
      have HL := Lib.hid hl
      clear hl
      go_wp2_with fail
      refine (slice_any l.A l.n l.c l.ts 1 _ (hHe.more hbs) hG).mono ?_
      rintro e w1 ⟨g, v, rfl, hgg, hS, hb1⟩
      have hB1 : Blk w1 w.heap.size 39 #[.slice A k c] := by
        have h0 := hbu.out.1
        rw [hlk.out] at h0
        exact h0.below hb1 h0.lt
      have hO1 : w1.ownsRow w.heap.size 51 1 (.slice A k c) k (rs.reverse.map ifc) := by
        have h0 := hbu.out.2.1
        rw [hlk.out] at h0
        exact own_below h0 hb1
      have HB1 := Lib.hid hB1
      have hbs1 := hb1.size
      clear hB1
      go_wp2_with fail
      refine (push_any w.heap.size w.heap.size k c A (rs.reverse.map ifc) g w1 HB1.out hO1 (by omega) (by omega)).mono ?_
      rintro e w2 ⟨rfl, A', c', hB2, hO2, hOn⟩
      have hnew : Hid (Built w2 w.heap.size w.heap.size (ls.take k ++ [l]) A' c' (⟨g, v, mades l.ts, 0⟩ :: rs)) := by
        show Built w2 w.heap.size w.heap.size (ls.take k ++ [l]) A' c' (⟨g, v, mades l.ts, 0⟩ :: rs)
        rw [← hlk.out] at hB2 hO2 hOn
        exact hbu.out.push hbs hG hll.out hgg hS hb1 hB2 hO2 hOn
      have hB2w : Below w.heap.size w w2 := (hb.trans (hb1.mono hbs)).trans (hOn.below (by omega) (fun x hx => by
        rcases List.mem_cons.1 hx with rfl | hx
        · exact Nat.le_refl _
        · exact (hO1.lt x (by simpa using hx)).1))
      clear hB2 hO2 hOn hO1 hS hb1
      go_wp2
      go_roundw
      case rel =>
        refine ⟨k + 1, tk + l.n, A', c', ⟨g, v, mades l.ts, 0⟩ :: rs, by omega, by go_num, by go_num, ?_, ?_, hB2w⟩
        · show tk + l.n = 1 + total (ls.take (k + 1))
          rw [take_get HL.out, total_snoc, htk.out]
          omega
        · show Built w2 w.heap.size w.heap.size (ls.take (k + 1)) A' c' _
          rw [take_get HL.out]
          exact hnew.out
      case measure => simp [intOf]; omega
    · obtain rfl : m = k := by omega
      have hta : ls.take m = ls := List.take_of_length_le (by rw [hlen.out]; exact Nat.le_refl _)
      have hbu' : Built wr w.heap.size w.heap.size ls A c rs := by have := hbu.out; rwa [hta] at this
      have hll : ∀ l ∈ ls, l.ts.length = l.n := fun l hl => by
        have := (h.2 l hl).1
        rw [tkCells_len] at this
        omega
      obtain ⟨N, hN⟩ : ∃ N, N = (allOf ls).length := ⟨_, rfl⟩
      have hNt : N = total ls := hN.trans (allOf_len ls hll)
      have hN8 : N ≤ 480 := by have := htot.out; rw [hlen.out] at this; omega
      have htk1 : tk ≤ N + 1 := by have := htk.out; rw [hta] at this; omega
      have htk2 : N + 1 ≤ tk := by have := htk.out; rw [hta] at this; omega
      obtain ⟨tb, rfl, hSt⟩ := hbu'.stk (by rw [hlen.out]; omega) (Nat.le_refl _)
      have hr0 : rem rs = allOf ls := hbu'.2.2.2.2.1
      have hrl : rs.length = m := by rw [hbu'.2.2.2.1, hlen.out]
      have hD : ∀ t ∈ allOf ls, t.1 ≠ -1 ∧ -2000 ≤ t.1 ∧ t.1 ≤ 1000000 := allOf_good hgood
      obtain ⟨gs, hgs⟩ : ∃ gs, gs = rs.map (·.g) := ⟨_, rfl⟩
      obtain ⟨D, hDe⟩ : ∃ D, D = allOf ls := ⟨_, rfl⟩
      rw [← hDe] at hD hr0 hN
      have HDE := Lib.hid hDe
      have HD := Lib.hid hD
      have HN := Lib.hid hN
      have hleft : Hid (Left wr w.heap.size w.heap.size tb c gs D 0) := fun _ => ⟨rs, hSt, by rw [hr0]; rfl, by intro e; subst e; simp at hrl; omega, by omega, fun q hq => by rw [hgs]; exact List.mem_map_of_mem (f := fun y : Rd => y.g) hq⟩
      clear hD hN hgs hDe hr0 hrl hSt hNt hll hbu' hbu hta htk htk' htot hgood h hlk hlt
      go_wp2
      go_loopw [7, 29] (fun out i wr => ∃ k : Nat, k ≤ N + 1 ∧ i = .int .i64 k ∧ wr.ownsRow w.heap.size 27 2 out k (tkCells ((D ++ [endTk]).take k)) ∧ Hid (Left wr w.heap.size w.heap.size tb c gs D k) ∧ Below w.heap.size w wr) (fun _ i _ => N + 1 - (intOf i).toNat)
      case atStart =>
        refine ⟨0, Nat.zero_le _, rfl, World.ownsRow_made _ _ _ hbs (by decide) rfl, fun h0 => ?_, hb.alloc hbs _⟩
        obtain ⟨rs, h1, h2⟩ := hleft.out h0
        exact ⟨rs, h1.only (below_only ((Below.refl _ _).alloc (Nat.le_refl _) _) []) (by simp), h2⟩
      case round =>
        obtain ⟨k, hk2, rfl, hown, hlf, hb2⟩ := hrel
        have hbs2 := hb2.size
        clear hb hbs hleft hk
        by_cases hlt2 : k < N
        · obtain ⟨rs1, hS1, hrem1, _, hl8, hg1⟩ := hlf.out (by rw [← HN.out]; omega)
          have hkD : k < D.length := by rw [← HN.out]; exact hlt2
          obtain ⟨⟨t, s⟩, ht⟩ : ∃ t, D[k]? = some t := ⟨_, List.getElem?_eq_getElem hkD⟩
          have hdk : D.drop k = (t, s) :: D.drop (k + 1) := by
            have := List.drop_eq_getElem_cons hkD
            rw [this]
            rw [List.getElem?_eq_getElem hkD] at ht
            injection ht with ht
            rw [ht]
          obtain ⟨t0, t1, t2⟩ := HD.out (t, s) (List.mem_of_getElem? ht)
          simp only at t0 t1 t2
          have e1 : (t == -1) = false := beq_eq_false_iff_ne.2 t0
          have e2 : (t != -1) = true := by rw [bne_iff_ne]; exact t0
          have HT := Lib.hid ht
          rw [hdk] at hrem1
          have HS1 := Lib.hid hS1
          clear ht hdk hkD hS1
          go_wp2_with fail
          refine (snext_tok w.heap.size w.heap.size tb c rs1 (t, s) (D.drop (k + 1)) wr (by omega) HS1.out hrem1).mono ?_
          rintro e w1 hN1
          obtain ⟨rfl, rs2, hS2, hrem2, htop, hO, hlen2, hg2⟩ := hN1
          have hown1 := HS1.out.own hO hown
          have hB1 : Below w.heap.size w w1 := hb2.trans (HS1.out.under hO hbs2)
          have hbs1 := hB1.size
          have hne2 : rs2 ≠ [] := by obtain ⟨r, rest, j, h1, _⟩ := htop; rw [h1]; simp
          have hgs2 : ∀ q ∈ rs2, q.g ∈ gs := fun q hq => by
            obtain ⟨r, hr, he⟩ := List.mem_map.1 (hg2 q hq)
            rw [← he]
            exact hg1 r hr
          have HREM2 := Lib.hid hrem2
          have HS2 := Lib.hid hS2
          have HNE2 := Lib.hid hne2
          have HGS2 := Lib.hid hgs2
          clear hown hO hb2 hrem1 hrem2 hS2 hne2 hgs2 hg1 hg2 HS1
          go_wp2_with fail
          refine (stext w.heap.size w.heap.size tb c rs2 (t, s) _ (HS2.out.only (below_only ((Below.refl _ _).alloc (Nat.le_refl _) _) []) (by simp)) (by omega) htop).mono ?_
          rintro e w2 ⟨rfl, mm, hw2⟩
          have hb12 : Below w1.heap.size w1 w2 := by rw [hw2]; exact below_drewN ((Below.refl _ _).alloc (Nat.le_refl _) _) _
          have hblk : Blk w2 w1.heap.size 27 #[.int .i64 t, .string { data := #[] }] := by rw [hw2]; exact Blk.new w1 _ _
          clear hw2 htop
          have hz2w := hb12.size
          have hown2 := own_below hown1 hb12
          have hown3 := own_set (p := ⟨w1.heap.size, 1, none⟩) hown2 (fun j hj => by have := (hown1.lt j hj).2; show j ≠ w1.heap.size; omega) (.string s)
          have hB3 := (hB1.trans (hb12.mono hbs1)).setCell (p := ⟨w1.heap.size, 1, none⟩) hbs1 (.string s)
          have hb13 := hb12.setCell (p := ⟨w1.heap.size, 1, none⟩) (Nat.le_refl _) (.string s)
          have k0 := hblk.cell 0
          have k1 := hblk.cell 1
          have q1 := hblk.frozen 1
          simp only [List.getElem?_toArray, List.getElem?_cons_zero, List.getElem?_cons_succ] at k0 k1
          have hnew3 : ∀ o, ((w2.setCell ⟨w1.heap.size, 1, none⟩ (.string s)).alloc o).heap[w2.heap.size]? = some o := fun o => by
            have e := heap_alloc_new (w2.setCell ⟨w1.heap.size, 1, none⟩ (.string s)) o
            have hz : (w2.setCell ⟨w1.heap.size, 1, none⟩ (.string s)).heap.size = w2.heap.size := by simp [World.setCell]
            rwa [hz] at e
          have HNEW3 := Lib.hid hnew3
          have hbs3 := hB3.size
          have HOWN1 := Lib.hid hown1
          clear hnew3 hown2 hown1 hblk hb12
          go_wp2_with (at_builtin; go_must (refine wpList_append_own _ rfl (.tmp 41) (.tmp 43) 24 rfl w.heap.size 27 i0 (.agg #[.int .i64 0, .string { data := #[] }]) 2 24 Try.underlying24 hi hz0 hz1 hz2 rfl (by decide) _ _ _ rfl (hown3.alloc _) ⟨w2.heap.size, 0, none⟩ 1 1 [.int .i64 t, .string s] rfl rfl (World.news_of_block (cs := #[.int .i64 t, .string s]) (t := 27) (fr := (0, 0)) (HNEW3.out _)) (by simp [Value.oneCell']) (by unfold maxLen; omega) (by omega) (by simp; omega) ?_; intro v4 w4 hown4 hgrow4 _))
          go_roundw
          case rel =>
            have hb14 : Below w1.heap.size w1 ((w2.setCell ⟨w1.heap.size, 1, none⟩ (.string s)).alloc (.cells #[.int .i64 t, .string s] 27)) := hb13.alloc hb13.size _
            have o14 := (below_only hb14 u7.ownBlock.toList).trans (Only.grown hgrow4 (fun g hg => by
              have hg' : u7.ownBlock = some g := hg
              simp [hg']))
            have hS4 := HS2.out.beside HOWN1.out o14
            refine ⟨k + 1, by omega, by go_num, ?_, fun _ => ⟨rs2, hS4, HREM2.out, HNE2.out, by omega, HGS2.out⟩, (hB3.alloc (by omega) _).grown hgrow4 (by simp; omega) (fun j hj => (hown3.lt j hj).1)⟩
            have hg : (D ++ [endTk])[k]? = some (t, s) := by
              rw [List.getElem?_append_left (by rw [← HN.out]; exact hlt2)]
              exact HT.out
            rw [take_get hg, tkCells_snoc]
            exact hown4
          case measure => simp [intOf]; omega
        · by_cases hke : k = N
          · obtain rfl : N = k := hke.symm
            obtain ⟨rs1, hS1, hrem1, hne1, hl8, hg1⟩ := hlf.out (by rw [← HN.out]; exact Nat.le_refl _)
            have hrem1' : rem rs1 = [] := by rw [hrem1, HN.out]; exact List.drop_length
            have HS1 := Lib.hid hS1
            clear hlt2 hrem1 hS1 hk2
            go_wp2_with fail
            refine (snext_end w.heap.size w.heap.size tb c rs1 wr hne1 (by omega) HS1.out hrem1').mono ?_
            rintro e w1 ⟨rfl, _, hO⟩
            have hown1 := HS1.out.own hO hown
            have hB1 : Below w.heap.size w w1 := hb2.trans (HS1.out.under hO hbs2)
            have hbs1 := hB1.size
            clear hown hO hb2 hbs2 hrem1' hne1
            go_wp2_with (at_builtin; go_must (refine wpList_append_own _ rfl (.tmp 41) (.tmp 43) 24 rfl w.heap.size 27 i0 (.agg #[.int .i64 0, .string { data := #[] }]) 2 24 Try.underlying24 hi hz0 hz1 hz2 rfl (by decide) _ _ _ rfl ((hown1.alloc _).alloc _) ⟨w1.heap.size + 1, 0, none⟩ 1 1 [.int .i64 (-1), .string { data := #[] }] rfl rfl (World.news_of_block (cs := #[.int .i64 (-1), .string { data := #[] }]) (t := 27) (fr := (0, 0)) (by have := heap_alloc_new (w1.alloc (.cells #[.int .i64 (-1), .string { data := #[] }] 27)) (.cells #[.int .i64 (-1), .string { data := #[] }] 27); simpa using this)) (by simp [Value.oneCell']) (by unfold maxLen; omega) (by omega) (by simp; omega) ?_; intro v4 w4 hown4 hgrow4 _))
            go_roundw
            case rel =>
              refine ⟨N + 1, Nat.le_refl _, by go_num, ?_, fun h0 => absurd h0 (by rw [← HN.out]; omega), ((hB1.alloc hbs1 _).alloc (by simp; omega) _).grown hgrow4 (by simp; omega) (fun j hj => (hown1.lt j hj).1)⟩
              have hg : (D ++ [endTk])[N]? = some endTk := by rw [HN.out]; simp
              rw [take_get hg, tkCells_snoc]
              exact hown4
            case measure => simp [intOf]
          · have hke' : k = N + 1 := by omega
            have HKE := Lib.hid hke'
            have hge : N + 1 ≤ k := by omega
            clear hke hke'
            go_wp2
            go_ret
            have e : (D ++ [endTk]).take k = D ++ [endTk] := List.take_of_length_le (by rw [HKE.out, HN.out]; simp)
            rw [e] at hown
            have hfin : wr.ownsRow w.heap.size 27 2 u7 ((allOf ls).length + 1) (tkCells (allOf ls ++ [endTk])) := by
              rw [← HDE.out, ← HN.out, ← HKE.out]
              exact hown
            exact ⟨_, rfl, hfin, hb2⟩
end Go.Proofs.Ytfllliifkgpbkaa
