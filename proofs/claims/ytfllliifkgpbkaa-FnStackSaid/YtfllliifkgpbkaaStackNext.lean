/-
  (*asmlex.Stack).Next reads the next token of the readers, the top first; where nothing is left it tells the end. Conditions: the readers hold at most 60 tokens each, none of them the end.
-/
import Derived.Test.YtfllliifkgpbkaaStk
import Derived.Handy
import Derived.BigQuiet
import Derived.Deep.QuietTactic
import Derived.RegionTactic
import Derived.BigRegion
import Derived.ChangeAlike
namespace Go.Proofs.Ytfllliifkgpbkaa
open Go.Lib Go.RowKit

theorem SliceAt.drewN {w : World} {base g n : Nat} {v : Value} {ts : List Tk} {L p : Int} (h : SliceAt w base g v n ts L p) (m : Nat) : SliceAt (w.drewN m) base g v n ts L p := h

/-- A token was read. -/
def NextTok (base sB tb c : Nat) (rs : List Rd) (t : Tk) (l : List Tk) (w : World) (e : Ending) (w' : World) : Prop :=
  e = .returned (.int .i32 t.1) ∧ ∃ rs', Stk w' base sB tb c rs' ∧ rem rs' = l ∧ TopAt rs' t ∧ Only w w' (sB :: rs.map (·.g)) ∧ rs'.length ≤ rs.length ∧ ∀ q ∈ rs', q.g ∈ rs.map (·.g)

set_option maxRecDepth 100000 in
set_option maxHeartbeats 3200000 in
theorem snext_here (base sB tb c : Nat) (r : Rd) (rest : List Rd) (t : Tk) (w : World) (h : Stk w base sB tb c (r :: rest)) (hlen : rest.length ≤ 100) (ht : r.ts[r.k]? = some t) :
    Calls Try.prog 16 #[.pointer (some ⟨sB, 0, none⟩)] w fun e w' => e = .returned (.int .i32 t.1) ∧ Stepped base r.g r.v r.ts.length r.ts 1 r.k w w' := by
  obtain ⟨hB, _, hc, _, ⟨htr, _⟩, ⟨hS, _, hk, h60, hne⟩, _, _⟩ := h
  have hkl : r.k < r.ts.length := (List.getElem?_eq_some_iff.1 ht).1
  have b0 : w.cell? ⟨sB, 0, none⟩ = some (.slice (some ⟨tb, 0, none⟩) (rest.length + 1) c) := hB.cell 0
  have t0 : w.cell? ⟨tb, rest.length, none⟩ = some (.iface 41 (.pointer (some ⟨r.g, 0, none⟩))) := htr
  have e1 : (t.1 == -1) = false := beq_eq_false_iff_ne.2 (hne t (List.mem_of_getElem? ht))
  have hi0 : (0 : Int) ≤ (rest.length : Int) := Int.natCast_nonneg _
  have hi1 : (rest.length : Int) < (rest.length : Int) + 1 := by omega
  have HT := Lib.hid ht
  have HS := Lib.hid hS
  clear ht hS hB htr hne
  go_enter Try.func16, Try.ntmps16
  go_wp2
  go_quiet (fail)
  go_wp2_with fail
  refine (next_tok base r.g r.v r.ts.length r.ts 1 r.k t _ (HS.out.drewN _) hkl (by omega) HT.out).mono ?_
  rintro e w1 ⟨rfl, hS1, hg1⟩
  have hgw : w.grownBy w1 (some r.g) := ⟨hg1.os, hg1.tape, hg1.output, hg1.size, hg1.block⟩
  clear hg1
  go_wp2
  refine wp_loop_rounds 1 ?_
  rw [rounds_succ]
  go_wp2
  go_ret
  exact ⟨rfl, hS1, hgw⟩

set_option maxRecDepth 100000 in
set_option maxHeartbeats 3200000 in
theorem snext_last (base sB tb c : Nat) (r : Rd) (w : World) (h : Stk w base sB tb c [r]) (hk : r.ts.length ≤ r.k) :
    Calls Try.prog 16 #[.pointer (some ⟨sB, 0, none⟩)] w fun e w' => e = .returned (.int .i32 (-1)) ∧ w'.cell? ⟨sB, 0, none⟩ = some (.slice (some ⟨tb, 0, none⟩) 1 c) ∧ Only w w' [r.g] := by
  obtain ⟨hB, _, hc, _, ⟨htr, _⟩, ⟨hS, _, hk', h60, hne⟩, _, _⟩ := h
  have b0 : w.cell? ⟨sB, 0, none⟩ = some (.slice (some ⟨tb, 0, none⟩) 1 c) := hB.cell 0
  have t0 : w.cell? ⟨tb, 0, none⟩ = some (.iface 41 (.pointer (some ⟨r.g, 0, none⟩))) := htr
  have hgs : sB ≠ r.g := hB.ne_ hS.1 (by decide)
  have HS := Lib.hid hS
  have HB := Lib.hid hB
  clear hS hB htr hne
  go_enter Try.func16, Try.ntmps16
  go_wp2
  go_quiet (fail)
  go_wp2_with fail
  refine (next_end base r.g r.v r.ts.length r.ts 1 r.k _ (HS.out.drewN _) hk (by omega)).mono ?_
  rintro e w1 ⟨rfl, hS1, hg1⟩
  have hgw : w.grownBy w1 (some r.g) := ⟨hg1.os, hg1.tape, hg1.output, hg1.size, hg1.block⟩
  have b1 : w1.cell? ⟨sB, 0, none⟩ = some (.slice (some ⟨tb, 0, none⟩) 1 c) := (HB.out.grown hgw (by simpa using hgs)).cell 0
  clear hg1 b0 t0
  go_wp2
  refine wp_loop_rounds 1 ?_
  rw [rounds_succ]
  go_wp2
  go_ret
  exact ⟨rfl, b1, Only.grown hgw (fun g hg => by injection hg with hg; simp [hg])⟩

/-- What is there behind a pop. -/
theorem Stk.pop {w w1 : World} {base sB tb c : Nat} {r q : Rd} {rest : List Rd} (h : Stk w base sB tb c (r :: q :: rest)) (hg : w.grownBy w1 (some r.g)) :
    Stk (w1.setCell ⟨sB, 0, none⟩ (.slice (some ⟨tb, 0, none⟩) (rest.length + 1) c)) base sB tb c (q :: rest) ∧ Only w (w1.setCell ⟨sB, 0, none⟩ (.slice (some ⟨tb, 0, none⟩) (rest.length + 1) c)) [sB, r.g] := by
  obtain ⟨hB, hbs, hc, ⟨cs, htb⟩, ⟨_, htr⟩, hR, hgs, hRs⟩ := h
  have n1 : sB ≠ r.g := hB.ne_ hR.1.1 (by decide)
  have n2 : tb ≠ r.g := htb.ne_ hR.1.1 (by decide)
  have n3 : tb ≠ sB := htb.ne_ hB (by decide)
  have o1 : Only w w1 [sB, r.g] := Only.grown hg (fun g e => by injection e with e; simp [e])
  have o2 : Only w1 (w1.setCell ⟨sB, 0, none⟩ (.slice (some ⟨tb, 0, none⟩) (rest.length + 1) c)) [sB, r.g] := Only.grown (grown_set _ _ _) (fun g e => by injection e with e; simp [← e])
  have o := o1.trans o2
  have hl : ∀ x ∈ [sB, r.g], ∃ t cs, Blk w x t cs ∧ t ≠ 54 := by
    intro x hx
    rcases List.mem_cons.1 hx with rfl | hx
    · exact ⟨_, _, hB, by decide⟩
    · obtain rfl : x = r.g := by simpa using hx
      exact ⟨_, _, hR.1.1, by decide⟩
  refine ⟨⟨?_, hbs, by simp at hc ⊢; omega, ⟨cs, o.blk htb (by simp [n2, n3])⟩, Tr.same (o.block tb htb.lt (by simp [n2, n3])) htr, Rds.only o hl hRs (fun x hx => ?_)⟩, o⟩
  · exact (hB.grown hg (by simpa using n1)).set_ 0 _
  · have hx1 := Rds.mem hRs x hx
    have m1 : sB ≠ x.g := hB.ne_ hx1.1.1 (by decide)
    have m2 := hgs x hx
    simp [m2, Ne.symm m1]

set_option maxRecDepth 100000 in
set_option maxHeartbeats 3200000 in
theorem snext_pop (base sB tb c : Nat) (r q : Rd) (rest : List Rd) (z : Int) (Q : World → World → Prop) (w : World) (h : Stk w base sB tb c (r :: q :: rest)) (hlen : rest.length ≤ 100) (hk : r.ts.length ≤ r.k)
    (ih : ∀ W, Stk W base sB tb c (q :: rest) → Calls Try.prog 16 #[.pointer (some ⟨sB, 0, none⟩)] W fun e w' => e = .returned (.int .i32 z) ∧ (z = -1 → w'.cell? ⟨sB, 0, none⟩ = some (.slice (some ⟨tb, 0, none⟩) 1 c)) ∧ Q W w') :
    Calls Try.prog 16 #[.pointer (some ⟨sB, 0, none⟩)] w fun e w' => e = .returned (.int .i32 z) ∧ ∃ W, Stk W base sB tb c (q :: rest) ∧ Only w W [sB, r.g] ∧ Q W w' := by
  have IH := Lib.hid ih
  clear ih
  have hpop := fun w1 (hg : w.grownBy w1 (some r.g)) => h.pop (w1 := w1) hg
  have HPOP := Lib.hid hpop
  clear hpop
  obtain ⟨hB, _, hc, _, ⟨htr, _⟩, ⟨hS, _, hk', h60, hne⟩, _, _⟩ := h
  have b0 : w.cell? ⟨sB, 0, none⟩ = some (.slice (some ⟨tb, 0, none⟩) (rest.length + 2) c) := hB.cell 0
  have t0 : w.cell? ⟨tb, rest.length + 1, none⟩ = some (.iface 41 (.pointer (some ⟨r.g, 0, none⟩))) := htr
  have hgs : sB ≠ r.g := hB.ne_ hS.1 (by decide)
  have hc' : rest.length + 2 ≤ c := by simpa using hc
  have HS := Lib.hid hS
  have HB := Lib.hid hB
  clear hS hB htr hne hc
  go_enter Try.func16, Try.ntmps16
  go_wp2
  go_quiet (fail)
  go_wp2_with fail
  refine (next_end base r.g r.v r.ts.length r.ts 1 r.k _ (HS.out.drewN _) hk (by omega)).mono ?_
  rintro e w1 ⟨rfl, hS1, hg1⟩
  have hgw : w.grownBy w1 (some r.g) := ⟨hg1.os, hg1.tape, hg1.output, hg1.size, hg1.block⟩
  have hB1 : Blk w1 sB 39 #[.slice (some ⟨tb, 0, none⟩) (rest.length + 2) c] := HB.out.grown hgw (by simpa using hgs)
  have b1 : w1.cell? ⟨sB, 0, none⟩ = some (.slice (some ⟨tb, 0, none⟩) (rest.length + 2) c) := hB1.cell 0
  have f1 : w1.frozen? ⟨sB, 0, none⟩ = false := hB1.frozen 0
  clear hg1 b0 t0 hB1
  have hi0 : (0 : Int) ≤ (rest.length : Int) + 1 := by omega
  have hi1 : (rest.length : Int) + 1 ≤ (c : Int) := by omega
  go_wp2
  refine wp_loop_rounds 2 ?_
  rw [rounds_succ]
  go_wp2
  have hi2 : (0 : Int) ≤ (rest.length : Int) + 2 - 1 := by omega
  have hi3 : (rest.length : Int) + 2 - 1 ≤ (c : Int) := by omega
  go_region
  go_wp2_with fail
  refine (IH.out _ (show Stk ((w1.setCell ⟨sB, 0, none⟩ (.slice (some ⟨tb, 0, none⟩) (rest.length + 1) c)).drew) base sB tb c (q :: rest) from (HPOP.out w1 hgw).1.drew)).mono ?_
  rintro e w2 ⟨rfl, hz, hQ⟩
  have fin : ∃ W, Stk W base sB tb c (q :: rest) ∧ Only w W [sB, r.g] ∧ Q W w2 := ⟨_, (HPOP.out w1 hgw).1.drew, (HPOP.out w1 hgw).2.drew, hQ⟩
  have FIN := Lib.hid fin
  clear fin hQ b1 f1 hi2 hi3
  by_cases hz1 : z = -1
  · subst hz1
    have b2 := hz rfl
    clear hz
    go_wp2
    rw [rounds_succ]
    go_wp2
    go_ret
    exact ⟨rfl, FIN.out⟩
  · have e1 : (z == -1) = false := beq_eq_false_iff_ne.2 hz1
    clear hz
    go_wp2
    rw [rounds_succ]
    go_wp2
    go_ret
    exact ⟨rfl, FIN.out⟩

/-- The top reader, one place on. -/
theorem Stk.step {w w' : World} {base sB tb c : Nat} {r : Rd} {rest : List Rd} (h : Stk w base sB tb c (r :: rest)) (hk : r.k < r.ts.length) (hs : Stepped base r.g r.v r.ts.length r.ts 1 r.k w w') :
    Stk w' base sB tb c ({ r with k := r.k + 1 } :: rest) ∧ Only w w' (sB :: (r :: rest).map (·.g)) := by
  obtain ⟨hB, hbs, hc, ⟨cs, htb⟩, ⟨htr0, htr⟩, hR, hgs, hRs⟩ := h
  have n1 : sB ≠ r.g := hB.ne_ hR.1.1 (by decide)
  have n2 : tb ≠ r.g := htb.ne_ hR.1.1 (by decide)
  have o : Only w w' [r.g] := Only.grown hs.2 (fun g e => by injection e with e; simp [e])
  have hl : ∀ x ∈ [r.g], ∃ t cs, Blk w x t cs ∧ t ≠ 54 := by
    intro x hx
    obtain rfl : x = r.g := by simpa using hx
    exact ⟨_, _, hR.1.1, by decide⟩
  refine ⟨⟨o.blk hB (by simp [n1]), hbs, by simpa using hc, ⟨cs, o.blk htb (by simp [n2])⟩, ⟨(World.cell?_of_block (w := w) (o.block tb htb.lt (by simp [n2]))).trans htr0, Tr.same (o.block tb htb.lt (by simp [n2])) htr⟩, ?_, hgs, Rds.only o hl hRs (fun x hx => by simpa using hgs x hx)⟩, o.mono (by simp)⟩
  refine ⟨?_, hR.2.1, by show r.k + 1 ≤ _; exact hk, hR.2.2.2.1, hR.2.2.2.2⟩
  have e : (((r.k + 1 : Nat) : Int) - 1) = (r.k : Int) := by omega
  show SliceAt w' base r.g r.v r.ts.length r.ts 1 (((r.k + 1 : Nat) : Int) - 1)
  rw [e]
  exact hs.1

theorem rem_here {r : Rd} {rest : List Rd} {t : Tk} (ht : r.ts[r.k]? = some t) : rem (r :: rest) = t :: rem ({ r with k := r.k + 1 } :: rest) := by
  obtain ⟨hk, rfl⟩ := List.getElem?_eq_some_iff.1 ht
  rw [rem_cons, rem_cons, List.drop_eq_getElem_cons hk]
  rfl
theorem rem_past {r : Rd} {rest : List Rd} (hk : r.ts.length ≤ r.k) : rem (r :: rest) = rem rest := by
  rw [rem_cons, List.drop_of_length_le hk]
  rfl

/-- While something is left it is read. -/
theorem snext_tok (base sB tb c : Nat) : ∀ (rs : List Rd) (t : Tk) (l : List Tk) (w : World), rs.length ≤ 100 → Stk w base sB tb c rs → rem rs = t :: l →
    Calls Try.prog 16 #[.pointer (some ⟨sB, 0, none⟩)] w (NextTok base sB tb c rs t l w)
  | [], t, l, w, _, _, hr => by simp [rem] at hr
  | r :: rest, t, l, w, hn, h, hr => by
    by_cases hk : r.k < r.ts.length
    · have ht : r.ts[r.k]? = some r.ts[r.k] := List.getElem?_eq_getElem hk
      rw [rem_here ht] at hr
      injection hr with h1 h2
      rw [← h1]
      refine (snext_here base sB tb c r rest r.ts[r.k] w h (by simp at hn; omega) ht).mono ?_
      rintro e w' ⟨rfl, hs⟩
      obtain ⟨hS, hO⟩ := h.step hk hs
      refine ⟨rfl, _, hS, h2, ⟨_, rest, r.k, rfl, rfl, ht⟩, hO, by simp, fun x hx => ?_⟩
      rcases List.mem_cons.1 hx with rfl | hx
      · simp
      · exact List.mem_map_of_mem (f := fun y : Rd => y.g) (List.mem_cons_of_mem _ hx)
    · have hk' : r.ts.length ≤ r.k := by omega
      rw [rem_past hk'] at hr
      match rest, hr, h, hn with
      | [], hr, _, _ => simp [rem] at hr
      | q :: rest, hr, h, hn =>
        have hne : t.1 ≠ -1 := by
          have : t ∈ rem (q :: rest) := by rw [hr]; simp
          obtain ⟨x, hx, ht⟩ := List.mem_flatMap.1 this
          exact (Rds.mem h.2.2.2.2.2.2.2 x hx).2.2.2.2 t (List.mem_of_mem_drop ht)
        refine (snext_pop base sB tb c r q rest t.1 (fun W w' => NextTok base sB tb c (q :: rest) t l W (.returned (.int .i32 t.1)) w') w h (by simp at hn; omega) hk' (fun W hW => ?_)).mono ?_
        · refine (snext_tok base sB tb c (q :: rest) t l W (by simp at hn ⊢; omega) hW hr).mono ?_
          rintro e w' hN
          obtain ⟨he, hN'⟩ := hN
          exact ⟨he, fun hz => absurd hz hne, rfl, hN'⟩
        · rintro e w' ⟨rfl, W, hW, hO, _, rs', h1, h2, h3, h4, h6, h5⟩
          refine ⟨rfl, rs', h1, h2, h3, (hO.mono ?_).trans (h4.mono ?_), by simp at h6 ⊢; omega, fun x hx => ?_⟩
          · intro x hx
            simp only [List.mem_cons, List.not_mem_nil, or_false] at hx
            rcases hx with rfl | rfl <;> simp
          · intro x hx
            simp only [List.map_cons, List.mem_cons] at hx ⊢
            rcases hx with h | h | h
            · exact .inl h
            · exact .inr (.inr (.inl h))
            · exact .inr (.inr (.inr h))
          · have := h5 x hx
            simp only [List.map_cons, List.mem_cons] at this ⊢
            exact .inr this

/-- Where nothing is left the end is told. -/
theorem snext_end (base sB tb c : Nat) : ∀ (rs : List Rd) (w : World), rs ≠ [] → rs.length ≤ 100 → Stk w base sB tb c rs → rem rs = [] →
    Calls Try.prog 16 #[.pointer (some ⟨sB, 0, none⟩)] w fun e w' => e = .returned (.int .i32 (-1)) ∧ w'.cell? ⟨sB, 0, none⟩ = some (.slice (some ⟨tb, 0, none⟩) 1 c) ∧ Only w w' (sB :: rs.map (·.g))
  | [], _, h, _, _, _ => absurd rfl h
  | r :: rest, w, _, hn, h, hr => by
    have hk : r.ts.length ≤ r.k := by
      rw [rem_cons] at hr
      have := congrArg List.length (List.append_eq_nil_iff.1 hr).1
      simp at this
      omega
    rw [rem_past hk] at hr
    match rest, hr, h, hn with
    | [], _, h, _ =>
      refine (snext_last base sB tb c r w h hk).mono ?_
      rintro e w' ⟨rfl, h1, h2⟩
      exact ⟨rfl, h1, h2.mono (by simp)⟩
    | q :: rest, hr, h, hn =>
      refine (snext_pop base sB tb c r q rest (-1) (fun W w' => w'.cell? ⟨sB, 0, none⟩ = some (.slice (some ⟨tb, 0, none⟩) 1 c) ∧ Only W w' (sB :: (q :: rest).map (·.g))) w h (by simp at hn; omega) hk (fun W hW => ?_)).mono ?_
      · refine (snext_end base sB tb c (q :: rest) W (by simp) (by simp at hn ⊢; omega) hW hr).mono ?_
        rintro e w' ⟨he, h1, h2⟩
        exact ⟨he, fun _ => h1, h1, h2⟩
      · rintro e w' ⟨rfl, W, hW, hO, h1, h2⟩
        refine ⟨rfl, h1, (hO.mono ?_).trans (h2.mono ?_)⟩
        · intro x hx
          simp only [List.mem_cons, List.not_mem_nil, or_false] at hx
          rcases hx with rfl | rfl <;> simp
        · intro x hx
          simp only [List.map_cons, List.mem_cons] at hx ⊢
          rcases hx with h | h | h
          · exact .inl h
          · exact .inr (.inr (.inl h))
          · exact .inr (.inr (.inr h))
end Go.Proofs.Ytfllliifkgpbkaa
