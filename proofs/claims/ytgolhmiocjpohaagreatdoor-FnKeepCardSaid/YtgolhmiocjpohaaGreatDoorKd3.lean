/- A region that draws its order: what comes ahead of a forced tail reads, or calls what only makes new memory: one walk, in the order of the text, then the tail. No condition. A filter as the package has it (38). No condition. -/
import Derived.StillTail
import Derived.Test.YtgolhmiocjpohaaGreatDoorPf1
import Derived.Laws.EntriesVeiled
set_option linter.unusedVariables false
set_option linter.unusedSimpArgs false
namespace Go.Proofs.YtgolhmiocjpohaaGreatDoor
open Go.RowKit Go.PlainAid

section
variable {P : Program} {ops : Array Oper} {md : Region.Mode} {C : World → Prop}

/-- Whatever order is picked ahead of the tail. -/
def HeadQ (P : Program) (md : Region.Mode) (ops : Array Oper) (C : World → Prop) (n : Nat) (L : Array Bool → Act → Prop) : Nat → Array Bool → Act → Prop
 | 0, listed, a => L listed a
 | f + 1, listed, a => Region.ready md ops listed ≠ [] ∧ ∀ i ∈ Region.ready md ops listed, i < n ∧ qOp P ops C i (HeadQ P md ops C n L f (listed.setIfInBounds i true)) a

theorem any_of_headQ {n g : Nat} {L : Array Bool → Act → Prop} {Q' : Exit → Act → World → Prop} (hL : ∀ listed a w, C w → L listed a → wpAny P md ops Q' g listed a w) :
  ∀ (f : Nat) (listed : Array Bool) (a : Act) (w : World), C w → HeadQ P md ops C n L f listed a → wpAny P md ops Q' (f + g) listed a w
 | 0, listed, a, w, hw, h => by rw [Nat.zero_add]; exact hL _ _ _ hw h
 | f + 1, listed, a, w, hw, h => by
  rw [show f + 1 + g = (f + g) + 1 by omega]
  exact ⟨fun h0 => absurd h0 h.1, fun i hi => wpOp_of_qOp hw (fun a' w' hw' h' => any_of_headQ hL f _ a' w' hw' h') (h.2 i hi).2⟩

theorem headQ_first {n i : Nat} {oi : Oper} {v : Value} {L : Array Bool → Act → Prop} (hi : ops[i]? = some oi) (hsel : ∀ (j : Nat) (o : Oper) cs b, ops[j]? = some o → o.op ≠ .select cs b)
  (hs : Region.sinkB md ops n = true) (hc : Region.chainB md ops n = true) (hn : n < ops.size) (hin : i < n)
  (hdone : ∀ listed a, L listed a → ∀ j ∈ Region.ready md ops listed, n ≤ j) :
  ∀ (f : Nat) (listed : Array Bool) (a : Act), HeadInv md ops n listed →
   (∀ j oj, ops[j]? = some oj → j ≠ i → listed.getD j true = false → (∀ e ∈ oj.after, Region.binds md e = true → e.on ≠ i) → oi.apart ops oj = true) →
   i ∈ Region.ready md ops listed → YieldsIn P ops C oi v a →
   HeadQ P md ops C n L f (listed.setIfInBounds i true) (a.put oi.dst v) → HeadQ P md ops C n L (f + 1) listed a := by
 intro f
 induction f with
 | zero =>
  intro listed a inv _ hr hy H
  have hun := (mem_ready.1 hr).1
  refine ⟨List.ne_nil_of_mem hr, fun j hj => ?_⟩
  have hjn : j < n := Nat.lt_of_not_le fun h => tail_waits hs hc hn inv _ i rfl hin hun j h hj
  refine ⟨hjn, ?_⟩
  by_cases hji : j = i
  ·subst hji; exact hy.qOp hi H
  ·have := hdone _ _ H j (ready_mono hj hji)
   omega
 | succ f ih =>
  intro listed a inv hfree hr hy H
  have hun := (mem_ready.1 hr).1
  refine ⟨List.ne_nil_of_mem hr, fun j hj => ?_⟩
  have hjn : j < n := Nat.lt_of_not_le fun h => tail_waits hs hc hn inv _ i rfl hin hun j h hj
  refine ⟨hjn, ?_⟩
  by_cases hji : j = i
  ·subst hji; exact hy.qOp hi H
  ·obtain ⟨hjun, oj, hoj, hall⟩ := mem_ready.1 hj
   have hnot : ∀ e ∈ oj.after, Region.binds md e = true → e.on ≠ i := fun e he hb heq => by
    have h1 := hall e he hb
    rw [heq, getD_both hun] at h1
    cases h1
   have h2 := qOp_put hoj (hfree j oj hoj hji hjun hnot) (fun cs b => hsel i oi cs b hi) (fun cs b => hsel j oj cs b hoj) hy (H.2 j (ready_mono hj hji)).2
   refine qOp_mono (fun a' h3 => ih (listed.setIfInBounds j true) a' (inv.set hj hjn) (fun k ok hk hki hunk hno => hfree k ok hk hki ?_ hno) (ready_mono hr (Ne.symm hji)) h3.1 ?_) h2
   ·by_cases hjk : j = k
    ·subst hjk; exact hjun
    ·rw [getD_set_ne true hjk] at hunk; exact hunk
   ·rw [Array.setIfInBounds_comm _ _ hji]
    exact h3.2

theorem headQ_lex {n g : Nat} {Lq : Act → Prop} (hsel : Region.noSelect ops = true) (hs : Region.sinkB md ops n = true) (hc : Region.chainB md ops n = true) (hn : n < ops.size) :
  ∀ (l : List Oper) (k : Nat) (listed : Array Bool) (a : Act), (∀ j, j < l.length → l[j]? = ops[k + j]?) → k + l.length = n → HeadInv md ops n listed →
  Region.lexHead md ops g l.length k listed = true → wpQuiet P ops C Lq l a → HeadQ P md ops C n (fun listed' a' => Region.seqB md ops g n listed' = true ∧ Lq a') l.length listed a
 | [], k, listed, a, _, hk, _, hB, h => by
  have : k = n := by simpa using hk
  subst this
  exact ⟨by simpa [Region.lexHead] using hB, h⟩
 | o :: l, k, listed, a, hl, hk, inv, hB, h => by
  have h0 : ops[k]? = some o := by simpa using (hl 0 (by simp)).symm
  simp only [List.length_cons, Region.lexHead, Bool.and_eq_true] at hB
  obtain ⟨⟨hr, hf⟩, hB'⟩ := hB
  have hkn : k < n := by simp only [List.length_cons] at hk; omega
  have hr' : k ∈ Region.ready md ops listed := by simpa using hr
  have hst : qOp P ops C k (wpQuiet P ops C Lq l) a := by unfold qOp; simp only [h0]; exact h
  obtain ⟨v, hy, hK⟩ := yieldsIn_of_qOp h0 hst
  exact headQ_first h0 (Region.noSelect_spec hsel) hs hc hn hkn (fun listed' a' hL => seqB_ready hL.1) l.length listed a inv (Region.free_spec h0 hf) hr' hy
   (headQ_lex hsel hs hc hn l (k + 1) _ _ (fun j hj => by have := hl (j + 1) (by simp; omega); simpa [Nat.add_assoc, Nat.add_comm 1 j] using this) (by simp only [List.length_cons] at hk; omega) (inv.set hr' hkn) hB' hK)

theorem wp_region_later_tail {id : Nat} {Q : Exit → Act → World → Prop} {a : Act} {w : World} {l : List Oper} (n : Nat) (hm : P.follows .mixedOrders = true) (hB : Region.lexTailB .any l.toArray n = true)
  (h : wpQuiet P l.toArray (fun w' => ∃ u : Later w, w' = u.wd) (fun a' => ∀ u : Later w, wpList P l.toArray Q (l.drop n) a' u.wd) (l.take n) a) : (Code.region id l.toArray true).wp P Q a w := by
 simp only [Region.lexTailB, Bool.and_eq_true, decide_eq_true_eq] at hB
 obtain ⟨⟨⟨⟨hsel, hn⟩, hs⟩, hc⟩, hlex⟩ := hB
 have hn' : n < l.length := by simpa using hn
 have htl : (l.take n).length = n := by simp; omega
 have hdl : (l.drop n).length = l.toArray.size - n := by simp
 have inv0 : HeadInv .any l.toArray n (Array.replicate l.toArray.size false) :=
  ⟨by simp, fun j oj _ hl => (by rw [getD_replicate_false] at hl; cases hl), fun t _ ht => getD_in (by simpa using ht) (getD_replicate_false _ _)⟩
 have H := headQ_lex (md := .any) (g := l.toArray.size - n) hsel hs hc hn (l.take n) 0 _ a (fun j hj => by
  have hj' : j < n := by rw [htl] at hj; exact hj
  simp [hj']) (by simpa using htl) inv0 (by rw [htl]; exact hlex) h
 refine wp_region_any hm ?_
 have H2 := any_of_headQ (Q' := Q) (g := l.toArray.size - n) (fun listed a' w' hw' hL => by
  obtain ⟨u, rfl⟩ := hw'
  have h3 := wpAny_of_seq (md := .any) (Q' := Q) (l.drop n) n listed a' u.wd (fun j => by simp [List.getElem?_drop]) (by rw [hdl]; exact hL.1) (hL.2 u)
  rwa [hdl] at h3) _ _ _ { w with drawn := w.drawn + 1 } ⟨⟨{ w with drawn := w.drawn + 1 }, ⟨rfl, rfl, rfl, Nat.le_refl _, fun _ _ => rfl⟩⟩, rfl⟩ H
 rw [htl, show n + (l.toArray.size - n) = l.toArray.size by omega] at H2
 exact H2
end

end Go.Proofs.YtgolhmiocjpohaaGreatDoor

namespace Go.Proofs.YtgolhmiocjpohaaGreatDoor
open Go.RowKit Go.PlainAid

/-- What stays of two fresh blocks while a callee runs. -/
theorem two_fresh {w w1 : World} {X Y : Array Value} {t u : TypeId} (hb : Below ((w.alloc (.cells X t)).alloc (.cells Y u)).heap.size ((w.alloc (.cells X t)).alloc (.cells Y u)) w1) :
  w1.heap[w.heap.size]? = some (.cells X t (0, 0)) ∧ w1.heap[w.heap.size + 1]? = some (.cells Y u (0, 0)) ∧ Below w.heap.size w w1 := by
 refine ⟨?_, ?_, (((Below.refl _ _).alloc (Nat.le_refl _) _).alloc (by simp) _).trans (hb.mono (by simp; omega))⟩
 ·rw [hb.block w.heap.size (by simp; omega), Below.heap_alloc _ _ _ (by simp)]
  exact heap_alloc_new w _
 ·rw [hb.block (w.heap.size + 1) (by simp)]
  have h := heap_alloc_new (w.alloc (.cells X t)) (.cells Y u)
  simpa using h

theorem six_cells {w : World} {b : Nat} {x0 x1 x2 x3 x4 x5 : Value} {t : TypeId} (h : w.heap[b]? = some (.cells #[x0, x1, x2, x3, x4, x5] t (0, 0))) :
  w.cell? ⟨b, 0, none⟩ = some x0 ∧ w.cell? ⟨b, 1, none⟩ = some x1 ∧ w.cell? ⟨b, 2, none⟩ = some x2 ∧ w.cell? ⟨b, 3, none⟩ = some x3 ∧ w.cell? ⟨b, 4, none⟩ = some x4 ∧ w.cell? ⟨b, 5, none⟩ = some x5 ∧
  w.frozen? ⟨b, 0, none⟩ = false ∧ w.frozen? ⟨b, 1, none⟩ = false ∧ w.frozen? ⟨b, 2, none⟩ = false ∧ w.frozen? ⟨b, 3, none⟩ = false ∧ w.frozen? ⟨b, 4, none⟩ = false ∧ w.frozen? ⟨b, 5, none⟩ = false :=
 ⟨by rw [cell_of_row w b 0 _ _ _ h]; rfl, by rw [cell_of_row w b 1 _ _ _ h]; rfl, by rw [cell_of_row w b 2 _ _ _ h]; rfl, by rw [cell_of_row w b 3 _ _ _ h]; rfl, by rw [cell_of_row w b 4 _ _ _ h]; rfl, by rw [cell_of_row w b 5 _ _ _ h]; rfl,
  frozen_of_row w b 0 _ _ h, frozen_of_row w b 1 _ _ h, frozen_of_row w b 2 _ _ h, frozen_of_row w b 3 _ _ h, frozen_of_row w b 4 _ _ h, frozen_of_row w b 5 _ _ h⟩

theorem set_row {w : World} {b : Nat} {cs : Array Value} {t : TypeId} {fr : Nat × Nat} (h : w.heap[b]? = some (.cells cs t fr)) (i : Nat) (v : Value) : (w.setCell ⟨b, i, none⟩ v).heap[b]? = some (.cells (cs.setIfInBounds i v) t fr) := by
 rw [World.setCell]
 simp [Array.getElem?_modify, h]

set_option maxHeartbeats 800000 in
set_option maxRecDepth 100000 in
theorem impl_filter (f : FiltD) (w : World) : Calls Tryz.prog 38 #[filtV f] w fun e w' => e = .returned (filtI f) ∧ Below w.heap.size w w' := by
 unfold filtV filtI
 have K := Lib.hid (fun w => impl_cell f.value w)
 unfold cellV at K
 obtain ⟨vt, vx, hv⟩ := valI_form f.value
 rw [hv] at K ⊢
 clear hv
 obtain ⟨m, op, ⟨ck, ct, cn⟩, fold⟩ := f
 dsimp only at K ⊢
 go_enter Tryz.func38, Tryz.ntmps38
 go_upto_region 1 with fail
 obtain ⟨W, hW⟩ : ∃ W, ((w.alloc (.cells #[.int .i64 m, .int .i64 op, .int .i64 ck, .string ct, .int .i64 cn, .bool fold] 31)).alloc (.cells #[.string ⟨#[]⟩, .int .i64 0, .int .i64 0, .nilIface, .bool false, .nilFunc] 100)) = W := ⟨_, rfl⟩
 rw [hW]
 have F : Hid (∀ u : Later W, u.wd.heap[w.heap.size]? = some (.cells #[.int .i64 m, .int .i64 op, .int .i64 ck, .string ct, .int .i64 cn, .bool fold] 31 (0, 0)) ∧ u.wd.heap[w.heap.size + 1]? = some (.cells #[.string ⟨#[]⟩, .int .i64 0, .int .i64 0, .nilIface, .bool false, .nilFunc] 100 (0, 0)) ∧ Below w.heap.size w u.wd) := by
  intro u
  have hb := u.below
  generalize u.wd = w1 at *
  subst hW
  exact two_fresh hb
 have q0 := fun u => (six_cells (F.out u).1).1
 have q1 := fun u => (six_cells (F.out u).1).2.1
 have q2 := fun u => (six_cells (F.out u).1).2.2.1
 have q3 := fun u => (six_cells (F.out u).1).2.2.2.1
 have q4 := fun u => (six_cells (F.out u).1).2.2.2.2.1
 have q5 := fun u => (six_cells (F.out u).1).2.2.2.2.2.1
 have KL : Hid (∀ u : Later W, Calls Tryz.prog 37 #[.agg #[.int .i64 ck, .string ct, .int .i64 cn]] u.wd fun e w' => e = .returned (.iface vt vx) ∧ ∃ u : Later W, w' = u.wd) := fun u => Later.call (K.out u.wd)
 clear hW
 refine wp_region_later_tail 10 (by kernel_rfl) (by kernel_rfl) ?_
 simp only [List.take_succ_cons, List.take_zero, List.drop_succ_cons, List.drop_zero]
 repeat (go_big_quiet_step (with_reducible exact KL.out _))
 refine wpQuiet_nil ?_
 intro u
 obtain ⟨b0, b1, b2, b3, b4, b5, f0, f1, f2, f3, f4, f5⟩ := six_cells (F.out u).2.1
 have HB := Lib.hid (And.intro (F.out u).2.2 (F.out u).2.1)
 clear q0 q1 q2 q3 q4 q5 KL F K
 generalize u.wd = w1 at *
 go_wp2_with fail
 have hg := set_row (set_row (set_row (set_row (set_row (set_row HB.out.2 0 (.string ⟨#[]⟩)) 1 (.int .i64 m)) 2 (.int .i64 op)) 3 (.iface vt vx)) 4 (.bool fold)) 5 .nilFunc
 refine bodyPost_ret (results_cell_row rfl _ _ (w.heap.size + 1) 100 _ (0, 0) _ rfl hg Tryz.underlying100 rfl (by kernel_rfl)) rfl ?_
 refine ⟨rfl, ?_⟩
 exact (((((HB.out.1.setCell (p := ⟨w.heap.size + 1, 0, none⟩) (Nat.le_succ _) _).setCell (p := ⟨w.heap.size + 1, 1, none⟩) (Nat.le_succ _) _).setCell (p := ⟨w.heap.size + 1, 2, none⟩) (Nat.le_succ _) _).setCell (p := ⟨w.heap.size + 1, 3, none⟩) (Nat.le_succ _) _).setCell (p := ⟨w.heap.size + 1, 4, none⟩) (Nat.le_succ _) _).setCell (p := ⟨w.heap.size + 1, 5, none⟩) (Nat.le_succ _) _

end Go.Proofs.YtgolhmiocjpohaaGreatDoor
