/- The light decimal in memory; what trim (170), digit (196), nearUp (197) and whole (176) do to it. No condition beyond those on the block. The light decimal read off: one digit (196), whether it is rounded up behind its last digit (197: no), and as a whole number (176). No condition beyond those on the block. -/
import Derived.Test.YtgolhmiocjpohaaGreatDoorLess
import Derived.Test.YtgolhmiocjpohaaGreatDoorDec0
set_option linter.unusedVariables false
set_option linter.unusedSimpArgs false
namespace Go.Proofs.YtgolhmiocjpohaaGreatDoor
open Go.RowKit

/-- The digits in a slice of bytes, in a block from 'base' on, other than b. -/
def DigAt (w : World) (base b : Nat) (v : Value) (ds : List Nat) : Prop :=
  (v = .slice none 0 0 ∧ ds = []) ∨ ∃ g cap, v = .slice (some ⟨g, 0, none⟩) ds.length cap ∧ ds.length ≤ cap ∧ base ≤ g ∧ g ≠ b ∧ g < w.heap.size ∧ ∀ i, i < ds.length → w.cell? ⟨g, i, none⟩ = some (.int .u8 (dAt ds i : Nat))

/-- A decimal in block b. -/
structure DecAt (w : World) (base b : Nat) (ds : List Nat) (dp : Int) : Prop where
  lo : base ≤ b
  obj : ∃ v, w.heap[b]? = some (.cells #[v, .int .i64 dp] 265 (0, 0)) ∧ DigAt w base b v ds

theorem DigAt.heap {w w' : World} {base b : Nat} {v : Value} {ds : List Nat} (h : DigAt w base b v ds) (hs : w.heap.size ≤ w'.heap.size) (hc : ∀ g, base ≤ g → g ≠ b → g < w.heap.size → w'.heap[g]? = w.heap[g]?) : DigAt w' base b v ds := by
  rcases h with h | ⟨g, cap, h1, h2, h3, h4, h5, h6⟩
  · exact Or.inl h
  · refine Or.inr ⟨g, cap, h1, h2, h3, h4, by omega, fun i hi => ?_⟩
    rw [← h6 i hi]
    exact World.cell?_of_block (hc g h3 h4 h5)

theorem DecAt.heap_eq {w w' : World} {base b : Nat} {ds : List Nat} {dp : Int} (h : DecAt w base b ds dp) (he : w'.heap = w.heap) : DecAt w' base b ds dp := by
  obtain ⟨v, h1, h2⟩ := h.obj
  exact ⟨h.lo, v, by rw [he]; exact h1, h2.heap (by rw [he]; omega) (fun g _ _ _ => by rw [he])⟩

theorem DecAt.lt {w : World} {base b : Nat} {ds : List Nat} {dp : Int} (h : DecAt w base b ds dp) : b < w.heap.size := by
  obtain ⟨v, h1, _⟩ := h.obj
  exact (Array.getElem?_eq_some_iff.1 h1).1

/-- Behind a callee that leaves all as it was. -/
theorem DecAt.below {w w' : World} {base b : Nat} {ds : List Nat} {dp : Int} (h : DecAt w base b ds dp) (hb : Below w.heap.size w w') : DecAt w' base b ds dp := by
  obtain ⟨v, h1, h2⟩ := h.obj
  exact ⟨h.lo, v, by rw [hb.block b h.lt]; exact h1, h2.heap hb.size (fun g _ _ hg => hb.block g hg)⟩

theorem obj_cells {w : World} {b : Nat} {x y : Value} (h : w.heap[b]? = some (.cells #[x, y] 265 (0, 0))) :
    w.cell? ⟨b, 0, none⟩ = some x ∧ w.cell? ⟨b, 1, none⟩ = some y ∧ w.frozen? ⟨b, 0, none⟩ = false ∧ w.frozen? ⟨b, 1, none⟩ = false :=
  ⟨by rw [cell_of_row w b 0 _ _ _ h]; rfl, by rw [cell_of_row w b 1 _ _ _ h]; rfl, frozen_of_row w b 0 _ _ h, frozen_of_row w b 1 _ _ h⟩

theorem obj_set0 {w : World} {b : Nat} {x y : Value} (h : w.heap[b]? = some (.cells #[x, y] 265 (0, 0))) (u : Value) : (w.setCell ⟨b, 0, none⟩ u).heap[b]? = some (.cells #[u, y] 265 (0, 0)) := by
  rw [World.setCell]
  simp [Array.getElem?_modify, h]

theorem obj_set1 {w : World} {b : Nat} {x y : Value} (h : w.heap[b]? = some (.cells #[x, y] 265 (0, 0))) (u : Value) : (w.setCell ⟨b, 1, none⟩ u).heap[b]? = some (.cells #[x, u] 265 (0, 0)) := by
  rw [World.setCell]
  simp [Array.getElem?_modify, h]

/-- The length of the slice at a block's head. -/
def headLen (w : World) (b : Nat) : Nat := match w.cell? ⟨b, 0, none⟩ with | some (.slice _ n _) => n | _ => 0

theorem headLen_eq {w : World} {b n c : Nat} {A : Option Addr} (h : w.cell? ⟨b, 0, none⟩ = some (.slice A n c)) : headLen w b = n := by simp [headLen, h]

theorem info5 : (Tryz.prog.info? 5).map (fun i => (i.zero, i.size, i.bytes)) = some (some (.int .u8 0), 1, 1) := by kernel_rfl

theorem run_cut (g n k cap : Nat) (h : k ≤ cap) (w : World) :
    (Instr.slice 122 (.slice (some ⟨g, 0, none⟩) n cap) none (some (.int .i64 (k : Int))) none).run Tryz.prog w = .ok (.slice (some ⟨g, 0, none⟩) k cap) w := by
  have h1 : (k : Int) ≤ (cap : Int) := by omega
  obtain ⟨i0, hi, _, _, _⟩ := info_parts info5
  have hadd : (⟨g, 0, none⟩ : Addr).add 0 = ⟨g, 0, none⟩ := rfl
  simp [Instr.slice, Instr.sliceBounds, Instr.sliceBound, run_underlying Tryz.underlying122, h, h1, hadd, sizeOf, typeInfo, hi, asIntOf]

/-- A world behind another one: of the older blocks at most b has turned. -/
structure Only (b : Nat) (w w' : World) : Prop where
  os : w'.os = w.os
  tape : w'.tape = w.tape
  output : w'.output = w.output
  size : w.heap.size ≤ w'.heap.size
  block : ∀ k, k < w.heap.size → k ≠ b → w'.heap[k]? = w.heap[k]?

theorem Only.refl (b : Nat) (w : World) : Only b w w := ⟨rfl, rfl, rfl, Nat.le_refl _, fun _ _ _ => rfl⟩
theorem Only.trans {b : Nat} {x y z : World} (h : Only b x y) (k : Only b y z) : Only b x z :=
  ⟨k.os.trans h.os, k.tape.trans h.tape, k.output.trans h.output, Nat.le_trans h.size k.size, fun i hi hb => (k.block i (Nat.lt_of_lt_of_le hi h.size) hb).trans (h.block i hi hb)⟩
theorem Only.of {b : Nat} {w w' : World} (h : Below w.heap.size w w') : Only b w w' := ⟨h.os, h.tape, h.output, h.size, fun k hk _ => h.block k hk⟩
theorem Only.below {b : Nat} {w u w' : World} (h : Only b w u) (k : Below w.heap.size u w') : Only b w w' :=
  ⟨k.os.trans h.os, k.tape.trans h.tape, k.output.trans h.output, Nat.le_trans h.size k.size, fun i hi hb => (k.block i hi).trans (h.block i hi hb)⟩
theorem Only.drewN {b : Nat} {w u : World} (h : Only b w u) (n : Nat) : Only b w (u.drewN n) := h.below (below_drewN (Below.refl _ _) n)
theorem Only.drew {b : Nat} {w u : World} (h : Only b w u) : Only b w u.drew := h.below (Below.refl _ _).drew
theorem Only.alloc {b : Nat} {w u : World} (h : Only b w u) (o : Obj) : Only b w (u.alloc o) := h.below ((Below.refl _ _).alloc h.size o)
theorem Only.set {b : Nat} {w u : World} (h : Only b w u) (o : Nat) (v : Value) : Only b w (u.setCell ⟨b, o, none⟩ v) :=
  ⟨h.os, h.tape, h.output, by have := h.size; simpa [World.setCell] using this, fun k hk hb => (Below.heap_setCell _ _ _ _ hb).trans (h.block k hk hb)⟩
theorem Only.setNew {b : Nat} {w u : World} (h : Only b w u) {g o : Nat} (hg : w.heap.size ≤ g) (v : Value) : Only b w (u.setCell ⟨g, o, none⟩ v) :=
  h.below ((Below.refl _ _).setCell (p := ⟨g, o, none⟩) hg v)
theorem Only.toBelow {b base : Nat} {w w' : World} (h : Only b w w') (hb : base ≤ b) (hw : b < w.heap.size) : Below base w w' :=
  ⟨h.os, h.tape, h.output, h.size, fun k hk => h.block k (by omega) (by omega)⟩
theorem Only.cell {b : Nat} {w w' : World} (h : Only b w w') {g o : Nat} (hg : g < w.heap.size) (hb : g ≠ b) : w'.cell? ⟨g, o, none⟩ = w.cell? ⟨g, o, none⟩ :=
  World.cell?_of_block (h.block g hg hb)

/-- A post of trim. -/
def TrimIs (base b : Nat) (ds : List Nat) (dp : Int) (w : World) (e : Ending) (w' : World) : Prop :=
  e = .returned (.pointer (some ⟨b, 0, none⟩)) ∧ ∃ es, Trimmed ds es ∧ DecAt w' base b es (if es = [] then 0 else dp) ∧ Only b w w'

set_option maxHeartbeats 1600000 in
set_option maxRecDepth 100000 in
theorem trim (w : World) (base b : Nat) (ds : List Nat) (dp : Int) (h : DecAt w base b ds dp) (hlen : ds.length ≤ 2147483647) :
    Calls Tryz.prog 170 #[.pointer (some ⟨b, 0, none⟩)] w (TrimIs base b ds dp w) := by
  have hlo := Lib.hid h.lo
  have hlt := Lib.hid h.lt
  obtain ⟨v, hobj, hdig⟩ := h.obj
  clear h
  rcases hdig with ⟨rfl, rfl⟩ | ⟨g, cap, rfl, hcap, hbg, hgb, hgs, hcells⟩
  · obtain ⟨c0, c1, f0, f1⟩ := obj_cells hobj
    have HOBJ := Lib.hid hobj
    clear hobj
    go_enter Tryz.func170, Tryz.ntmps170
    go_wp2_with fail
    refine wp_loop_rounds 1 ?_
    rw [rounds_succ]
    go_wp2_with fail
    go_wp2_with fail
    go_quiet (fail)
    go_wp2_with fail
    go_ret
    refine ⟨rfl, [], ⟨0, by simp, rfl, fun i _ hi => by simp at hi, Or.inl rfl⟩, ⟨hlo.out, _, obj_set1 HOBJ.out _, Or.inl ⟨rfl, rfl⟩⟩, ?_⟩
    exact (((Only.refl _ _).drewN _).set _ _)
  · have HC := Lib.hid hcells
    have HZ := Lib.hid (And.intro hcap (And.intro hbg (And.intro hgb (And.intro hgs hlen))))
    clear hcells
    obtain ⟨c0, c1, f0, f1⟩ := obj_cells hobj
    have HOBJ := Lib.hid hobj
    clear hobj
    go_enter Tryz.func170, Tryz.ntmps170
    go_wp2_with fail
    clear c0 c1 f0 f1
    go_loopw [3] (fun _ wr => ∃ m : Nat, m ≤ ds.length ∧ (∀ i, m ≤ i → i < ds.length → dAt ds i = 0) ∧ wr.heap[b]? = some (.cells #[.slice (some ⟨g, 0, none⟩) m cap, .int .i64 dp] 265 (0, 0)) ∧ (∀ i, i < ds.length → wr.cell? ⟨g, i, none⟩ = some (.int .u8 (dAt ds i : Nat))) ∧ Only b w wr) (fun _ wr => headLen wr b)
    case atStart => exact ⟨ds.length, Nat.le_refl _, fun i h1 h2 => by omega, HOBJ.out, HC.out, Only.refl _ _⟩
    case round =>
      obtain ⟨m, hm, hz, hobj, hcells, hbl⟩ := hrel
      obtain ⟨c0, c1, f0, f1⟩ := obj_cells hobj
      have HR := Lib.hid (And.intro hz (And.intro hobj (And.intro hcells hbl)))
      clear hz hobj hbl
      cases m with
      | zero =>
        clear hcells
        go_wp2_with fail
        go_quiet (fail)
        go_wp2_with fail
        go_ret
        obtain ⟨hz, hobj, hcells, hbl⟩ := HR.out
        obtain ⟨q1, q2, q3, q4, q5⟩ := HZ.out
        refine ⟨rfl, [], ⟨0, by omega, rfl, fun i _ hi => hz i (Nat.zero_le _) hi, Or.inl rfl⟩, ⟨hlo.out, _, obj_set1 hobj _, Or.inr ⟨g, cap, rfl, by simp, q2, q3, by simp; have := hbl.size; omega, fun i hi => by simp at hi⟩⟩, ?_⟩
        exact (hbl.drewN _).set _ _
      | succ k =>
        have hck := hcells k (by omega)
        clear hcells
        have hk0 : (0 : Int) ≤ (k : Int) := by omega
        have hk1 : (k : Int) < (k : Int) + 1 := by omega
        have hkc : (k : Int) ≤ (cap : Int) := by have := HZ.out.1; omega
        obtain ⟨i0, hi5, _, hi5s, _⟩ := info_parts info5
        have hkd : ¬ cap = 0 := by have := HZ.out.1; omega
        by_cases hd : dAt ds k = 0
        · rw [hd] at hck
          go_wp2_with fail
          go_quiet (fail)
          go_wp2_with fail
          go_region
          go_wp2_with fail
          go_roundw
          case rel =>
            obtain ⟨hz, hobj, hcells, hbl⟩ := HR.out
            obtain ⟨q1, q2, q3, q4, q5⟩ := HZ.out
            refine ⟨k, by omega, fun i h1 h2 => ?_, obj_set0 hobj _, fun i hi => ?_, (hbl.drewN _).set _ _⟩
            · by_cases e : i = k
              · rw [e]; exact hd
              · exact hz i (by omega) h2
            · rw [World.cell?_setCell_other _ _ _ _ (by first | (simp; done) | (simp; omega))]
              exact hcells i hi
          case measure =>
            rw [headLen_eq c0]
            have : ∀ u : World, u.heap = wr.heap → headLen (u.setCell ⟨b, 0, none⟩ (.slice (some ⟨g, 0, none⟩) k cap)) b = k := fun u hu => headLen_eq (obj_cells (obj_set0 (x := .slice (some ⟨g, 0, none⟩) (k + 1) cap) (y := .int .i64 dp) (by rw [hu]; exact HR.out.2.1) _)).1
            rw [this _ (heap_drewN _ _)]
            omega
        · have dd : (dAt ds k == 0) = false := by simpa using hd
          have HD := Lib.hid hd
          clear hd
          go_wp2_with fail
          go_quiet (fail)
          go_wp2_with fail
          go_ret
          obtain ⟨hz, hobj, hcells, hbl⟩ := HR.out
          obtain ⟨q1, q2, q3, q4, q5⟩ := HZ.out
          have hl : (ds.take (k + 1)).length = k + 1 := by simp; omega
          have hne : ds.take (k + 1) ≠ [] := by intro h; rw [h] at hl; simp at hl
          refine ⟨rfl, ds.take (k + 1), ⟨k + 1, hm, rfl, hz, Or.inr (by simpa using HD.out)⟩, ?_, hbl.drewN _⟩
          rw [if_neg hne]
          refine ⟨hlo.out, _, hobj, Or.inr ⟨g, cap, by rw [hl], by omega, q2, q3, by have := hbl.size; simp; omega, fun i hi => ?_⟩⟩
          rw [dAt_take, if_pos (by omega)]
          exact hcells i (by omega)

end Go.Proofs.YtgolhmiocjpohaaGreatDoor

set_option linter.unusedVariables false
set_option linter.unusedSimpArgs false
namespace Go.Proofs.YtgolhmiocjpohaaGreatDoor
open Go.RowKit

set_option maxHeartbeats 400000 in
theorem digit (w : World) (base b : Nat) (ds : List Nat) (dp : Int) (h : DecAt w base b ds dp) (hlen : ds.length ≤ 2147483647) (i : Nat) (hi : i ≤ 2147483647) :
    Calls Tryz.prog 196 #[.pointer (some ⟨b, 0, none⟩), .int .i64 (i : Int)] w fun e w' => e = .returned (.int .u8 (dAt ds i : Nat)) ∧ w = w' := by
  obtain ⟨v, hobj, hdig⟩ := h.obj
  have hi0 : (0 : Int) ≤ (i : Int) := by omega
  by_cases hlt : i < ds.length
  · rcases hdig with ⟨rfl, rfl⟩ | ⟨g, cap, rfl, hcap, hbg, hgb, hgs, hcells⟩
    · simp at hlt
    · obtain ⟨c0, c1, f0, f1⟩ := obj_cells hobj
      have hc := hcells i hlt
      have hlt2 : (i : Int) < (ds.length : Int) := by omega
      clear hcells hobj h
      go_enter Tryz.func196, Tryz.ntmps196
      go_wp2
      go_ret
      exact ⟨rfl, rfl⟩
  · have hd : dAt ds i = 0 := dAt_beyond (by omega)
    rw [hd]
    have hlt2 : ¬ (i : Int) < (ds.length : Int) := by omega
    rcases hdig with ⟨rfl, rfl⟩ | ⟨g, cap, rfl, hcap, hbg, hgb, hgs, hcells⟩
    · obtain ⟨c0, c1, f0, f1⟩ := obj_cells hobj
      clear hobj h hd
      have hlt3 : ¬ (i : Int) < 0 := by omega
      go_enter Tryz.func196, Tryz.ntmps196
      go_wp2
      go_ret
      exact ⟨rfl, rfl⟩
    · obtain ⟨c0, c1, f0, f1⟩ := obj_cells hobj
      clear hobj h hd hcells
      go_enter Tryz.func196, Tryz.ntmps196
      go_wp2
      go_ret
      exact ⟨rfl, rfl⟩

set_option maxHeartbeats 400000 in
theorem nearUp_no (w : World) (base b : Nat) (ds : List Nat) (dp : Int) (h : DecAt w base b ds dp) (n : Nat) (hn : ds.length ≤ n) (hi : n ≤ 2147483647) :
    Calls Tryz.prog 197 #[.pointer (some ⟨b, 0, none⟩), .int .i64 (n : Int)] w fun e w' => e = .returned (.bool false) ∧ w = w' := by
  obtain ⟨v, hobj, hdig⟩ := h.obj
  have hi0 : ¬ (n : Int) < 0 := by omega
  have hge : (ds.length : Int) ≤ (n : Int) := by omega
  rcases hdig with ⟨rfl, rfl⟩ | ⟨g, cap, rfl, hcap, hbg, hgb, hgs, hcells⟩
  · obtain ⟨c0, c1, f0, f1⟩ := obj_cells hobj
    clear hobj h
    have hge2 : (0 : Int) ≤ (n : Int) := by omega
    go_enter Tryz.func197, Tryz.ntmps197
    go_wp2
    go_ret
    exact ⟨rfl, rfl⟩
  · obtain ⟨c0, c1, f0, f1⟩ := obj_cells hobj
    clear hobj h hcells
    go_enter Tryz.func197, Tryz.ntmps197
    go_wp2
    go_ret
    exact ⟨rfl, rfl⟩

set_option maxHeartbeats 800000 in
/-- A decimal whose point lies behind its last digit, as a whole number. -/
theorem whole (w : World) (base b : Nat) (ds : List Nat) (n : Nat) (h : DecAt w base b ds n) (hd : Digits ds) (hlen : ds.length ≤ n) (hn : n ≤ 2147483647) (hM : pre ds n ≤ 9223372036854775807) :
    Calls Tryz.prog 176 #[.pointer (some ⟨b, 0, none⟩)] w fun e w' => e = .returned (.int .u64 (pre ds n : Nat)) ∧ w = w' := by
  have HN := Lib.hid (nearUp_no w base b ds n h n hlen hn)
  have HG := Lib.hid (digit w base b ds n h (by omega))
  obtain ⟨v, hobj, hdig⟩ := h.obj
  obtain ⟨c0, c1, f0, f1⟩ := obj_cells hobj
  have HB : Hid (∀ k, k < n → pre ds (k + 1) = pre ds k * 10 + dAt ds k ∧ pre ds (k + 1) ≤ 9223372036854775807 ∧ dAt ds k < 10) := fun k hk => ⟨rfl, by
    have h1 := pre_le (ds := ds) (i := k + 1) n (by omega)
    have h2 : 0 < 10 ^ (n - (k + 1)) := Nat.pow_pos (by omega)
    have h3 : pre ds (k + 1) * 1 ≤ pre ds (k + 1) * 10 ^ (n - (k + 1)) := Nat.mul_le_mul_left _ h2
    omega, hd.all k⟩
  clear hobj hdig h hM hd
  go_enter Tryz.func176, Tryz.ntmps176
  go_wp2_with fail
  go_loop [3, 4] (fun u v => ∃ k : Nat, u = .int .u64 (pre ds k : Nat) ∧ v = .int .i64 (k : Int) ∧ k ≤ n) (fun _ v => n - (intOf v).toNat)
  case atStart => exact ⟨0, rfl, rfl, by omega⟩
  case round =>
    obtain ⟨k, rfl, rfl, hk⟩ := hrel
    by_cases hlt : k < n
    · obtain ⟨e1, e2, e3⟩ := HB.out k hlt
      have E1 := Lib.hid e1
      have hk2 : (k : Int) < (n : Int) := by omega
      have b1 : ((pre ds k : Nat) : Int) * 10 ≤ 9223372036854775807 := by omega
      have b2 : ((pre ds k : Nat) : Int) * 10 + ((dAt ds k : Nat) : Int) ≤ 9223372036854775807 := by omega
      have b3 : ((dAt ds k : Nat) : Int) < 10 := by omega
      clear e1 e2 e3
      go_wp2_with (go_at_call 196; (with_reducible refine (HG.out k (by omega)).mono ?_); rintro e w1 ⟨rfl, rfl⟩)
      go_round
      case rel => exact ⟨k + 1, by rw [E1.out]; go_num, by go_num, by omega⟩
      case measure => simp [intOf]; omega
    · have hkn : k = n := by omega
      subst hkn
      have hk2 : ¬ (k : Int) < (k : Int) := by omega
      go_wp2_with (go_at_call 197; (with_reducible refine HN.out.mono ?_); rintro e w1 ⟨rfl, rfl⟩)
      go_ret
      exact ⟨rfl, rfl⟩

end Go.Proofs.YtgolhmiocjpohaaGreatDoor
