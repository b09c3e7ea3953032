/- Words that the walks of this claim share: how a slice of texts, and a slice of rows of texts, lies in memory; posts behind a name. No condition. The package's comparison of two cells (table.less and what it calls) computes the plain function 'bef', if strings.ToLower and the light ParseFloat compute 'low' and 'num' on the texts at hand. No condition beyond those. The light decimal in memory; what trim (170), digit (196), nearUp (197) and whole (176) do to it. No condition beyond those on the block. The light decimal read off: one digit (196), whether it is rounded up behind its last digit (197: no), and as a whole number (176). No condition beyond those on the block. The light decimal doubled k times (175). No condition beyond those on the block and on sizes. and, or on 64 bits, as on natural numbers. No condition beyond the bounds. The light decimal halved k times (174). No condition beyond those on the block and on sizes. -/
import Derived.Test.YtgolhmiocjpohaaGreatDoorProg
import Derived.StillTailTactics
import Derived.Below
import Derived.Deep.Draws
import Derived.Deep.AppendLies
import Derived.Maps.AppendAt
import Derived.OwnWalk
import Derived.Laws.BytesArg
import Derived.Laws.MakeOwn
import Derived.Laws.OwnMore
import Derived.Deep.OwnRows
import Derived.Tactics
import Derived.Lib.ConvBytes
import Derived.Laws.Slices
import Derived.WalkKit
import Derived.KernelRfl
import Derived.RowKit3
import Derived.Deep.LoopGhost
import Derived.Deep.QuietTactic
import Derived.BigQuiet
import Derived.WideLaws
import Derived.Deep.DeepCutAuto
import Derived.Deep.CutBlock
import Derived.Deep.RegionHeld3
import Derived.Laws.Rows
import Derived.Lib.AppendStr
import Derived.Lib.Hide
import Derived.ArgAppend
import Derived.Laws.IdiomCopy
import Derived.OrdersHeld
import Derived.Laws.BitsLemmas
import Derived.RowKit
import Derived.WalkSpells
import Derived.WalkLawsBesides
import Derived.Outline
import Derived.Handy
import Derived.IntWalk
import Derived.Test.YtgolhmiocjpohaaGreatDoorGen1
set_option linter.unusedVariables false
set_option linter.unusedSimpArgs false
namespace Go.Proofs.YtgolhmiocjpohaaGreatDoor
open Go.RowKit

/-- A post: some bool of which P holds is handed back, the world as it was. -/
def BoolThat (P : Bool → Prop) (w : World) (e : Ending) (w' : World) : Prop := ∃ b, e = .returned (.bool b) ∧ P b ∧ w = w'

theorem heap_drew (w : World) : w.drew.heap = w.heap := rfl
theorem heap_drewN (w : World) (n : Nat) : (w.drewN n).heap = w.heap := rfl
theorem cell_heap_eq {w w' : World} (e : w'.heap = w.heap) (a : Addr) : w'.cell? a = w.cell? a := by unfold World.cell?; rw [e]

end Go.Proofs.YtgolhmiocjpohaaGreatDoor

namespace Go.Proofs.YtgolhmiocjpohaaGreatDoor
open Go.RowKit

/-- A post: a number, or an error. -/
def NumIs (o : Option Nat) (w : World) (e : Ending) (w' : World) : Prop :=
 (match o with
  | some x => e = .returned (.tuple #[.float .f64 x, .nilIface])
  | none => ∃ x t v, e = .returned (.tuple #[.float .f64 x, .iface t v])) ∧ Below w.heap.size w w'

theorem NumIs.none {w w' : World} {e : Ending} (h : NumIs none w e w') : ∃ x t v, e = .returned (.tuple #[.float .f64 x, .iface t v]) ∧ Below w.heap.size w w' := by
 obtain ⟨⟨x, t, v, h1⟩, h2⟩ := h
 exact ⟨x, t, v, h1, h2⟩

end Go.Proofs.YtgolhmiocjpohaaGreatDoor

namespace Go.Proofs.YtgolhmiocjpohaaGreatDoor
open Go.RowKit

/-- The digits in a slice of bytes, in a block from 'base' on, other than b. -/
def DigAt (w : World) (base b : Nat) (v : Value) (ds : List Nat) : Prop :=
 (v = .slice none 0 0 ∧ ds = []) ∨ ∃ g cap, v = .slice (some ⟨g, 0, none⟩) ds.length cap ∧ ds.length ≤ cap ∧ base ≤ g ∧ g ≠ b ∧ g < w.heap.size ∧ ∀ i, i < ds.length → w.cell? ⟨g, i, none⟩ = some (.int .u8 (dAt ds i : Nat))

/-- A decimal in block b. -/
structure DecAt (w : World) (base b : Nat) (ds : List Nat) (dp : Int) : Prop where
 lo : base ≤ b
 obj : ∃ v, w.heap[b]? = some (.cells #[v, .int .i64 dp] 265 (0, 0)) ∧ DigAt w base b v ds

theorem DigAt.heap {w w' : World} {base b : Nat} {v : Value} {ds : List Nat} (h : DigAt w base b v ds) (hs : w.heap.size ≤ w'.heap.size) (hc : ∀ g, base ≤ g → g ≠ b → g < w.heap.size → w'.heap[g]? = w.heap[g]?) : DigAt w' base b v ds := by
 rcases h with h | ⟨g, cap, h1, h2, h3, h4, h5, h6⟩
 ·exact Or.inl h
 ·refine Or.inr ⟨g, cap, h1, h2, h3, h4, by omega, fun i hi => ?_⟩
  rw [← h6 i hi]
  exact World.cell?_of_block (hc g h3 h4 h5)

theorem DecAt.heap_eq {w w' : World} {base b : Nat} {ds : List Nat} {dp : Int} (h : DecAt w base b ds dp) (he : w'.heap = w.heap) : DecAt w' base b ds dp := by
 obtain ⟨v, h1, h2⟩ := h.obj
 exact ⟨h.lo, v, by rw [he]; exact h1, h2.heap (by rw [he]; omega) (fun g _ _ _ => by rw [he])⟩

theorem DecAt.lt {w : World} {base b : Nat} {ds : List Nat} {dp : Int} (h : DecAt w base b ds dp) : b < w.heap.size := by
 obtain ⟨v, h1, _⟩ := h.obj
 exact (Array.getElem?_eq_some_iff.1 h1).1

/-- Behind a callee that leaves all as it was. -/
theorem DecAt.below {w w' : World} {base b : Nat} {ds : List Nat} {dp : Int} (h : DecAt w base b ds dp) (hb : Below w.heap.size w w') : DecAt w' base b ds dp := by
 obtain ⟨v, h1, h2⟩ := h.obj
 exact ⟨h.lo, v, by rw [hb.block b h.lt]; exact h1, h2.heap hb.size (fun g _ _ hg => hb.block g hg)⟩

theorem obj_cells {w : World} {b : Nat} {x y : Value} (h : w.heap[b]? = some (.cells #[x, y] 265 (0, 0))) :
  w.cell? ⟨b, 0, none⟩ = some x ∧ w.cell? ⟨b, 1, none⟩ = some y ∧ w.frozen? ⟨b, 0, none⟩ = false ∧ w.frozen? ⟨b, 1, none⟩ = false :=
 ⟨by rw [cell_of_row w b 0 _ _ _ h]; rfl, by rw [cell_of_row w b 1 _ _ _ h]; rfl, frozen_of_row w b 0 _ _ h, frozen_of_row w b 1 _ _ h⟩

theorem obj_set0 {w : World} {b : Nat} {x y : Value} (h : w.heap[b]? = some (.cells #[x, y] 265 (0, 0))) (u : Value) : (w.setCell ⟨b, 0, none⟩ u).heap[b]? = some (.cells #[u, y] 265 (0, 0)) := by
 rw [World.setCell]
 simp [Array.getElem?_modify, h]

theorem obj_set1 {w : World} {b : Nat} {x y : Value} (h : w.heap[b]? = some (.cells #[x, y] 265 (0, 0))) (u : Value) : (w.setCell ⟨b, 1, none⟩ u).heap[b]? = some (.cells #[x, u] 265 (0, 0)) := by
 rw [World.setCell]
 simp [Array.getElem?_modify, h]

/-- The length of the slice at a block's head. -/
def headLen (w : World) (b : Nat) : Nat := match w.cell? ⟨b, 0, none⟩ with | some (.slice _ n _) => n | _ => 0

theorem headLen_eq {w : World} {b n c : Nat} {A : Option Addr} (h : w.cell? ⟨b, 0, none⟩ = some (.slice A n c)) : headLen w b = n := by simp [headLen, h]

theorem info5 : (Tryz.prog.info? 5).map (fun i => (i.zero, i.size, i.bytes)) = some (some (.int .u8 0), 1, 1) := by kernel_rfl

/-- A world behind another one: of the older blocks at most b has turned. -/
structure Only (b : Nat) (w w' : World) : Prop where
 os : w'.os = w.os
 tape : w'.tape = w.tape
 output : w'.output = w.output
 size : w.heap.size ≤ w'.heap.size
 block : ∀ k, k < w.heap.size → k ≠ b → w'.heap[k]? = w.heap[k]?

theorem Only.refl (b : Nat) (w : World) : Only b w w := ⟨rfl, rfl, rfl, Nat.le_refl _, fun _ _ _ => rfl⟩
theorem Only.trans {b : Nat} {x y z : World} (h : Only b x y) (k : Only b y z) : Only b x z :=
 ⟨k.os.trans h.os, k.tape.trans h.tape, k.output.trans h.output, Nat.le_trans h.size k.size, fun i hi hb => (k.block i (Nat.lt_of_lt_of_le hi h.size) hb).trans (h.block i hi hb)⟩
theorem Only.of {b : Nat} {w w' : World} (h : Below w.heap.size w w') : Only b w w' := ⟨h.os, h.tape, h.output, h.size, fun k hk _ => h.block k hk⟩
theorem Only.below {b : Nat} {w u w' : World} (h : Only b w u) (k : Below w.heap.size u w') : Only b w w' :=
 ⟨k.os.trans h.os, k.tape.trans h.tape, k.output.trans h.output, Nat.le_trans h.size k.size, fun i hi hb => (k.block i hi).trans (h.block i hi hb)⟩
theorem Only.drewN {b : Nat} {w u : World} (h : Only b w u) (n : Nat) : Only b w (u.drewN n) := h.below (below_drewN (Below.refl _ _) n)
theorem Only.drew {b : Nat} {w u : World} (h : Only b w u) : Only b w u.drew := h.below (Below.refl _ _).drew
theorem Only.alloc {b : Nat} {w u : World} (h : Only b w u) (o : Obj) : Only b w (u.alloc o) := h.below ((Below.refl _ _).alloc h.size o)
theorem Only.set {b : Nat} {w u : World} (h : Only b w u) (o : Nat) (v : Value) : Only b w (u.setCell ⟨b, o, none⟩ v) :=
 ⟨h.os, h.tape, h.output, by have := h.size; simpa [World.setCell] using this, fun k hk hb => (Below.heap_setCell _ _ _ _ hb).trans (h.block k hk hb)⟩
theorem Only.setNew {b : Nat} {w u : World} (h : Only b w u) {g o : Nat} (hg : w.heap.size ≤ g) (v : Value) : Only b w (u.setCell ⟨g, o, none⟩ v) :=
 h.below ((Below.refl _ _).setCell (p := ⟨g, o, none⟩) hg v)
theorem Only.toBelow {b base : Nat} {w w' : World} (h : Only b w w') (hb : base ≤ b) (hw : b < w.heap.size) : Below base w w' :=
 ⟨h.os, h.tape, h.output, h.size, fun k hk => h.block k (by omega) (by omega)⟩
theorem Only.cell {b : Nat} {w w' : World} (h : Only b w w') {g o : Nat} (hg : g < w.heap.size) (hb : g ≠ b) : w'.cell? ⟨g, o, none⟩ = w.cell? ⟨g, o, none⟩ :=
 World.cell?_of_block (h.block g hg hb)

/-- A post of trim. -/
def TrimIs (base b : Nat) (ds : List Nat) (dp : Int) (w : World) (e : Ending) (w' : World) : Prop :=
 e = .returned (.pointer (some ⟨b, 0, none⟩)) ∧ ∃ es, Trimmed ds es ∧ DecAt w' base b es (if es = [] then 0 else dp) ∧ Only b w w'

set_option maxHeartbeats 1600000 in
set_option maxRecDepth 100000 in
theorem trim (w : World) (base b : Nat) (ds : List Nat) (dp : Int) (h : DecAt w base b ds dp) (hlen : ds.length ≤ 2147483647) :
  Calls Tryz.prog 170 #[.pointer (some ⟨b, 0, none⟩)] w (TrimIs base b ds dp w) := by
 have hlo := Lib.hid h.lo
 have hlt := Lib.hid h.lt
 obtain ⟨v, hobj, hdig⟩ := h.obj
 clear h
 rcases hdig with ⟨rfl, rfl⟩ | ⟨g, cap, rfl, hcap, hbg, hgb, hgs, hcells⟩
 ·obtain ⟨c0, c1, f0, f1⟩ := obj_cells hobj
  have HOBJ := Lib.hid hobj
  clear hobj
  go_enter Tryz.func170, Tryz.ntmps170
  go_wp2_with fail
  refine wp_loop_rounds 1 ?_
  rw [rounds_succ]
  go_wp2_with fail
  go_wp2_with fail
  go_quiet (fail)
  go_wp2_with fail
  go_ret
  refine ⟨rfl, [], ⟨0, by simp, rfl, fun i _ hi => by simp at hi, Or.inl rfl⟩, ⟨hlo.out, _, obj_set1 HOBJ.out _, Or.inl ⟨rfl, rfl⟩⟩, ?_⟩
  exact (((Only.refl _ _).drewN _).set _ _)
 ·have HC := Lib.hid hcells
  have HZ := Lib.hid (And.intro hcap (And.intro hbg (And.intro hgb (And.intro hgs hlen))))
  clear hcells
  obtain ⟨c0, c1, f0, f1⟩ := obj_cells hobj
  have HOBJ := Lib.hid hobj
  clear hobj
  go_enter Tryz.func170, Tryz.ntmps170
  go_wp2_with fail
  clear c0 c1 f0 f1
  go_loopw [3] (fun _ wr => ∃ m : Nat, m ≤ ds.length ∧ (∀ i, m ≤ i → i < ds.length → dAt ds i = 0) ∧ wr.heap[b]? = some (.cells #[.slice (some ⟨g, 0, none⟩) m cap, .int .i64 dp] 265 (0, 0)) ∧ (∀ i, i < ds.length → wr.cell? ⟨g, i, none⟩ = some (.int .u8 (dAt ds i : Nat))) ∧ Only b w wr) (fun _ wr => headLen wr b)
  case atStart => exact ⟨ds.length, Nat.le_refl _, fun i h1 h2 => by omega, HOBJ.out, HC.out, Only.refl _ _⟩
  case round =>
   obtain ⟨m, hm, hz, hobj, hcells, hbl⟩ := hrel
   obtain ⟨c0, c1, f0, f1⟩ := obj_cells hobj
   have HR := Lib.hid (And.intro hz (And.intro hobj (And.intro hcells hbl)))
   clear hz hobj hbl
   cases m with
   | zero =>
    clear hcells
    go_wp2_with fail
    go_quiet (fail)
    go_wp2_with fail
    go_ret
    obtain ⟨hz, hobj, hcells, hbl⟩ := HR.out
    obtain ⟨q1, q2, q3, q4, q5⟩ := HZ.out
    refine ⟨rfl, [], ⟨0, by omega, rfl, fun i _ hi => hz i (Nat.zero_le _) hi, Or.inl rfl⟩, ⟨hlo.out, _, obj_set1 hobj _, Or.inr ⟨g, cap, rfl, by simp, q2, q3, by simp; have := hbl.size; omega, fun i hi => by simp at hi⟩⟩, ?_⟩
    exact (hbl.drewN _).set _ _
   | succ k =>
    have hck := hcells k (by omega)
    clear hcells
    have hk0 : (0 : Int) ≤ (k : Int) := by omega
    have hk1 : (k : Int) < (k : Int) + 1 := by omega
    have hkc : (k : Int) ≤ (cap : Int) := by have := HZ.out.1; omega
    obtain ⟨i0, hi5, _, hi5s, _⟩ := info_parts info5
    have hkd : ¬ cap = 0 := by have := HZ.out.1; omega
    by_cases hd : dAt ds k = 0
    ·rw [hd] at hck
     go_wp2_with fail
     go_quiet (fail)
     go_wp2_with fail
     go_region
     go_wp2_with fail
     go_roundw
     case rel =>
      obtain ⟨hz, hobj, hcells, hbl⟩ := HR.out
      obtain ⟨q1, q2, q3, q4, q5⟩ := HZ.out
      refine ⟨k, by omega, fun i h1 h2 => ?_, obj_set0 hobj _, fun i hi => ?_, (hbl.drewN _).set _ _⟩
      ·by_cases e : i = k
       ·rw [e]; exact hd
       ·exact hz i (by omega) h2
      ·rw [World.cell?_setCell_other _ _ _ _ (by first | (simp; done) | (simp; omega))]
       exact hcells i hi
     case measure =>
      rw [headLen_eq c0]
      have : ∀ u : World, u.heap = wr.heap → headLen (u.setCell ⟨b, 0, none⟩ (.slice (some ⟨g, 0, none⟩) k cap)) b = k := fun u hu => headLen_eq (obj_cells (obj_set0 (x := .slice (some ⟨g, 0, none⟩) (k + 1) cap) (y := .int .i64 dp) (by rw [hu]; exact HR.out.2.1) _)).1
      rw [this _ (heap_drewN _ _)]
      omega
    ·have dd : (dAt ds k == 0) = false := by simpa using hd
     have HD := Lib.hid hd
     clear hd
     go_wp2_with fail
     go_quiet (fail)
     go_wp2_with fail
     go_ret
     obtain ⟨hz, hobj, hcells, hbl⟩ := HR.out
     obtain ⟨q1, q2, q3, q4, q5⟩ := HZ.out
     have hl : (ds.take (k + 1)).length = k + 1 := by simp; omega
     have hne : ds.take (k + 1) ≠ [] := by intro h; rw [h] at hl; simp at hl
     refine ⟨rfl, ds.take (k + 1), ⟨k + 1, hm, rfl, hz, Or.inr (by simpa using HD.out)⟩, ?_, hbl.drewN _⟩
     rw [if_neg hne]
     refine ⟨hlo.out, _, hobj, Or.inr ⟨g, cap, by rw [hl], by omega, q2, q3, by have := hbl.size; simp; omega, fun i hi => ?_⟩⟩
     rw [dAt_take, if_pos (by omega)]
     exact hcells i (by omega)

end Go.Proofs.YtgolhmiocjpohaaGreatDoor

namespace Go.Proofs.YtgolhmiocjpohaaGreatDoor
open Go.RowKit

set_option maxHeartbeats 400000 in
theorem digit (w : World) (base b : Nat) (ds : List Nat) (dp : Int) (h : DecAt w base b ds dp) (hlen : ds.length ≤ 2147483647) (i : Nat) (hi : i ≤ 2147483647) :
  Calls Tryz.prog 196 #[.pointer (some ⟨b, 0, none⟩), .int .i64 (i : Int)] w fun e w' => e = .returned (.int .u8 (dAt ds i : Nat)) ∧ w = w' := by
 obtain ⟨v, hobj, hdig⟩ := h.obj
 have hi0 : (0 : Int) ≤ (i : Int) := by omega
 by_cases hlt : i < ds.length
 ·rcases hdig with ⟨rfl, rfl⟩ | ⟨g, cap, rfl, hcap, hbg, hgb, hgs, hcells⟩
  ·simp at hlt
  ·obtain ⟨c0, c1, f0, f1⟩ := obj_cells hobj
   have hc := hcells i hlt
   have hlt2 : (i : Int) < (ds.length : Int) := by omega
   clear hcells hobj h
   go_enter Tryz.func196, Tryz.ntmps196
   go_wp2
   go_ret
   exact ⟨rfl, rfl⟩
 ·have hd : dAt ds i = 0 := dAt_beyond (by omega)
  rw [hd]
  have hlt2 : ¬ (i : Int) < (ds.length : Int) := by omega
  rcases hdig with ⟨rfl, rfl⟩ | ⟨g, cap, rfl, hcap, hbg, hgb, hgs, hcells⟩
  ·obtain ⟨c0, c1, f0, f1⟩ := obj_cells hobj
   clear hobj h hd
   have hlt3 : ¬ (i : Int) < 0 := by omega
   go_enter Tryz.func196, Tryz.ntmps196
   go_wp2
   go_ret
   exact ⟨rfl, rfl⟩
  ·obtain ⟨c0, c1, f0, f1⟩ := obj_cells hobj
   clear hobj h hd hcells
   go_enter Tryz.func196, Tryz.ntmps196
   go_wp2
   go_ret
   exact ⟨rfl, rfl⟩

set_option maxHeartbeats 400000 in
theorem nearUp_no (w : World) (base b : Nat) (ds : List Nat) (dp : Int) (h : DecAt w base b ds dp) (n : Nat) (hn : ds.length ≤ n) (hi : n ≤ 2147483647) :
  Calls Tryz.prog 197 #[.pointer (some ⟨b, 0, none⟩), .int .i64 (n : Int)] w fun e w' => e = .returned (.bool false) ∧ w = w' := by
 obtain ⟨v, hobj, hdig⟩ := h.obj
 have hi0 : ¬ (n : Int) < 0 := by omega
 have hge : (ds.length : Int) ≤ (n : Int) := by omega
 rcases hdig with ⟨rfl, rfl⟩ | ⟨g, cap, rfl, hcap, hbg, hgb, hgs, hcells⟩
 ·obtain ⟨c0, c1, f0, f1⟩ := obj_cells hobj
  clear hobj h
  have hge2 : (0 : Int) ≤ (n : Int) := by omega
  go_enter Tryz.func197, Tryz.ntmps197
  go_wp2
  go_ret
  exact ⟨rfl, rfl⟩
 ·obtain ⟨c0, c1, f0, f1⟩ := obj_cells hobj
  clear hobj h hcells
  go_enter Tryz.func197, Tryz.ntmps197
  go_wp2
  go_ret
  exact ⟨rfl, rfl⟩

set_option maxHeartbeats 800000 in
/-- A decimal whose point lies behind its last digit, as a whole number. -/
theorem whole (w : World) (base b : Nat) (ds : List Nat) (n : Nat) (h : DecAt w base b ds n) (hd : Digits ds) (hlen : ds.length ≤ n) (hn : n ≤ 2147483647) (hM : pre ds n ≤ 9223372036854775807) :
  Calls Tryz.prog 176 #[.pointer (some ⟨b, 0, none⟩)] w fun e w' => e = .returned (.int .u64 (pre ds n : Nat)) ∧ w = w' := by
 have HN := Lib.hid (nearUp_no w base b ds n h n hlen hn)
 have HG := Lib.hid (digit w base b ds n h (by omega))
 obtain ⟨v, hobj, hdig⟩ := h.obj
 obtain ⟨c0, c1, f0, f1⟩ := obj_cells hobj
 have HB : Hid (∀ k, k < n → pre ds (k + 1) = pre ds k * 10 + dAt ds k ∧ pre ds (k + 1) ≤ 9223372036854775807 ∧ dAt ds k < 10) := fun k hk => ⟨rfl, by
  have h1 := pre_le (ds := ds) (i := k + 1) n (by omega)
  have h2 : 0 < 10 ^ (n - (k + 1)) := Nat.pow_pos (by omega)
  have h3 : pre ds (k + 1) * 1 ≤ pre ds (k + 1) * 10 ^ (n - (k + 1)) := Nat.mul_le_mul_left _ h2
  omega, hd.all k⟩
 clear hobj hdig h hM hd
 go_enter Tryz.func176, Tryz.ntmps176
 go_wp2_with fail
 go_loop [3, 4] (fun u v => ∃ k : Nat, u = .int .u64 (pre ds k : Nat) ∧ v = .int .i64 (k : Int) ∧ k ≤ n) (fun _ v => n - (intOf v).toNat)
 case atStart => exact ⟨0, rfl, rfl, by omega⟩
 case round =>
  obtain ⟨k, rfl, rfl, hk⟩ := hrel
  by_cases hlt : k < n
  ·obtain ⟨e1, e2, e3⟩ := HB.out k hlt
   have E1 := Lib.hid e1
   have hk2 : (k : Int) < (n : Int) := by omega
   have b1 : ((pre ds k : Nat) : Int) * 10 ≤ 9223372036854775807 := by omega
   have b2 : ((pre ds k : Nat) : Int) * 10 + ((dAt ds k : Nat) : Int) ≤ 9223372036854775807 := by omega
   have b3 : ((dAt ds k : Nat) : Int) < 10 := by omega
   clear e1 e2 e3
   go_wp2_with (go_at_call 196; (with_reducible refine (HG.out k (by omega)).mono ?_); rintro e w1 ⟨rfl, rfl⟩)
   go_round
   case rel => exact ⟨k + 1, by rw [E1.out]; go_num, by go_num, by omega⟩
   case measure => simp [intOf]; omega
  ·have hkn : k = n := by omega
   subst hkn
   have hk2 : ¬ (k : Int) < (k : Int) := by omega
   go_wp2_with (go_at_call 197; (with_reducible refine HN.out.mono ?_); rintro e w1 ⟨rfl, rfl⟩)
   go_ret
   exact ⟨rfl, rfl⟩

end Go.Proofs.YtgolhmiocjpohaaGreatDoor

namespace Go.Proofs.YtgolhmiocjpohaaGreatDoor
open Go.RowKit

/-- Digits as cells. -/
def digVals (ds : List Nat) : List Value := ds.map fun (d : Nat) => Value.int .u8 (d : Int)

theorem digVals_length (ds : List Nat) : (digVals ds).length = ds.length := by simp [digVals]
theorem digVals_snoc (ds : List Nat) (d : Nat) : digVals (ds ++ [d]) = digVals ds ++ [.int .u8 (d : Int)] := by simp [digVals]
theorem digVals_at {ds : List Nat} {i : Nat} (h : i < ds.length) : (digVals ds)[i]? = some (.int .u8 (dAt ds i : Nat)) := by simp [digVals, dAt, h]

/-- Digits of which i at each end are swapped. -/
def rvAt (out : List Nat) (i t : Nat) : Nat := if t < i ∨ out.length ≤ t + i then dAt out (out.length - 1 - t) else dAt out t
def revVals (out : List Nat) (i : Nat) : List Value := (List.range out.length).map fun (t : Nat) => Value.int .u8 (rvAt out i t : Int)

theorem revVals_length (out : List Nat) (i : Nat) : (revVals out i).length = out.length := by simp [revVals]
theorem revVals_get {out : List Nat} {i t : Nat} (h : t < out.length) : (revVals out i)[t]? = some (.int .u8 (rvAt out i t : Nat)) := by simp [revVals, h]
theorem revVals_at {out : List Nat} {i t : Nat} (h : t < out.length) (h1 : i ≤ t) (h2 : t + i < out.length) : (revVals out i)[t]? = some (.int .u8 (dAt out t : Nat)) := by
 rw [revVals_get h, rvAt, if_neg (by omega)]
theorem revVals_zero (out : List Nat) : revVals out 0 = digVals out := by
 apply List.ext_getElem?
 intro t
 by_cases h : t < out.length
 ·rw [revVals_at h (by omega) (by omega), digVals_at h]
 ·rw [List.getElem?_eq_none (by rw [revVals_length]; omega), List.getElem?_eq_none (by rw [digVals_length]; omega)]
theorem revVals_step {out : List Nat} {i j : Nat} (hj : out.length = i + 1 + j) (hij : i < j) :
  ((revVals out i).set i (.int .u8 (dAt out j : Nat))).set j (.int .u8 (dAt out i : Nat)) = revVals out (i + 1) := by
 apply List.ext_getElem?
 intro t
 by_cases h : t < out.length
 ·rw [List.getElem?_set, List.getElem?_set, revVals_get h, revVals_get h, List.length_set, revVals_length]
  by_cases e1 : j = t
  ·subst e1
   rw [if_pos rfl, if_pos h, rvAt, if_pos (by omega), show out.length - 1 - j = i by omega]
  ·rw [if_neg e1]
   by_cases e2 : i = t
   ·subst e2
    rw [if_pos rfl, if_pos h, rvAt, if_pos (by omega), show out.length - 1 - i = j by omega]
   ·rw [if_neg e2]
    unfold rvAt
    by_cases h3 : t < i ∨ out.length ≤ t + i
    ·rw [if_pos h3, if_pos (by omega)]
    ·rw [if_neg h3, if_neg (by omega)]
 ·rw [List.getElem?_eq_none (by simp [revVals_length]; omega), List.getElem?_eq_none (by rw [revVals_length]; omega)]
theorem rvAt_end {out : List Nat} {i t : Nat} (h : out.length ≤ 2 * i + 1) (ht : t < out.length) (hi : 2 * i ≤ out.length) : rvAt out i t = dAt out.reverse t := by
 rw [dAt_reverse _ _ ht, rvAt]
 by_cases h3 : t < i ∨ out.length ≤ t + i
 ·rw [if_pos h3]
 ·rw [if_neg h3, show out.length - 1 - t = t by omega]

/-- A post: a decimal by so many powers of two larger. -/
def ShiftIs (base b : Nat) (ds : List Nat) (dp : Int) (P Q more : Nat) (w : World) (e : Ending) (w' : World) : Prop :=
 e = .returned (.tuple #[]) ∧ ∃ es ep, Canon es ∧ DecAt w' base b es ep ∧ (∀ A B, Same ds dp A B → Same es ep (A * P) (B * Q)) ∧ es.length ≤ ds.length + more ∧ Only b w w'

set_option maxHeartbeats 1600000 in
set_option maxRecDepth 100000 in
theorem double (w : World) (base b : Nat) (ds : List Nat) (dp : Int) (k : Nat) (h : DecAt w base b ds dp) (hc : Canon ds) (hlen : ds.length ≤ 1000000) (hdp : -1000000 ≤ dp ∧ dp ≤ 1000000) (hk : k ≤ 59) :
  Calls Tryz.prog 175 #[.pointer (some ⟨b, 0, none⟩), .int .i64 (k : Int)] w (ShiftIs base b ds dp (2 ^ k) 1 18 w) := by
 obtain ⟨i0, hi, hz0, hz1, hz2⟩ := info_parts info5
 have HI := Lib.hid hi
 have HZ0 := Lib.hid hz0
 have HZ1 := Lib.hid hz1
 have HZ2 := Lib.hid hz2
 clear hi hz0 hz1 hz2
 have HC := Lib.hid hc
 have HLO := Lib.hid h.lo
 have HLT := Lib.hid h.lt
 obtain ⟨v, hobj, hdig⟩ := h.obj
 have hpos := Lib.hid hc.pos
 rcases hdig with ⟨rfl, rfl⟩ | ⟨g, cap, rfl, hcap, hbg, hgb, hgs, hcells⟩
 ·have := hc.pos; simp at this
 obtain ⟨c0, c1, f0, f1⟩ := obj_cells hobj
 have HOBJ := Lib.hid hobj
 have HCELLS := Lib.hid hcells
 have HG := Lib.hid (And.intro hcap (And.intro hbg (And.intro hgb hgs)))
 obtain ⟨P, hP⟩ : ∃ P : Nat, P = 2 ^ k := ⟨_, rfl⟩
 have hPi : (2 : Int) ^ k = (P : Int) := by rw [hP]; simp
 have HP := Lib.hid hP
 have HPP : Hid (0 < P ∧ P ≤ 576460752303423488) := by rw [hP]; exact ⟨Nat.pow_pos (by omega), two_pow_59 hk⟩
 have hk0 : (0 : Int) ≤ (k : Int) := by omega
 have hk64 : (k : Int) ≤ 64 := by omega
 clear hobj hcells h hc hP hcap hbg hgb hgs
 go_enter Tryz.func175, Tryz.ntmps175
 go_wp2_with fail
 clear c0 c1 f0 f1
 go_loopw [4, 5, 6] (fun u v x wr => ∃ (out : List Nat) (n : Nat), u = .int .u64 (n : Nat) ∧ x = .int .i64 ((ds.length : Int) - 1 - (out.length : Int)) ∧ Doubling ds k out n ∧ Below w.heap.size w wr ∧ wr.ownsRow w.heap.size 5 1 v out.length (digVals out)) (fun u _ x _ => ((intOf x) + 1).toNat * 2 ^ 64 + (intOf u).toNat)
 case atStart => exact ⟨[], 0, rfl, by simp, Doubling.start ds k, Below.refl _ _, World.ownsRow_nil _ _ _ _⟩
 case round =>
  obtain ⟨out, n, rfl, rfl, hD, hbl, hown⟩ := hrel
  have HD := Lib.hid hD
  have HBL := Lib.hid hbl
  have HOWN := Lib.hid hown
  have hsz := hD.size
  clear hD hbl hown
  have c0 : wr.cell? ⟨b, 0, none⟩ = some (.slice (some ⟨g, 0, none⟩) ds.length cap) := by rw [HBL.out.cell (p := ⟨b, 0, none⟩) HLT.out]; exact (obj_cells HOBJ.out).1
  by_cases hl : out.length < ds.length
  ·obtain ⟨j, hj⟩ : ∃ j, ds.length = out.length + 1 + j := ⟨ds.length - 1 - out.length, by omega⟩
   have ej : ((ds.length : Int) - 1 - (out.length : Int)) = (j : Int) := by omega
   have HEJ := Lib.hid ej
   rw [ej]
   clear ej
   have hcj : wr.cell? ⟨g, j, none⟩ = some (.int .u8 (dAt ds j : Nat)) := by rw [HBL.out.cell (p := ⟨g, j, none⟩) HG.out.2.2.2]; exact HCELLS.out j (by omega)
   obtain ⟨d, hd⟩ : ∃ d, d = dAt ds j := ⟨_, rfl⟩
   rw [← hd] at hcj
   obtain ⟨q, hq⟩ : ∃ q, q = d * P := ⟨_, rfl⟩
   obtain ⟨n1, hn1⟩ : ∃ n1, n1 = n + q := ⟨_, rfl⟩
   have hst := HD.out.step HC.out.digits HC.out.first hl n1 (by rw [hn1, hq, HP.out, hd, show ds.length - 1 - out.length = j by omega])
   have hd10 : d < 10 := by rw [hd]; exact HC.out.digits.all j
   have hqb : q ≤ 9 * 576460752303423488 := by
    rw [hq]
    exact Nat.mul_le_mul (by omega) HPP.out.2
   have hnb : n ≤ 576460752303423488 := by have := HD.out.lt; have := HPP.out.2; rw [HP.out] at this; omega
   have HST := Lib.hid hst.2
   clear hst
   have eq1 : (d : Int) * (P : Int) = (q : Int) := by rw [hq]; simp
   have eq2 : (n : Int) + (q : Int) = (n1 : Int) := by rw [hn1]; simp
   have hn1b : n1 ≤ 10 * 576460752303423488 := by omega
   have hj0 : (0 : Int) ≤ (j : Int) := by omega
   have hj1 : (j : Int) < (ds.length : Int) := by omega
   have HJ := Lib.hid hj
   clear hd hq hn1 hj
   obtain ⟨r, hr⟩ : ∃ r, r = n1 % 10 := ⟨_, rfl⟩
   obtain ⟨m, hm⟩ : ∃ m, m = n1 / 10 := ⟨_, rfl⟩
   have eq3 : (n1 : Int) % 10 = (r : Int) := by omega
   have eq4 : (n1 : Int) / 10 = (m : Int) := by omega
   have hr10 : (r : Int) < 10 := by omega
   have hmb : Hid (m < 576460752303423488) := by have := HST.out.lt; rw [← hm, ← HP.out] at this; have := HPP.out.2; show _ < _; omega
   rw [← hr, ← hm] at HST
   clear hr hm
   go_upto_region 7 with fail
   go_wp2_with (at_builtin; refine wpList_append_own _ rfl _ _ 122 rfl w.heap.size 5 i0 (.int .u8 0) 1 1 Tryz.underlying122 HI.out HZ0.out HZ1.out HZ2.out rfl (by decide) _ _ _ rfl (HOWN.out.alloc _) ⟨wr.heap.size, 0, none⟩ 1 1 [.int .u8 (r : Int)] rfl rfl ?c1 ?c2 ?c3 ?c4 ?c5 ?_)
   case c1 => exact cell_one_new _ _ _
   case c2 => intro u hu; simp at hu; subst hu; rfl
   case c3 => unfold maxLen; omega
   case c4 => omega
   case c5 => simp; exact Nat.le_trans HBL.out.size (Nat.le_succ _)
   intro v' w1 hown1 hgr1 _
   have HB1 : Hid (Below w.heap.size w w1) := (HBL.out.alloc HBL.out.size _).grown hgr1 (by simp; have := HBL.out.size; omega) (fun k hk => (HOWN.out.lt k hk).1)
   have HO1 : Hid (w1.ownsRow w.heap.size 5 1 v' (out ++ [r]).length (digVals (out ++ [r]))) := by
    show World.ownsRow _ _ _ _ _ _ _
    rw [digVals_snoc, List.length_append]
    exact hown1
   clear hown1 hgr1
   go_wp2_with fail
   go_roundw
   case rel =>
    exact ⟨out ++ [r], m, by go_num, by have := HJ.out; simp; omega, HST.out, HB1.out, HO1.out⟩
   case measure =>
    have := hmb.out
    simp [intOf]; omega
  ·have hl2 : Hid (ds.length ≤ out.length) := Nat.not_lt.1 hl
   obtain ⟨x, hx⟩ : ∃ x : Int, x = (ds.length : Int) - 1 - (out.length : Int) := ⟨_, rfl⟩
   have HX := Lib.hid hx
   rw [← hx]
   have hx0 : ¬ (0 : Int) ≤ x := by omega
   have hx1 : (-20 : Int) ≤ x := by omega
   clear hx hl
   by_cases hn : 0 < n
   ·have hn' : (0 : Int) < (n : Int) := by omega
    have hst := HD.out.carry hk hl2.out hn
    have HST := Lib.hid hst
    obtain ⟨r, hr⟩ : ∃ r, r = n % 10 := ⟨_, rfl⟩
    obtain ⟨m, hm⟩ : ∃ m, m = n / 10 := ⟨_, rfl⟩
    have eq3 : (n : Int) % 10 = (r : Int) := by omega
    have eq4 : (n : Int) / 10 = (m : Int) := by omega
    have hr10 : (r : Int) < 10 := by omega
    have hmb : Hid (m < n ∧ n < 576460752303423488) := by have := HD.out.lt; rw [← HP.out] at this; have := HPP.out.2; constructor <;> omega
    rw [← hr, ← hm] at HST
    have hnb : n ≤ 576460752303423488 := by have := hmb.out.2; omega
    clear hr hm hst
    go_upto_region 7 with fail
    go_wp2_with (at_builtin; refine wpList_append_own _ rfl _ _ 122 rfl w.heap.size 5 i0 (.int .u8 0) 1 1 Tryz.underlying122 HI.out HZ0.out HZ1.out HZ2.out rfl (by decide) _ _ _ rfl (HOWN.out.alloc _) ⟨wr.heap.size, 0, none⟩ 1 1 [.int .u8 (r : Int)] rfl rfl ?c1 ?c2 ?c3 ?c4 ?c5 ?_)
    case c2 => first | rfl | (intro u hu; simp at hu; subst hu; rfl)
    case c3 => unfold maxLen; omega
    case c4 => omega
    case c5 => first | (have := HBL.out.size; omega) | (simp; exact Nat.le_trans HBL.out.size (Nat.le_succ _))
    intro v' w1 hown1 hgr1 _
    have HB1 : Hid (Below w.heap.size w w1) := (HBL.out.alloc HBL.out.size _).grown hgr1 (by simp; have := HBL.out.size; omega) (fun k hk => (HOWN.out.lt k hk).1)
    have HO1 : Hid (w1.ownsRow w.heap.size 5 1 v' (out ++ [r]).length (digVals (out ++ [r]))) := by
     show World.ownsRow _ _ _ _ _ _ _
     rw [digVals_snoc, List.length_append]
     exact hown1
    clear hown1 hgr1
    go_wp2_with fail
    go_roundw
    case rel => exact ⟨out ++ [r], m, by go_num, by have := HX.out; simp; omega, HST.out, HB1.out, HO1.out⟩
    case measure =>
     have := hmb.out
     simp [intOf]; omega
   ·have hn0 : n = 0 := by omega
    subst hn0
    clear hn
    have HL1 : Hid (out.length ≤ ds.length + 18) := hsz
    have hL0 : Hid (0 < out.length) := by have := hl2.out; have := hpos.out; show 0 < _; omega
    rcases HOWN.out.2 with ⟨_, hz⟩ | ⟨g2, cap2, cur, rfl, hbg2, hg2, hn2, hcm2, hcs2, htake2⟩
    ·have := hL0.out; omega
    clear hg2 hn2 hcm2 hcs2 htake2
    have HG2 := Lib.hid (And.intro hbg2 (HOWN.out.lt g2 rfl).2)
    clear hbg2
    have HOB : Hid (wr.heap[b]? = some (.cells #[.slice (some ⟨g, 0, none⟩) ds.length cap, .int .i64 dp] 265 (0, 0))) := by show _ = _; rw [HBL.out.block b HLT.out]; exact HOBJ.out
    obtain ⟨_, c1, f0, f1⟩ := obj_cells HOB.out
    have b1 : (out.length : Int) ≤ 1000018 := by omega
    have b2 : (ds.length : Int) ≤ 1000000 := by omega
    have b3 : -1000000 ≤ dp := hdp.1
    have b4 : dp ≤ 1000000 := hdp.2
    go_upto_region 9 with fail
    go_region
    go_wp2_with fail
    clear c1 f0 f1 c0
    have HOB2 : Hid ((wr.setCell ⟨b, 1, none⟩ (.int .i64 (dp + ((out.length : Int) - (ds.length : Int))))).drew.heap[b]? = some (.cells #[.slice (some ⟨g, 0, none⟩) ds.length cap, .int .i64 (dp + ((out.length : Int) - (ds.length : Int)))] 265 (0, 0))) := obj_set1 HOB.out _
    have HOWN2 : Hid ((wr.setCell ⟨b, 1, none⟩ (.int .i64 (dp + ((out.length : Int) - (ds.length : Int))))).drew.ownsRow w.heap.size 5 1 (.slice (some ⟨g2, 0, none⟩) out.length cap2) out.length (revVals out 0)) := by
     show World.ownsRow _ _ _ _ _ _ _
     rw [revVals_zero]
     exact (ownsRow_setCell_below HOWN.out (a := ⟨b, 1, none⟩) HLT.out _).drew
    have HB2 : Hid (Only b w (wr.setCell ⟨b, 1, none⟩ (.int .i64 (dp + ((out.length : Int) - (ds.length : Int))))).drew) := ((Only.of HBL.out).set _ _).drew
    clear HOB HOWN HBL
    generalize (wr.setCell ⟨b, 1, none⟩ (.int .i64 (dp + ((out.length : Int) - (ds.length : Int))))).drew = wq at *
    go_loopw [7, 8] (fun u v wr => ∃ i : Nat, u = .int .i64 (i : Int) ∧ v = .int .i64 ((out.length : Int) - 1 - (i : Int)) ∧ 2 * i ≤ out.length ∧ Only b w wr ∧ wr.ownsRow w.heap.size 5 1 (.slice (some ⟨g2, 0, none⟩) out.length cap2) out.length (revVals out i) ∧
     wr.heap[b]? = some (.cells #[.slice (some ⟨g, 0, none⟩) ds.length cap, .int .i64 (dp + ((out.length : Int) - (ds.length : Int)))] 265 (0, 0))) (fun u _ _ => out.length - (intOf u).toNat)
    case atStart => exact ⟨0, rfl, by simp, by omega, HB2.out, HOWN2.out, HOB2.out⟩
    case round =>
     clear HB2 HOWN2 HOB2
     obtain ⟨i, rfl, rfl, hi2, hbl, hown, hob⟩ := hrel
     have HBL := Lib.hid hbl
     have HOWN := Lib.hid hown
     have HOB := Lib.hid hob
     clear hbl hown hob
     by_cases hlt : 2 * i + 1 < out.length
     ·obtain ⟨j, hj⟩ : ∃ j, out.length = i + 1 + j := ⟨out.length - 1 - i, by omega⟩
      have ej : (out.length : Int) - 1 - (i : Int) = (j : Int) := by omega
      rw [ej]
      have HJ := Lib.hid hj
      have hij : (i : Int) < (j : Int) := by omega
      have hi0 : (0 : Int) ≤ (i : Int) := by omega
      have hj0 : (0 : Int) ≤ (j : Int) := by omega
      have hil : (i : Int) < (out.length : Int) := by omega
      have hjl : (j : Int) < (out.length : Int) := by omega
      have hci : wr.cell? ⟨g2, i, none⟩ = some (.int .u8 (dAt out i : Nat)) := by rw [World.ownsRow.cellAt HOWN.out i (by omega)]; exact revVals_at (by omega) (by omega) (by omega)
      have hcj : wr.cell? ⟨g2, j, none⟩ = some (.int .u8 (dAt out j : Nat)) := by rw [World.ownsRow.cellAt HOWN.out j (by omega)]; exact revVals_at (by omega) (by omega) (by omega)
      have hfi := World.ownsRow.frozenAt HOWN.out i
      have hfj := World.ownsRow.frozenAt HOWN.out j
      have HIJ : Hid (i ≠ j) := by show i ≠ j; omega
      have HSTEP := Lib.hid (revVals_step (out := out) (i := i) (j := j) hj (by omega))
      clear ej hj
      go_wp2_with fail
      go_region
      go_wp2_with fail
      go_roundw
      case rel =>
       obtain ⟨ho1, _⟩ := World.ownsRow.stored HOWN.out i (.int .u8 (dAt out j : Nat))
       obtain ⟨ho2, _⟩ := World.ownsRow.stored ho1 j (.int .u8 (dAt out i : Nat))
       rw [HSTEP.out] at ho2
       have hlt2 := HLT.out
       have hg2 := HG2.out.1
       have hlo := HLO.out
       refine ⟨i + 1, by go_num, by have := HJ.out; first | (go_num; done) | (go_num; omega), by omega, ((HBL.out.setNew hg2 _).setNew hg2 _).drew, ho2.drew, ?_⟩
       rw [heap_drew, Below.heap_setCell _ _ _ _ (by show b ≠ g2; omega), Below.heap_setCell _ _ _ _ (by show b ≠ g2; omega)]
       exact HOB.out
      case measure => simp [intOf]; omega
     ·have hge : ¬ (i : Int) < (out.length : Int) - 1 - (i : Int) := by omega
      obtain ⟨c0, c1, f0, f1⟩ := obj_cells HOB.out
      have hDA : Hid (DecAt (wr.setCell ⟨b, 0, none⟩ (.slice (some ⟨g2, 0, none⟩) out.length cap2)) base b out.reverse (dp + ((out.length : Int) - (ds.length : Int)))) := by
       refine ⟨HLO.out, _, obj_set0 HOB.out _, Or.inr ⟨g2, cap2, by simp, ?_, ?_, ?_, ?_, fun t ht => ?_⟩⟩
       ·rcases HOWN.out.2 with ⟨h1, _⟩ | ⟨g3, cap3, cur3, h1, _, _, h2, _⟩
        ·simp at h1
        ·simp at h1; obtain ⟨_, rfl⟩ := h1; simpa using h2
       ·have := HG2.out.1; have := HLO.out; have := HLT.out; omega
       ·have := HG2.out.1; have := HLT.out; omega
       ·have := (HOWN.out.lt g2 rfl).2; simpa [World.setCell] using this
       ·have ht' : t < out.length := by simpa using ht
        rw [World.cell?_setCell_other _ _ _ _ (by have := HG2.out.1; have := HLT.out; first | (simp; done) | (simp; omega)), World.ownsRow.cellAt HOWN.out t (by omega), revVals_get ht', rvAt_end (by omega) ht' hi2]
      have HBS : Hid (Only b w (wr.setCell ⟨b, 0, none⟩ (.slice (some ⟨g2, 0, none⟩) out.length cap2))) := HBL.out.set _ _
      have HTR := Lib.hid (trim _ base b out.reverse (dp + ((out.length : Int) - (ds.length : Int))) hDA.out (by simp; omega))
      go_wp2_with (go_at_call 170; (with_reducible refine HTR.out.mono ?_); rintro e w9 ⟨rfl, es, t1, t2, t3⟩; have H9 := Lib.hid (And.intro t1 (And.intro t2 t3)); clear t1 t2 t3)
      go_end0
      obtain ⟨t1, t2, t3⟩ := H9.out
      obtain ⟨d1, d2, d3⟩ := HD.out.end hl2.out hpos.out
      have hcan := t1.canon d2 d3 (by simpa using hL0.out)
      have hne : ¬ es = [] := fun e => by have := hcan.pos; rw [e] at this; simp at this
      rw [if_neg hne] at t2
      have hle := t1.dval.1
      have hL1 := HL1.out
      refine ⟨rfl, es, _, hcan, t2, fun A B hs => ?_, by simp at hle; omega, HBS.out.trans t3⟩
      rw [Nat.mul_one]
      exact (hs.double d1 (by simp; omega)).trim t1

end Go.Proofs.YtgolhmiocjpohaaGreatDoor

namespace Go.Proofs.YtgolhmiocjpohaaGreatDoor
open Go.RowKit

theorem ofInt_u64 (a : Nat) (h : a < 2 ^ 64) : (BitVec.ofInt 64 (a : Int)).toNat = a := by
 rw [BitVec.toNat_ofInt]
 omega

theorem wrap_u64 (a : Nat) (h : a < 2 ^ 64) : IntKind.u64.wrap (a : Int) = (a : Int) := by
 unfold IntKind.wrap
 simp [IntKind.signed, IntKind.bits]
 omega

theorem bits_and_u64 (a b : Nat) (ha : a < 2 ^ 64) (hb : b < 2 ^ 64) : bits .and .u64 (a : Int) (b : Int) = ((a &&& b : Nat) : Int) := by
 show IntKind.u64.wrap (((BitVec.ofInt 64 (a : Int)) &&& (BitVec.ofInt 64 (b : Int))).toNat : Int) = _
 rw [BitVec.toNat_and, ofInt_u64 a ha, ofInt_u64 b hb]
 exact wrap_u64 _ (Nat.lt_of_le_of_lt Nat.and_le_left ha)

theorem bits_or_u64 (a b : Nat) (ha : a < 2 ^ 64) (hb : b < 2 ^ 64) : bits .or .u64 (a : Int) (b : Int) = ((a ||| b : Nat) : Int) := by
 show IntKind.u64.wrap (((BitVec.ofInt 64 (a : Int)) ||| (BitVec.ofInt 64 (b : Int))).toNat : Int) = _
 rw [BitVec.toNat_or, ofInt_u64 a ha, ofInt_u64 b hb]
 exact wrap_u64 _ (Nat.or_lt_two_pow ha hb)

theorem bits_mask_u64 (n k P : Nat) (hP : P = 2 ^ k) (hk : k ≤ 63) (hn : n < 2 ^ 64) : bits .and .u64 (n : Int) ((P : Int) - 1) = ((n % P : Nat) : Int) := by
 have h0 : 0 < P := by rw [hP]; exact Nat.pow_pos (by omega)
 have h1 : P ≤ 2 ^ 63 := by rw [hP]; exact Nat.pow_le_pow_right (by omega) hk
 rw [show (P : Int) - 1 = ((P - 1 : Nat) : Int) by omega, bits_and_u64 n (P - 1) hn (by omega), hP, Nat.and_two_pow_sub_one_eq_mod]

end Go.Proofs.YtgolhmiocjpohaaGreatDoor

namespace Go.Proofs.YtgolhmiocjpohaaGreatDoor
open Go.RowKit

theorem dAt_snoc_zero (xs : List Nat) (d : Nat) : dAt (xs ++ [d]) 0 = if xs.length = 0 then d else dAt xs 0 := by
 rw [dAt_snoc]
 by_cases h : xs.length = 0
 ·rw [if_neg (by omega), if_pos h.symm, if_pos h]
 ·rw [if_pos (by omega), if_neg h]

set_option maxHeartbeats 1600000 in
set_option maxRecDepth 100000 in
theorem half (w : World) (base b : Nat) (ds : List Nat) (dp : Int) (k : Nat) (h : DecAt w base b ds dp) (hc : Canon ds) (hlen : ds.length ≤ 1000000) (hdp : -1000000 ≤ dp ∧ dp ≤ 1000000) (hk1 : 0 < k) (hk : k ≤ 59) :
  Calls Tryz.prog 174 #[.pointer (some ⟨b, 0, none⟩), .int .i64 (k : Int)] w (ShiftIs base b ds dp 1 (2 ^ k) k w) := by
 obtain ⟨i0, hi, hz0, hz1, hz2⟩ := info_parts info5
 have HI := Lib.hid hi
 have HZ0 := Lib.hid hz0
 have HZ1 := Lib.hid hz1
 have HZ2 := Lib.hid hz2
 clear hi hz0 hz1 hz2
 have HC := Lib.hid hc
 have HLO := Lib.hid h.lo
 have HLT := Lib.hid h.lt
 have HK1 := Lib.hid hk1
 obtain ⟨v, hobj, hdig⟩ := h.obj
 have hpos := Lib.hid hc.pos
 rcases hdig with ⟨rfl, rfl⟩ | ⟨g, cap, rfl, hcap, hbg, hgb, hgs, hcells⟩
 ·have := hc.pos; simp at this
 obtain ⟨c0, c1, f0, f1⟩ := obj_cells hobj
 have HOBJ := Lib.hid hobj
 have HCELLS := Lib.hid hcells
 have HG := Lib.hid (And.intro hcap (And.intro hbg (And.intro hgb hgs)))
 obtain ⟨P, hP⟩ : ∃ P : Nat, P = 2 ^ k := ⟨_, rfl⟩
 have hPi : (2 : Int) ^ k = (P : Int) := by rw [hP]; simp
 have HP := Lib.hid hP
 have HPP : Hid (0 < P ∧ P ≤ 576460752303423488) := by rw [hP]; exact ⟨Nat.pow_pos (by omega), two_pow_59 hk⟩
 have hk0 : (0 : Int) ≤ (k : Int) := by omega
 have hk64 : (k : Int) ≤ 64 := by omega
 clear hobj hcells h hc hP hcap hbg hgb hgs hk1
 go_enter Tryz.func174, Tryz.ntmps174
 go_wp2_with fail
 go_loop [4, 5] (fun u v => ∃ (n i : Nat), u = .int .u64 (n : Nat) ∧ v = .int .i64 (i : Int) ∧ n = pre ds i ∧ (i = 0 ∨ pre ds (i - 1) < P)) (fun _ v => 20 - (intOf v).toNat)
 case atStart => exact ⟨0, 0, rfl, rfl, rfl, Or.inl rfl⟩
 case round =>
  obtain ⟨n, i, rfl, rfl, hn, hprev⟩ := hrel
  have HPREV := Lib.hid hprev
  have HN := Lib.hid hn
  clear hprev hn
  by_cases hlt : n < P
  ·have hi18 : i ≤ 18 := half_places HC.out.digits HC.out.first hk (by rw [← HP.out, ← HN.out]; exact hlt)
   have eq0 : (n : Int) / (P : Int) = 0 := Int.ediv_eq_zero_of_lt (by omega) (by omega)
   have hnb : n ≤ 576460752303423487 := by have := HPP.out.2; omega
   have HLT1 := Lib.hid hlt
   clear hlt
   by_cases hl : i < ds.length
   ·have hl' : (i : Int) < (ds.length : Int) := by omega
    have hge : ¬ (ds.length : Int) ≤ (i : Int) := by omega
    have hii : (0 : Int) ≤ (i : Int) := by omega
    have hci := HCELLS.out i hl
    obtain ⟨d, hd⟩ : ∃ d, d = dAt ds i := ⟨_, rfl⟩
    rw [← hd] at hci
    have hd10 : d < 10 := by rw [hd]; exact HC.out.digits.all i
    have HD := Lib.hid hd
    clear hd
    go_wp2_with fail
    go_round
    case rel => exact ⟨n * 10 + d, i + 1, by go_num, by go_num, by rw [HD.out, HN.out]; rfl, Or.inr (by rw [Nat.add_sub_cancel, ← HN.out]; exact HLT1.out)⟩
    case measure => simp [intOf]; omega
   ·have hl' : ¬ (i : Int) < (ds.length : Int) := by omega
    have hge : (ds.length : Int) ≤ (i : Int) := by omega
    have hn0 : Hid (0 < n) := by
     show 0 < n
     rw [HN.out, pre_ge (by omega)]
     exact Nat.mul_pos HC.out.dval_pos (ten_pos _)
    have hnz : (((n : Int)) == 0) = false := by have := hn0.out; simp; omega
    go_wp2_with fail
    go_round
    case rel => exact ⟨n * 10, i + 1, by go_num, by go_num, by rw [HN.out]; show _ = pre ds i * 10 + dAt ds i; rw [dAt_beyond (by omega)]; omega, Or.inr (by rw [Nat.add_sub_cancel, ← HN.out]; exact HLT1.out)⟩
    case measure => simp [intOf]; omega
  ·have hq : ((n : Int) / (P : Int) == 0) = false := by
    have h0 := HPP.out.1
    have : 0 < n / P := Nat.div_pos (by omega) h0
    have e : (n : Int) / (P : Int) = ((n / P : Nat) : Int) := by simp
    rw [e]
    simp
    omega
   obtain ⟨i1, rfl⟩ : ∃ i1, i = i1 + 1 := by
    refine ⟨i - 1, ?_⟩
    have h1 := HPP.out.1
    rcases Nat.eq_zero_or_pos i with e | e
    ·exfalso
     have h2 := HN.out
     rw [e] at h2
     have h3 : pre ds 0 = 0 := rfl
     omega
    ·omega
   have hpv : pre ds i1 < P := by rcases HPREV.out with e | e; (· omega); (· rwa [Nat.add_sub_cancel] at e)
   have hi18 : i1 ≤ 18 := half_places HC.out.digits HC.out.first hk (by rw [← HP.out]; exact hpv)
   have HH0 : Hid (Halving ds k (i1 + 1) [] n) := by
    have := Halving.start HC.out.digits hpos.out HC.out.first HK1.out (i := i1) (by rw [← HP.out]; exact hpv)
    rwa [← HN.out] at this
   have HPn : Hid (P ≤ n) := Nat.not_lt.1 hlt
   have b3 : -1000000 ≤ dp := hdp.1
   have b4 : dp ≤ 1000000 := hdp.2
   clear hpv hlt
   go_wp2_with fail
   clear c0 c1 f0 f1 hq
   go_loopw [4, 5, 6] (fun u v x wr => ∃ (n i : Nat) (out : List Nat), u = .int .u64 (n : Nat) ∧ v = .int .i64 (i : Int) ∧ Halving ds k i out n ∧ i = i1 + 1 + out.length ∧ i ≤ ds.length + k + 1 + i1 ∧ (out.length = 0 → P ≤ n) ∧ (out.length = 0 ∨ dAt out 0 ≠ 0) ∧
    Only b w wr ∧ w.heap.size ≤ wr.heap.size ∧ wr.ownsRow w.heap.size 5 1 x out.length (digVals out) ∧ wr.heap[b]? = some (.cells #[.slice (some ⟨g, 0, none⟩) ds.length cap, .int .i64 (dp - (i1 : Int))] 265 (0, 0)) ∧ (∀ t, t < ds.length → wr.cell? ⟨g, t, none⟩ = some (.int .u8 (dAt ds t : Nat)))) (fun _ v _ _ => ds.length + 62 - (intOf v).toNat)
   case atStart =>
    refine ⟨n, i1 + 1, [], rfl, by go_num, HH0.out, by simp, by omega, fun _ => HPn.out, Or.inl rfl, (Only.refl _ _).set _ _, by simp [World.setCell], World.ownsRow_nil _ _ _ _, obj_set1 HOBJ.out _, fun t ht => ?_⟩
    rw [World.cell?_setCell_other _ _ _ _ (by have := HG.out.2.2.1; first | (simp; done) | (simp; omega))]
    exact HCELLS.out t ht
   case round =>
    clear HH0 HPn
    obtain ⟨n, i, out, rfl, rfl, hh, hio, hib, hne0, hfirst, hbl, hsz, hown, hob, hcs⟩ := hrel
    have HH := Lib.hid hh
    have HIO := Lib.hid hio
    have HNE := Lib.hid hne0
    have HFI := Lib.hid hfirst
    have HBL := Lib.hid hbl
    have HSZ := Lib.hid hsz
    have HOWN := Lib.hid hown
    have HOB := Lib.hid hob
    have HCS := Lib.hid hcs
    obtain ⟨c0, c1, f0, f1⟩ := obj_cells hob
    clear hh hio hne0 hfirst hbl hsz hown hob hcs
    have hP0 : 0 < P := HPP.out.1
    have hPb : P ≤ 576460752303423488 := HPP.out.2
    have hnb : n ≤ 5764607523034234880 := by have := HH.out.lt; rw [← HP.out] at this; omega
    have hoL : out.length ≤ 1000060 := by have := HIO.out; omega
    obtain ⟨q, hq⟩ : ∃ q, q = n / P := ⟨_, rfl⟩
    obtain ⟨r, hr⟩ : ∃ r, r = n % P := ⟨_, rfl⟩
    have eqq : (n : Int) / (P : Int) = (q : Int) := by rw [hq]; simp
    have eqr : bits .and .u64 (n : Int) ((P : Int) - 1) = (r : Int) := by rw [hr]; exact bits_mask_u64 n k P HP.out (by omega) (by omega)
    have hq10 : q < 10 := by rw [hq, HP.out]; exact HH.out.digit
    have hrb : r < P := by rw [hr]; exact Nat.mod_lt _ hP0
    have HSTEP := Lib.hid (HH.out.step HC.out.digits)
    rw [← HP.out, ← hq, ← hr] at HSTEP
    have HFST : Hid (dAt (out ++ [q]) 0 ≠ 0) := by
     show _ ≠ _
     rw [dAt_snoc_zero]
     by_cases e : out.length = 0
     ·rw [if_pos e, hq]
      have := HNE.out e
      have : 0 < n / P := Nat.div_pos this hP0
      omega
     ·rw [if_neg e]
      rcases HFI.out with h1 | h1
      ·omega
      ·exact h1
    have happ : ∀ (v' : Value) (w1 : World), w1.ownsRow w.heap.size 5 1 v' (out.length + 1) (digVals out ++ [.int .u8 (q : Int)]) → (wr.alloc (.cells #[.int .u8 (q : Int)] 5)).grownBy w1 u6.ownBlock →
      Only b w w1 ∧ w.heap.size ≤ w1.heap.size ∧ w1.ownsRow w.heap.size 5 1 v' (out ++ [q]).length (digVals (out ++ [q])) ∧ w1.heap[b]? = some (.cells #[.slice (some ⟨g, 0, none⟩) ds.length cap, .int .i64 (dp - (i1 : Int))] 265 (0, 0)) ∧ (∀ t, t < ds.length → w1.cell? ⟨g, t, none⟩ = some (.int .u8 (dAt ds t : Nat))) := by
     intro v' w1 ho hg
     have hbw := HLT.out
     have hlo := HLO.out
     have hgw := HG.out.2.2.2
     have hB : Below w.heap.size wr w1 := ((Below.refl _ _).alloc HSZ.out _).grown hg (by simp; have := HSZ.out; omega) (fun k hk => (HOWN.out.lt k hk).1)
     refine ⟨HBL.out.below hB, Nat.le_trans HSZ.out hB.size, by rw [digVals_snoc, List.length_append]; exact ho, by rw [hB.block b hbw]; exact HOB.out, fun t ht => by rw [hB.cell (p := ⟨g, t, none⟩) hgw]; exact HCS.out t ht⟩
    have HAPP := Lib.hid happ
    clear happ hq hr
    by_cases hl : i < ds.length
    ·have hl' : (i : Int) < (ds.length : Int) := by omega
     have hii : (0 : Int) ≤ (i : Int) := by omega
     have hci := HCS.out i hl
     obtain ⟨d, hd⟩ : ∃ d, d = dAt ds i := ⟨_, rfl⟩
     rw [← hd] at hci
     have hd10 : d < 10 := by rw [hd]; exact HC.out.digits.all i
     rw [← hd] at HSTEP
     have HDD := Lib.hid hd
     clear hd
     go_upto_region 13 with fail
     go_wp2_with (at_builtin; refine wpList_append_own _ rfl _ _ 122 rfl w.heap.size 5 i0 (.int .u8 0) 1 1 Tryz.underlying122 HI.out HZ0.out HZ1.out HZ2.out rfl (by decide) _ _ _ rfl (HOWN.out.alloc _) ⟨wr.heap.size, 0, none⟩ 1 1 [.int .u8 (q : Int)] rfl rfl ?c1 ?c2 ?c3 ?c4 ?c5 ?_)
     case c1 => exact cell_one_new _ _ _
     case c2 => intro u hu; simp at hu; subst hu; rfl
     case c3 => unfold maxLen; omega
     case c4 => omega
     case c5 => simp; have := HSZ.out; omega
     intro v' w1 hown1 hgr1 _
     have HA := Lib.hid (HAPP.out v' w1 hown1 hgr1)
     have c0' := (obj_cells HA.out.2.2.2.1).1
     have hci' := HA.out.2.2.2.2 i hl
     rw [← HDD.out] at hci'
     clear hown1 hgr1 c0 c1 f0 f1 hci
     go_wp2_with fail
     go_roundw
     case rel =>
      obtain ⟨a1, a2, a3, a4, a5⟩ := HA.out
      refine ⟨r * 10 + d, i + 1, out ++ [q], by go_num, by go_num, HSTEP.out, by have := HIO.out; simp; omega, by omega, fun e => by simp at e, Or.inr HFST.out, a1, a2, a3, a4, a5⟩
     case measure => simp [intOf]; omega
    ·have hl' : ¬ (i : Int) < (ds.length : Int) := by omega
     rw [dAt_beyond (by omega)] at HSTEP
     by_cases hn : 0 < n
     ·have hn' : (0 : Int) < (n : Int) := by omega
      have hik : Hid (i ≤ ds.length + k) := by
       show i ≤ ds.length + k
       apply Classical.byContradiction
       intro hno
       have := HH.out.done (by omega)
       omega
      go_upto_region 13 with fail
      go_wp2_with (at_builtin; refine wpList_append_own _ rfl _ _ 122 rfl w.heap.size 5 i0 (.int .u8 0) 1 1 Tryz.underlying122 HI.out HZ0.out HZ1.out HZ2.out rfl (by decide) _ _ _ rfl (HOWN.out.alloc _) ⟨wr.heap.size, 0, none⟩ 1 1 [.int .u8 (q : Int)] rfl rfl ?e1 ?e2 ?e3 ?e4 ?e5 ?_)
      case e2 => first | rfl | (intro u hu; simp at hu; subst hu; rfl)
      case e3 => unfold maxLen; omega
      case e4 => omega
      case e5 => first | (have := HSZ.out; omega) | (simp; have := HSZ.out; omega)
      intro v' w1 hown1 hgr1 _
      have HA := Lib.hid (HAPP.out v' w1 hown1 hgr1)
      have c0' := (obj_cells HA.out.2.2.2.1).1
      clear hown1 hgr1 c0 c1 f0 f1
      go_wp2_with fail
      go_roundw
      case rel =>
       obtain ⟨a1, a2, a3, a4, a5⟩ := HA.out
       refine ⟨r * 10, i + 1, out ++ [q], by go_num, by go_num, HSTEP.out, by have := HIO.out; simp; omega, by have := hik.out; omega, fun e => by simp at e, Or.inr HFST.out, a1, a2, a3, a4, a5⟩
      case measure => have := hik.out; simp [intOf]; omega
     ·have hn0 : n = 0 := by omega
      subst hn0
      have hnz : ¬ (0 : Int) < ((0 : Nat) : Int) := by omega
      have HL := Lib.hid hl
      have hD := HH.out.end (Nat.not_lt.1 hl)
      have hLpos : Hid (0 < out.length) := by
       show 0 < out.length
       apply Classical.byContradiction
       intro hno
       have := HNE.out (by omega)
       omega
      rcases HOWN.out.2 with ⟨_, hz⟩ | ⟨g2, cap2, cur, rfl, hbg2, hg2, hn2, hcm2, hcs2, htake2⟩
      ·have := hLpos.out; omega
      have HG2 := Lib.hid (And.intro hbg2 (And.intro (HOWN.out.lt g2 rfl).2 hn2))
      have HDD := Lib.hid hD
      clear hbg2 hg2 hn2 hcm2 hcs2 htake2 hD hn hl eqq eqr
      have hDA : Hid (DecAt (wr.setCell ⟨b, 0, none⟩ (.slice (some ⟨g2, 0, none⟩) out.length cap2)) base b out (dp - (i1 : Int))) := by
       refine ⟨HLO.out, _, obj_set0 HOB.out _, Or.inr ⟨g2, cap2, rfl, HG2.out.2.2, ?_, ?_, ?_, fun t ht => ?_⟩⟩
       ·have := HG2.out.1; have := HLO.out; have := HLT.out; omega
       ·have := HG2.out.1; have := HLT.out; omega
       ·have := HG2.out.2.1; simpa [World.setCell] using this
       ·rw [World.cell?_setCell_other _ _ _ _ (by have := HG2.out.1; have := HLT.out; first | (simp; done) | (simp; omega)), World.ownsRow.cellAt HOWN.out t (by omega), digVals_at ht]
      have HBS : Hid (Only b w (wr.setCell ⟨b, 0, none⟩ (.slice (some ⟨g2, 0, none⟩) out.length cap2))) := HBL.out.set _ _
      have HTR := Lib.hid (trim _ base b out (dp - (i1 : Int)) hDA.out (by omega))
      go_wp2_with (go_at_call 170; (with_reducible refine HTR.out.mono ?_); rintro e w9 ⟨rfl, es, t1, t2, t3⟩; have H9 := Lib.hid (And.intro t1 (And.intro t2 t3)); clear t1 t2 t3)
      go_end0
      obtain ⟨t1, t2, t3⟩ := H9.out
      have hfz : dAt out 0 ≠ 0 := by rcases HFI.out with h1 | h1; (· have := hLpos.out; omega); (· exact h1)
      have hcan := t1.canon HH.out.digits hfz hLpos.out
      have hne : ¬ es = [] := fun e => by have := hcan.pos; rw [e] at this; simp at this
      rw [if_neg hne] at t2
      have hle := t1.dval.1
      have h1 := HIO.out
      have h2 := HL.out
      refine ⟨rfl, es, _, hcan, t2, fun A B hs => ?_, ?_, HBS.out.trans t3⟩
      ·rw [Nat.mul_one]
       exact (hs.halve HDD.out (by omega)).trim t1
      ·omega

end Go.Proofs.YtgolhmiocjpohaaGreatDoor
