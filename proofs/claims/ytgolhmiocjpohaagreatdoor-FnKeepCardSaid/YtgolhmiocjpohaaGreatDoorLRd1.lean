/- The light reading of a decimal number's text (145), walked. No condition beyond the text's length. -/
import Derived.Deep.CutBlock
import Derived.Deep.LoopGhost
import Derived.Test.YtgolhmiocjpohaaGreatDoorLRd0
set_option linter.unusedVariables false
set_option linter.unusedSimpArgs false
namespace Go.Proofs.YtgolhmiocjpohaaGreatDoor
open Go.RowKit Go.PlainAid

/-- A post of the light reading: the decimal of what it reads to the text's end. -/
def LRead (hx : Bool) (u : ByteArray) (Fit : Sc → Int → List Nat → Int → Prop) (w : World) (e : Ending) (w' : World) : Prop :=
 match readU hx u with
 | none => e = .returned (.tuple #[.pointer none, .bool false]) ∧ Below w.heap.size w w'
 | some (st, ex) => ∃ b es ep, e = .returned (.tuple #[.pointer (some ⟨b, 0, none⟩), .bool true]) ∧ DecAt w' w.heap.size b es ep ∧ es.length ≤ 2000 ∧ -1000000 ≤ ep ∧ ep ≤ 1000000 ∧ Fit st ex es ep ∧ Below w.heap.size w w'

theorem lread_none {hx : Bool} {u : ByteArray} {Fit : Sc → Int → List Nat → Int → Prop} {w w' : World} (h : readU hx u = none) (hb : Below w.heap.size w w') : LRead hx u Fit w (.returned (.tuple #[.pointer none, .bool false])) w' := by
 unfold LRead
 rw [h]
 exact ⟨rfl, hb⟩

theorem lread_some {hx : Bool} {u : ByteArray} {Fit : Sc → Int → List Nat → Int → Prop} {w w' : World} {st : Sc} {ex : Int} (h : readU hx u = some (st, ex)) {b : Nat} {es : List Nat} {ep : Int} (hd : DecAt w' w.heap.size b es ep)
  (h1 : es.length ≤ 2000) (h2 : -1000000 ≤ ep) (h3 : ep ≤ 1000000) (hf : Fit st ex es ep) (hb : Below w.heap.size w w') : LRead hx u Fit w (.returned (.tuple #[.pointer (some ⟨b, 0, none⟩), .bool true])) w' := by
 unfold LRead
 rw [h]
 exact ⟨b, es, ep, rfl, hd, h1, h2, h3, hf, hb⟩

/-- What the decimal of a decimal number's text is. -/
def FitDec (st : Sc) (ex : Int) (es : List Nat) (ep : Int) : Prop := (es = [] ∧ st.ds = []) ∨ (Canon es ∧ Trimmed st.ds es ∧ ep = st.dp + ex)

/-- Whether a text begins with the mark of hexadecimal numbers. -/
def hexL (t : ByteArray) : Bool := decide (2 ≤ t.size ∧ bt t 0 = 48 ∧ lowB (bt t 1) = 120)

/-- The decimal under way, in block w.heap.size. -/
structure DecMem (w : World) (st : Sc) (x : Value) (wr : World) : Prop where
 ob : wr.heap[w.heap.size]? = some (.cells #[x, .int .i64 st.dp] 265 (0, 0))
 own : wr.ownsRow (w.heap.size + 1) 5 1 x st.ds.length (digVals st.ds)
 below : Below w.heap.size w wr
 size : w.heap.size + 1 ≤ wr.heap.size

theorem DecMem.start (w : World) : DecMem w sc0 (.slice none 0 0) (w.alloc (.cells #[.slice none 0 0, .int .i64 0] 265)) :=
 ⟨heap_alloc_new w _, World.ownsRow_nil _ _ _ _, (Below.refl _ _).alloc (Nat.le_refl _) _, by simp⟩

/-- Other marks of the reading, the digits and the point as they are. -/
theorem DecMem.re {w : World} {st st' : Sc} {x : Value} {wr : World} (h : DecMem w st x wr) (h1 : st'.ds = st.ds) (h2 : st'.dp = st.dp) : DecMem w st' x wr :=
 ⟨by rw [h2]; exact h.ob, by rw [h1]; exact h.own, h.below, h.size⟩

theorem DecMem.move {w : World} {st st' : Sc} {x : Value} {wr : World} (h : DecMem w st x wr) (h1 : st'.ds = st.ds) : DecMem w st' x (wr.setCell ⟨w.heap.size, 1, none⟩ (.int .i64 st'.dp)) :=
 ⟨obj_set1 h.ob _, by rw [h1]; exact ownsRow_setCell_below h.own (a := ⟨w.heap.size, 1, none⟩) (Nat.lt_succ_self _) _, h.below.setCell (p := ⟨w.heap.size, 1, none⟩) (Nat.le_refl _) _, by simpa [World.setCell] using h.size⟩

/-- How the loop over a decimal number's digits stands. -/
def LoopD (u : ByteArray) (w : World) (v7 v8 v9 v10 v11 : Value) (wr : World) : Prop :=
 ∃ (j : Nat) (st : Sc) (x : Value), v7 = .int .u64 0 ∧ v8 = .bool st.sm ∧ v9 = .bool st.dot ∧ v10 = .int .i64 0 ∧ v11 = .int .i64 (j : Nat) ∧ j ≤ u.size ∧ ScOk false st ∧ scanAt false u j st = scanAt false u 0 sc0 ∧ st.ds.length ≤ j ∧ -(j : Int) ≤ st.dp ∧ DecMem w st x wr
/-- The like, behind it. -/
def OutD (u : ByteArray) (w : World) (v7 v8 v9 v10 v11 : Value) (wr : World) : Prop :=
 ∃ (j : Nat) (st : Sc) (x : Value), v7 = .int .u64 0 ∧ v8 = .bool st.sm ∧ v9 = .bool st.dot ∧ v10 = .int .i64 0 ∧ v11 = .int .i64 (j : Nat) ∧ j ≤ u.size ∧ ScOk false st ∧ scanAt false u 0 sc0 = (j, st) ∧ st.ds.length ≤ j ∧ -(j : Int) ≤ st.dp ∧ DecMem w st x wr

theorem addD_skip {st : Sc} (h : st.ds.length = 0) : addD st 0 = ⟨st.ds, true, st.dot, st.us, if st.dot then st.dp - 1 else st.dp⟩ := by unfold addD; rw [if_pos ⟨h, rfl⟩]
theorem addD_more {st : Sc} {d : Nat} (h : ¬ (st.ds.length = 0 ∧ d = 0)) : addD st d = ⟨st.ds ++ [d], true, st.dot, st.us, if st.dot then st.dp else st.dp + 1⟩ := by unfold addD; rw [if_neg h]

set_option maxHeartbeats 6400000 in
set_option maxRecDepth 100000 in
theorem light_read_dec (u : ByteArray) (w : World) (hs : u.size ≤ 400) (hh : hexL u = false) : Calls Tryz.prog 145 #[.string u] w (LRead false u FitDec w) := by
 have hb := get_bt u
 obtain ⟨i0, hi, hz0, hz1, hz2⟩ := info_parts info5
 have HI := Lib.hid hi
 have HZ0 := Lib.hid hz0
 have HZ1 := Lib.hid hz1
 have HZ2 := Lib.hid hz2
 clear hi hz0 hz1 hz2
 have HHH := Lib.hid hh
 clear hh
 go_enter Tryz.func145, Tryz.ntmps145
 go_upto_region 2 with fail
 go_cut [5] from 17 to 30 (fun s5 wx => s5 = .bool false ∧ wx = w.alloc (.cells #[.slice none 0 0, .int .i64 0] 265))
 case first =>
  by_cases c1 : 2 ≤ u.size
  ·have k1 : decide ((2 : Int) ≤ (u.size : Int)) = true := decide_eq_true (by omega)
   by_cases c2 : bt u 0 = 48
   ·have k2 : (bt u 0 == 48) = true := beq_iff_eq.2 c2
    have k3 : (lowB (bt u 1) == 120) = false := beq_eq_false_iff_ne.2 fun c3 => by
     have := HHH.out
     unfold hexL at this
     exact of_decide_eq_false this ⟨c1, c2, c3⟩
    clear c2
    go_wp2_with (go_at_call 169; (with_reducible refine (light_low _ _).mono ?_); rintro e w1 ⟨rfl, rfl⟩)
    go_meet
    case rel => exact ⟨rfl, rfl⟩
   ·have k2 : (bt u 0 == 48) = false := beq_eq_false_iff_ne.2 c2
    clear c2
    go_wp2_with fail
    go_meet
    case rel => exact ⟨rfl, rfl⟩
  ·have k1 : decide ((2 : Int) ≤ (u.size : Int)) = false := decide_eq_false (by omega)
   go_wp2_with fail
   go_meet
   case rel => exact ⟨rfl, rfl⟩
 case rest =>
  obtain ⟨rfl, rfl⟩ := hcut
  go_upto_block 0 with fail
  go_cut [7, 8, 9, 10, 11] from 34 to 129 (fun s7 s8 s9 s10 s11 wx => OutD u w s7 s8 s9 s10 s11 wx)
  case first =>
   go_wp2_with fail
   go_loopw [7, 8, 9, 10, 11] (fun v7 v8 v9 v10 v11 wr => LoopD u w v7 v8 v9 v10 v11 wr) (fun _ _ _ _ v _ => u.size - (intOf v).toNat)
   case atStart => exact ⟨0, sc0, .slice none 0 0, rfl, rfl, rfl, rfl, rfl, by omega, scok0 false, rfl, by simp [sc0], by simp [sc0], DecMem.start w⟩
   case round =>
    obtain ⟨j, st, x, rfl, rfl, rfl, rfl, rfl, hj, hok, hscan, hlen, hlo, hmem⟩ := hrel
    obtain ⟨A, cap, rfl⟩ : ∃ A cap, x = .slice A st.ds.length cap := own_form hmem.own
    obtain ⟨c0, c1, f0, f1⟩ := obj_cells hmem.ob
    have HOK := Lib.hid hok
    have HSC := Lib.hid hscan
    have HMEM := Lib.hid hmem
    have hhi := hok.hi
    have hds4 : st.ds.length ≤ 400 := by omega
    clear hok hscan hmem
    by_cases hlt : j < u.size
    ·have hlt2 : decide ((j : Int) < (u.size : Int)) = true := decide_eq_true (by omega)
     by_cases q1 : bt u j = 95
     ·have k1 : (bt u j == 95) = true := beq_iff_eq.2 q1
      have hst : stepC false st (bt u j) = some ⟨st.ds, st.sm, st.dot, true, st.dp⟩ := by unfold stepC; rw [if_pos q1]
      have HN := Lib.hid (And.intro (HOK.out.step hst) ((scanAt_step hlt hst).symm.trans HSC.out))
      clear q1 hst
      go_wp2_with fail
      go_roundw
      case rel => exact ⟨j + 1, ⟨st.ds, st.sm, st.dot, true, st.dp⟩, .slice A st.ds.length cap, rfl, rfl, rfl, rfl, by go_num, by omega, HN.out.1, HN.out.2, by simp; omega, by simp; omega, HMEM.out.re rfl rfl⟩
      case measure => simp [intOf]; omega
     ·have k1 : (bt u j == 95) = false := beq_eq_false_iff_ne.2 q1
      by_cases q2 : bt u j = 46
      ·have k2 : (bt u j == 46) = true := beq_iff_eq.2 q2
       cases hdot : st.dot with
       | true =>
        have HE := Lib.hid (And.intro HOK.out (by have := HSC.out; rw [scanAt_stop (stop_point (hex := false) q2 hdot)] at this; exact this.symm : scanAt false u 0 sc0 = (j, st)))
        have k3 : decide (48 ≤ bt u j) = false := decide_eq_false (by omega)
        have HDT := Lib.hid hdot
        clear q1 q2 hdot
        go_wp2_with fail
        go_meet
        case rel => exact ⟨j, st, .slice A st.ds.length cap, rfl, rfl, by rw [HDT.out], rfl, rfl, hj, HE.out.1, HE.out.2, hlen, hlo, HMEM.out⟩
       | false =>
        have hst : stepC false st (bt u j) = some ⟨st.ds, st.sm, true, st.us, st.dp⟩ := by unfold stepC; rw [if_neg q1, if_pos q2, hdot]; rfl
        have HN := Lib.hid (And.intro (HOK.out.step hst) ((scanAt_step hlt hst).symm.trans HSC.out))
        clear q1 q2 hst hdot
        go_wp2_with fail
        go_roundw
        case rel => exact ⟨j + 1, ⟨st.ds, st.sm, true, st.us, st.dp⟩, .slice A st.ds.length cap, rfl, rfl, rfl, rfl, by go_num, by omega, HN.out.1, HN.out.2, by simp; omega, by simp; omega, HMEM.out.re rfl rfl⟩
        case measure => simp [intOf]; omega
      ·have k2 : (bt u j == 46) = false := beq_eq_false_iff_ne.2 q2
       by_cases q3 : 48 ≤ bt u j ∧ bt u j ≤ 57
       ·have k3 : decide (48 ≤ bt u j) = true := decide_eq_true q3.1
        have k4 : decide (bt u j ≤ 57) = true := decide_eq_true q3.2
        obtain ⟨d, hd⟩ : ∃ d, d = (bt u j - 48).toNat := ⟨_, rfl⟩
        have hst := stepC_digit (st := st) q1 q2 (dig_dec (hex := false) q3)
        rw [← hd] at hst
        have k5 : (bt u j - 48) % 256 = (d : Int) := by omega
        have hd9 : d ≤ 9 := by omega
        have k7 : ((d : Int) == 16) = false := by simp; omega
        have HN := Lib.hid (And.intro (HOK.out.step hst) ((scanAt_step hlt hst).symm.trans HSC.out))
        clear q1 q2 q3 hd hst
        by_cases hz : st.ds.length = 0 ∧ d = 0
        ·obtain ⟨hz1, hz2⟩ := hz
         have k8 : ¬ 0 < st.ds.length := by omega
         have k9 : ((d : Int) != 0) = false := by simp; omega
         have HAD : Hid (addD st d = ⟨st.ds, true, st.dot, st.us, if st.dot then st.dp - 1 else st.dp⟩) := by show _ = _; rw [hz2]; exact addD_skip hz1
         clear hz1 hz2
         cases hdot : st.dot with
         | true =>
          have HA2 : Hid (addD st d = ⟨st.ds, true, true, st.us, st.dp - 1⟩) := by show _ = _; rw [HAD.out, hdot]; rfl
          clear hdot
          go_wp2_with fail
          go_roundw
          case rel =>
           have hn := HN.out
           rw [HA2.out] at hn
           exact ⟨j + 1, ⟨st.ds, true, true, st.us, st.dp - 1⟩, .slice A st.ds.length cap, rfl, rfl, rfl, rfl, by go_num, by omega, hn.1, hn.2, by simp; omega, by simp; omega, HMEM.out.move (st' := ⟨st.ds, true, true, st.us, st.dp - 1⟩) rfl⟩
          case measure => simp [intOf]; omega
         | false =>
          have HA2 : Hid (addD st d = ⟨st.ds, true, false, st.us, st.dp⟩) := by show _ = _; rw [HAD.out, hdot]; rfl
          clear hdot
          go_wp2_with fail
          go_roundw
          case rel =>
           have hn := HN.out
           rw [HA2.out] at hn
           exact ⟨j + 1, ⟨st.ds, true, false, st.us, st.dp⟩, .slice A st.ds.length cap, rfl, rfl, rfl, rfl, by go_num, by omega, hn.1, hn.2, by simp; omega, by simp; omega, HMEM.out.re rfl rfl⟩
          case measure => simp [intOf]; omega
        ·have HAD : Hid (addD st d = ⟨st.ds ++ [d], true, st.dot, st.us, if st.dot then st.dp else st.dp + 1⟩) := addD_more hz
         have HGE : Hid (∀ (v' : Value) (w1 : World), w1.ownsRow (w.heap.size + 1) 5 1 v' (st.ds.length + 1) (digVals st.ds ++ [.int .u8 (d : Int)]) → (wr.alloc (.cells #[.int .u8 (d : Int)] 5)).grownBy w1 (Value.slice A st.ds.length cap).ownBlock →
           w1.heap[w.heap.size]? = some (.cells #[.slice A st.ds.length cap, .int .i64 st.dp] 265 (0, 0)) ∧ w1.ownsRow (w.heap.size + 1) 5 1 v' (st.ds.length + 1) (digVals (st.ds ++ [d])) ∧ Below w.heap.size w w1 ∧ w.heap.size + 1 ≤ w1.heap.size) := by
          intro v' w1 ho hg
          have hs1 := HMEM.out.size
          have hB : Below (w.heap.size + 1) wr w1 := ((Below.refl _ _).alloc hs1 _).grown hg (by simp; omega) (fun k hk => (HMEM.out.own.lt k hk).1)
          exact ⟨by rw [hB.block _ (Nat.lt_succ_self _)]; exact HMEM.out.ob, by rw [digVals_snoc]; exact ho, HMEM.out.below.trans (hB.mono (Nat.le_succ _)), Nat.le_trans hs1 hB.size⟩
         have hz3 : (0 < st.ds.length ∧ True) ∨ (¬ 0 < st.ds.length ∧ ((d : Int) != 0) = true) := by
          by_cases e : st.ds.length = 0
          ·exact Or.inr ⟨by omega, by simp; omega⟩
          ·exact Or.inl ⟨by omega, trivial⟩
         clear hz
         rcases hz3 with ⟨k8, k9⟩ | ⟨k8, k9⟩
         all_goals
          cases hdot : st.dot with
          | true =>
           have HA2 : Hid (addD st d = ⟨st.ds ++ [d], true, true, st.us, st.dp⟩) := by show _ = _; rw [HAD.out, hdot]; rfl
           clear hdot
           go_upto_region 21 with fail
           rw [k5]
           go_wp2_with (at_builtin; refine wpList_append_own _ rfl _ _ 122 rfl (w.heap.size + 1) 5 i0 (.int .u8 0) 1 1 Tryz.underlying122 HI.out HZ0.out HZ1.out HZ2.out rfl (by decide) _ _ _ rfl (HMEM.out.own.alloc _) ⟨wr.heap.size, 0, none⟩ 1 1 [.int .u8 (d : Int)] rfl rfl (cell_one_new _ _ _) (by intro u hu; simp at hu; subst hu; rfl) (by unfold maxLen; omega) (by omega) (by simp; have := HMEM.out.size; omega) ?_; intro v' w1 hown1 hgr1 hxx; obtain ⟨A2, cap2, rfl⟩ := own_form hown1; have HA := Lib.hid (HGE.out _ w1 hown1 hgr1); have f0' := (obj_cells HA.out.1).2.2.1; have c0' := (obj_cells HA.out.1).1; have c1' := (obj_cells (obj_set0 HA.out.1 (.slice A2 (st.ds.length + 1) cap2))).2.1; have f1' := (obj_cells (obj_set0 HA.out.1 (.slice A2 (st.ds.length + 1) cap2))).2.2.2; clear hown1 hgr1 hxx)
           go_roundw
           case rel =>
            obtain ⟨a1, a2, a3, a4⟩ := HA.out
            have hn := HN.out
            rw [HA2.out] at hn
            exact ⟨j + 1, ⟨st.ds ++ [d], true, true, st.us, st.dp⟩, .slice A2 (st.ds.length + 1) cap2, rfl, rfl, rfl, rfl, by go_num, by omega, hn.1, hn.2, by simp; omega, by simp; omega,
             ⟨obj_set0 a1 _, by rw [List.length_append]; exact ownsRow_setCell_below a2 (a := ⟨w.heap.size, 0, none⟩) (Nat.lt_succ_self _) _, a3.setCell (p := ⟨w.heap.size, 0, none⟩) (Nat.le_refl _) _, by simpa [World.setCell] using a4⟩⟩
           case measure => simp [intOf]; omega
          | false =>
           have HA2 : Hid (addD st d = ⟨st.ds ++ [d], true, false, st.us, st.dp + 1⟩) := by show _ = _; rw [HAD.out, hdot]; rfl
           clear hdot
           go_upto_region 21 with fail
           rw [k5]
           go_wp2_with (at_builtin; refine wpList_append_own _ rfl _ _ 122 rfl (w.heap.size + 1) 5 i0 (.int .u8 0) 1 1 Tryz.underlying122 HI.out HZ0.out HZ1.out HZ2.out rfl (by decide) _ _ _ rfl (HMEM.out.own.alloc _) ⟨wr.heap.size, 0, none⟩ 1 1 [.int .u8 (d : Int)] rfl rfl (cell_one_new _ _ _) (by intro u hu; simp at hu; subst hu; rfl) (by unfold maxLen; omega) (by omega) (by simp; have := HMEM.out.size; omega) ?_; intro v' w1 hown1 hgr1 hxx; obtain ⟨A2, cap2, rfl⟩ := own_form hown1; have HA := Lib.hid (HGE.out _ w1 hown1 hgr1); have f0' := (obj_cells HA.out.1).2.2.1; have c0' := (obj_cells HA.out.1).1; have c1' := (obj_cells (obj_set0 HA.out.1 (.slice A2 (st.ds.length + 1) cap2))).2.1; have f1' := (obj_cells (obj_set0 HA.out.1 (.slice A2 (st.ds.length + 1) cap2))).2.2.2; clear hown1 hgr1 hxx)
           go_roundw
           case rel =>
            obtain ⟨a1, a2, a3, a4⟩ := HA.out
            have hn := HN.out
            rw [HA2.out] at hn
            exact ⟨j + 1, ⟨st.ds ++ [d], true, false, st.us, st.dp + 1⟩, .slice A2 (st.ds.length + 1) cap2, rfl, rfl, rfl, rfl, by go_num, by omega, hn.1, hn.2, by simp; omega, by simp; omega,
             ⟨obj_set1 (obj_set0 a1 _) _, by rw [List.length_append]; exact ownsRow_setCell_below (ownsRow_setCell_below a2 (a := ⟨w.heap.size, 0, none⟩) (Nat.lt_succ_self _) _) (a := ⟨w.heap.size, 1, none⟩) (Nat.lt_succ_self _) _, (a3.setCell (p := ⟨w.heap.size, 0, none⟩) (Nat.le_refl _) _).setCell (p := ⟨w.heap.size, 1, none⟩) (Nat.le_refl _) _, by simpa [World.setCell] using a4⟩⟩
           case measure => simp [intOf]; omega
       ·have hcs : (decide (48 ≤ bt u j) = false ∧ True) ∨ (decide (48 ≤ bt u j) = true ∧ decide (bt u j ≤ 57) = false) := by
         by_cases e : 48 ≤ bt u j
         ·exact Or.inr ⟨decide_eq_true e, decide_eq_false (fun e2 => q3 ⟨e, e2⟩)⟩
         ·exact Or.inl ⟨decide_eq_false e, trivial⟩
        have HE := Lib.hid (And.intro HOK.out (by have := HSC.out; rw [scanAt_stop (stop_other (hex := false) q1 q2 q3 (by simp))] at this; exact this.symm : scanAt false u 0 sc0 = (j, st)))
        clear q1 q2 q3
        rcases hcs with ⟨k3, k4⟩ | ⟨k3, k4⟩
        all_goals
         go_wp2_with fail
         go_meet
         case rel => exact ⟨j, st, .slice A st.ds.length cap, rfl, rfl, rfl, rfl, rfl, hj, HE.out.1, HE.out.2, hlen, hlo, HMEM.out⟩
    ·have hj2 : j = u.size := by omega
     subst hj2
     have HE := Lib.hid (And.intro HOK.out (by have := HSC.out; rw [scanAt_end (Nat.le_refl _)] at this; exact this.symm : scanAt false u 0 sc0 = (u.size, st)))
     go_wp2_with fail
     go_meet
     case rel => exact ⟨u.size, st, .slice A st.ds.length cap, rfl, rfl, rfl, rfl, rfl, Nat.le_refl _, HE.out.1, HE.out.2, hlen, hlo, HMEM.out⟩
  case rest =>
   obtain ⟨j, st, x, rfl, rfl, rfl, rfl, rfl, hjs, hok, hE, hlen, hlo, hmem⟩ := hcut
   obtain ⟨A, cap, rfl⟩ : ∃ A cap, x = .slice A st.ds.length cap := own_form hmem.own
   obtain ⟨c0, c1, f0, f1⟩ := obj_cells hmem.ob
   have HOK := Lib.hid hok
   have HE2 := Lib.hid hE
   have HMEM := Lib.hid hmem
   have HBEL := Lib.hid hmem.below
   have hhi := hok.hi
   clear hok hE hmem
   cases hsm : st.sm with
   | false =>
    have HB : Hid (readU false u = none) := readU_sm HE2.out hsm
    clear hsm
    go_wp2_with fail
    go_ret2
    exact lread_none HB.out HBEL.out
   | true =>
    have HSM := Lib.hid hsm
    clear hsm
    obtain ⟨he, hhe⟩ : ∃ he, he = decide (j < u.size ∧ lowB (bt u j) = 101) := ⟨_, rfl⟩
    have HHE := Lib.hid hhe
    clear hhe
    go_upto_region 37 with fail
    go_cut [143] from 132 to 143 (fun s143 wx => s143 = .bool he ∧ wx = wc)
    case first =>
     by_cases c1 : j < u.size
     ·have k1 : decide ((j : Int) < (u.size : Int)) = true := decide_eq_true (by omega)
      by_cases c2 : lowB (bt u j) = 101
      ·have k2 : (lowB (bt u j) == 101) = true := beq_iff_eq.2 c2
       have HV : Hid (he = true) := by show _ = _; rw [HHE.out]; exact decide_eq_true ⟨c1, c2⟩
       clear c2
       go_wp2_with (go_at_call 169; (with_reducible refine (light_low _ _).mono ?_); rintro e w1 ⟨rfl, rfl⟩)
       go_meet
       case rel => exact ⟨by rw [HV.out], rfl⟩
      ·have k2 : (lowB (bt u j) == 101) = false := beq_eq_false_iff_ne.2 c2
       have HV : Hid (he = false) := by show _ = _; rw [HHE.out]; exact decide_eq_false (fun h => c2 h.2)
       clear c2
       go_wp2_with (go_at_call 169; (with_reducible refine (light_low _ _).mono ?_); rintro e w1 ⟨rfl, rfl⟩)
       go_meet
       case rel => exact ⟨by rw [HV.out], rfl⟩
     ·have k1 : decide ((j : Int) < (u.size : Int)) = false := decide_eq_false (by omega)
      have HV : Hid (he = false) := by show _ = _; rw [HHE.out]; exact decide_eq_false (fun h => c1 h.1)
      go_wp2_with fail
      go_meet
      case rel => exact ⟨by rw [HV.out], rfl⟩
    case rest =>
     obtain ⟨rfl, rfl⟩ := hcut
     go_upto_if 143 with fail
     go_cut [10, 11] from 143 to 236 (fun s10 s11 wx => (∃ (j' : Nat) (ex : Int) (us' : Bool), s11 = .int .i64 (j' : Nat) ∧ s10 = .int .i64 ex ∧ TailIs false u j st.us j' ex us') ∧ wx = wc)
     case first =>
      cases he with
      | false =>
       have HV := Lib.hid (show ¬ (j < u.size ∧ lowB (bt u j) = (if false then 112 else 101)) from of_decide_eq_false (p := j < u.size ∧ lowB (bt u j) = 101) HHE.out.symm)
       have HTL : Hid (TailIs false u j st.us j 0 st.us) := ⟨by rw [tail_none HV.out]; rfl, Nat.le_refl _, hjs, by omega, by omega⟩
       go_wp2_with fail
       go_meet
       case rel => exact ⟨⟨j, 0, st.us, rfl, by go_num, HTL.out⟩, rfl⟩
      | true =>
       have HV := Lib.hid (show j < u.size ∧ lowB (bt u j) = (if false then 112 else 101) from of_decide_eq_true (p := j < u.size ∧ lowB (bt u j) = 101) HHE.out.symm)
       obtain ⟨j2, hj2⟩ : ∃ j2, j2 = expFromAt u j := ⟨_, rfl⟩
       obtain ⟨en, hen⟩ : ∃ en, en = expNeg u j := ⟨_, rfl⟩
       have HJ2 := Lib.hid hj2
       have HEN := Lib.hid hen
       have hju : j < u.size := HV.out.1
       have hj2a : j + 1 ≤ j2 := by rw [hj2]; unfold expFromAt; split <;> omega
       have hj2b : j2 ≤ u.size := by rw [hj2]; unfold expFromAt; split <;> omega
       clear hj2 hen
       go_upto_region 39 with fail
       go_cut [14] from 146 to 155 (fun s14 wx => s14 = .bool en ∧ wx = wc)
       case first =>
        by_cases c1 : j + 1 < u.size
        ·have k1 : decide ((j : Int) + 1 < (u.size : Int)) = true := decide_eq_true (by omega)
         by_cases c3 : bt u (j + 1) = 45
         ·have k3 : (bt u (j + 1) == 45) = true := beq_iff_eq.2 c3
          have HW : Hid (en = true) := by show _ = _; rw [HEN.out]; unfold expNeg; exact decide_eq_true ⟨c1, c3⟩
          clear c3
          go_wp2_with fail
          go_meet
          case rel => exact ⟨by rw [HW.out], rfl⟩
         ·have k3 : (bt u (j + 1) == 45) = false := beq_eq_false_iff_ne.2 c3
          have HW : Hid (en = false) := by show _ = _; rw [HEN.out]; unfold expNeg; exact decide_eq_false (fun h => c3 h.2)
          clear c3
          go_wp2_with fail
          go_meet
          case rel => exact ⟨by rw [HW.out], rfl⟩
        ·have k1 : decide ((j : Int) + 1 < (u.size : Int)) = false := decide_eq_false (by omega)
         have HW : Hid (en = false) := by show _ = _; rw [HEN.out]; unfold expNeg; exact decide_eq_false (fun h => c1 h.1)
         go_wp2_with fail
         go_meet
         case rel => exact ⟨by rw [HW.out], rfl⟩
       case rest =>
        obtain ⟨rfl, rfl⟩ := hcut
        obtain ⟨sg, hsg⟩ : ∃ sg, sg = decide (j + 1 < u.size ∧ (bt u (j + 1) = 43 ∨ bt u (j + 1) = 45)) := ⟨_, rfl⟩
        have HSG := Lib.hid hsg
        clear hsg
        go_upto_region 40 with fail
        go_cut [171] from 156 to 171 (fun s171 wx => s171 = .bool sg ∧ wx = wc)
        case first =>
         by_cases c1 : j + 1 < u.size
         ·have k1 : decide ((j : Int) + 1 < (u.size : Int)) = true := decide_eq_true (by omega)
          by_cases c2 : bt u (j + 1) = 43
          ·have k2 : (bt u (j + 1) == 43) = true := beq_iff_eq.2 c2
           have HW : Hid (sg = true) := by show _ = _; rw [HSG.out]; exact decide_eq_true ⟨c1, Or.inl c2⟩
           clear c2
           go_wp2_with fail
           go_meet
           case rel => exact ⟨by rw [HW.out], rfl⟩
          ·have k2 : (bt u (j + 1) == 43) = false := beq_eq_false_iff_ne.2 c2
           by_cases c3 : bt u (j + 1) = 45
           ·have k3 : (bt u (j + 1) == 45) = true := beq_iff_eq.2 c3
            have HW : Hid (sg = true) := by show _ = _; rw [HSG.out]; exact decide_eq_true ⟨c1, Or.inr c3⟩
            clear c2 c3
            go_wp2_with fail
            go_meet
            case rel => exact ⟨by rw [HW.out], rfl⟩
           ·have k3 : (bt u (j + 1) == 45) = false := beq_eq_false_iff_ne.2 c3
            have HW : Hid (sg = false) := by show _ = _; rw [HSG.out]; exact decide_eq_false (fun h => h.2.elim c2 c3)
            clear c2 c3
            go_wp2_with fail
            go_meet
            case rel => exact ⟨by rw [HW.out], rfl⟩
         ·have k1 : decide ((j : Int) + 1 < (u.size : Int)) = false := decide_eq_false (by omega)
          have HW : Hid (sg = false) := by show _ = _; rw [HSG.out]; exact decide_eq_false (fun h => c1 h.1)
          go_wp2_with fail
          go_meet
          case rel => exact ⟨by rw [HW.out], rfl⟩
        case rest =>
         obtain ⟨rfl, rfl⟩ := hcut
         go_upto_if 171 with fail
         go_cut [11] from 171 to 173 (fun s11 wx => s11 = .int .i64 (j2 : Nat) ∧ wx = wc)
         case first =>
          cases sg with
          | true =>
           have HW : Hid (j2 = j + 2) := by show _ = _; rw [HJ2.out]; unfold expFromAt; exact if_pos (of_decide_eq_true HSG.out.symm)
           go_wp2_with fail
           go_meet
           case rel => exact ⟨by rw [HW.out]; go_num, rfl⟩
          | false =>
           have HW : Hid (j2 = j + 1) := by show _ = _; rw [HJ2.out]; unfold expFromAt; exact if_neg (of_decide_eq_false HSG.out.symm)
           go_wp2_with fail
           go_meet
           case rel => exact ⟨by rw [HW.out]; go_num, rfl⟩
         case rest =>
          obtain ⟨rfl, rfl⟩ := hcut
          obtain ⟨nd, hnd⟩ : ∃ nd, nd = decide (¬ (j2 < u.size ∧ 48 ≤ bt u j2 ∧ bt u j2 ≤ 57)) := ⟨_, rfl⟩
          have HND := Lib.hid hnd
          clear hnd
          go_upto_region 42 with fail
          go_cut [189] from 174 to 189 (fun s189 wx => s189 = .bool nd ∧ wx = wc)
          case first =>
           by_cases c2 : j2 < u.size
           ·have k2 : decide ((u.size : Int) ≤ (j2 : Int)) = false := decide_eq_false (by omega)
            have k2' : decide (u.size ≤ j2) = false := decide_eq_false (by omega)
            by_cases c3 : bt u j2 < 48
            ·have k3 : decide (bt u j2 < 48) = true := decide_eq_true c3
             have HW : Hid (nd = true) := by show _ = _; rw [HND.out]; exact decide_eq_true (by omega)
             clear c3
             go_wp2_with fail
             go_meet
             case rel => exact ⟨by rw [HW.out], rfl⟩
            ·have k3 : decide (bt u j2 < 48) = false := decide_eq_false c3
             by_cases c4 : 57 < bt u j2
             ·have k4 : decide (57 < bt u j2) = true := decide_eq_true c4
              have HW : Hid (nd = true) := by show _ = _; rw [HND.out]; exact decide_eq_true (by omega)
              clear c3 c4
              go_wp2_with fail
              go_meet
              case rel => exact ⟨by rw [HW.out], rfl⟩
             ·have k4 : decide (57 < bt u j2) = false := decide_eq_false c4
              have HW : Hid (nd = false) := by show _ = _; rw [HND.out]; exact decide_eq_false (by omega)
              clear c3 c4
              go_wp2_with fail
              go_meet
              case rel => exact ⟨by rw [HW.out], rfl⟩
           ·have k2 : decide ((u.size : Int) ≤ (j2 : Int)) = true := decide_eq_true (by omega)
            have k2' : decide (u.size ≤ j2) = true := decide_eq_true (by omega)
            have HW : Hid (nd = true) := by show _ = _; rw [HND.out]; exact decide_eq_true (by omega)
            go_wp2_with fail
            go_meet
            case rel => exact ⟨by rw [HW.out], rfl⟩
          case rest =>
           obtain ⟨rfl, rfl⟩ := hcut
           cases nd with
           | true =>
            have HB : Hid (readU false u = none) := by show _ = _; rw [readU_tail HE2.out HSM.out, tail_bad HV.out (by rw [← HJ2.out]; exact of_decide_eq_true HND.out.symm)]
            go_wp2_with fail
            go_ret2
            exact lread_none HB.out HBEL.out
           | false =>
            have HG := Lib.hid (show j2 < u.size ∧ 48 ≤ bt u j2 ∧ bt u j2 ≤ 57 from Classical.not_not.1 (of_decide_eq_false (p := ¬ (j2 < u.size ∧ 48 ≤ bt u j2 ∧ bt u j2 ≤ 57)) HND.out.symm))
            obtain ⟨F, hF⟩ : ∃ F, F = expAt u j2 0 st.us := ⟨_, rfl⟩
            have HF := Lib.hid hF
            clear hF
            go_upto_block 4 with fail
            go_cut [11, 15] from 190 to 229 (fun s11 s15 wx => (∃ (j3 e : Nat) (us3 : Bool), s11 = .int .i64 (j3 : Nat) ∧ s15 = .int .i64 (e : Nat) ∧ j3 ≤ u.size ∧ j ≤ j3 ∧ e ≤ 99999 ∧ F = (j3, e, us3)) ∧ wx = wc)
            case first =>
             go_wp2_with fail
             go_loop [11, 15] (fun v11 v15 => ∃ (i e : Nat) (us : Bool), v11 = .int .i64 (i : Nat) ∧ v15 = .int .i64 (e : Nat) ∧ i ≤ u.size ∧ j ≤ i ∧ e ≤ 99999 ∧ expAt u i e us = F) (fun v _ => u.size - (intOf v).toNat)
             case atStart => exact ⟨j2, 0, st.us, rfl, rfl, hj2b, by omega, by omega, HF.out.symm⟩
             case round =>
              obtain ⟨i, e, us, rfl, rfl, hi1, hi2, hi3, hF⟩ := hrel
              have HFF := Lib.hid hF
              clear hF
              by_cases hlt : i < u.size
              ·have k1 : decide ((i : Int) < (u.size : Int)) = true := decide_eq_true (by omega)
               by_cases c2 : 48 ≤ bt u i ∧ bt u i ≤ 57
               ·have k2 : decide (48 ≤ bt u i) = true := decide_eq_true c2.1
                have k3 : decide (bt u i ≤ 57) = true := decide_eq_true c2.2
                have k4 : (bt u i == 95) = false := beq_eq_false_iff_ne.2 (by omega)
                have k4' : (bt u i != 95) = true := by simp; omega
                obtain ⟨d, hd⟩ : ∃ d, d = (bt u i - 48).toNat := ⟨_, rfl⟩
                have eb : bt u i = (d : Int) + 48 := by omega
                have hd9 : d ≤ 9 := by omega
                have HN : Hid (expAt u (i + 1) (if e < 10000 then e * 10 + d else e) us = F) := by show _ = _; rw [hd, ← expAt_digit hlt c2]; exact HFF.out
                have k5 : bt u i ≤ 57 := c2.2
                have k6 : 48 ≤ bt u i := c2.1
                have HEB := Lib.hid eb
                clear c2 hd eb
                by_cases hb10 : e < 10000
                ·have k7 : decide ((e : Int) < 10000) = true := decide_eq_true (by omega)
                 go_wp2_with fail
                 go_round
                 case rel => exact ⟨i + 1, e * 10 + d, us, by go_num, by rw [HEB.out]; go_num, by omega, by omega, by omega, by have := HN.out; rwa [if_pos hb10] at this⟩
                 case measure => simp [intOf]; omega
                ·have k7 : decide ((e : Int) < 10000) = false := decide_eq_false (by omega)
                 go_wp2_with fail
                 go_round
                 case rel => exact ⟨i + 1, e, us, by go_num, rfl, by omega, by omega, by omega, by have := HN.out; rwa [if_neg hb10] at this⟩
                 case measure => simp [intOf]; omega
               ·have hcs : (decide (48 ≤ bt u i) = false ∧ True) ∨ (decide (48 ≤ bt u i) = true ∧ decide (bt u i ≤ 57) = false) := by
                 by_cases e : 48 ≤ bt u i
                 ·exact Or.inr ⟨decide_eq_true e, decide_eq_false (fun e2 => c2 ⟨e, e2⟩)⟩
                 ·exact Or.inl ⟨decide_eq_false e, trivial⟩
                by_cases c3 : bt u i = 95
                ·have k4 : (bt u i == 95) = true := beq_iff_eq.2 c3
                 have k4' : (bt u i != 95) = false := by simp [c3]
                 have HN : Hid (expAt u (i + 1) e true = F) := by show _ = _; rw [← expAt_under (us := us) hlt c3]; exact HFF.out
                 clear c2 c3
                 rcases hcs with ⟨k2, k3⟩ | ⟨k2, k3⟩
                 all_goals
                  go_wp2_with fail
                  go_round
                  case rel => exact ⟨i + 1, e, true, by go_num, rfl, by omega, by omega, by omega, HN.out⟩
                  case measure => simp [intOf]; omega
                ·have k4 : (bt u i == 95) = false := beq_eq_false_iff_ne.2 c3
                 have HN : Hid (F = (i, e, us)) := by show _ = _; rw [← HFF.out]; exact expAt_stop c2 c3
                 clear c2 c3
                 rcases hcs with ⟨k2, k3⟩ | ⟨k2, k3⟩
                 all_goals
                  go_wp2_with fail
                  go_meet
                  case rel => exact ⟨⟨i, e, us, rfl, rfl, hi1, hi2, hi3, HN.out⟩, rfl⟩
              ·have k1 : decide ((i : Int) < (u.size : Int)) = false := decide_eq_false (by omega)
               have HN : Hid (F = (i, e, us)) := by show _ = _; rw [← HFF.out]; exact expAt_end (by omega)
               go_wp2_with fail
               go_meet
               case rel => exact ⟨⟨i, e, us, rfl, rfl, hi1, hi2, hi3, HN.out⟩, rfl⟩
            case rest =>
             obtain ⟨⟨j3, e, us3, rfl, rfl, q1, q2, q3, hF2⟩, rfl⟩ := hcut
             have HTL : Hid (TailIs false u j st.us j3 (if en then -(e : Int) else e) us3) :=
              ⟨by rw [HEN.out]; exact tail_good HV.out (by rw [← HJ2.out]; exact HG.out) (by rw [← HJ2.out, ← HF.out]; exact hF2), q2, q1, by split <;> omega, by split <;> omega⟩
             clear hF2
             cases en
             ·go_wp2_with fail
              go_meet
              case rel => exact ⟨⟨j3, _, us3, rfl, by go_num, HTL.out⟩, rfl⟩
             ·go_wp2_with fail
              go_meet
              case rel => exact ⟨⟨j3, _, us3, rfl, by go_num, HTL.out⟩, rfl⟩
     case rest =>
      obtain ⟨⟨j', ex, us', rfl, rfl, htl⟩, rfl⟩ := hcut
      have HTL := Lib.hid htl
      have q1 := htl.lo
      have q2 := htl.hi
      have q3 := htl.e1
      have q4 := htl.e2
      clear htl
      by_cases hend : j' = u.size
      ·have HR : Hid (readU false u = some (st, ex)) := by show _ = _; rw [readU_tail HE2.out HSM.out, HTL.out.eq]; exact if_pos hend
       have k9 : decide ((j' : Int) < (u.size : Int)) = false := decide_eq_false (by omega)
       have hsum : -200000 ≤ st.dp + ex ∧ st.dp + ex ≤ 200000 := by omega
       have hDA : Hid (DecAt (wc.setCell ⟨w.heap.size, 1, none⟩ (.int .i64 (st.dp + ex))) w.heap.size w.heap.size st.ds (st.dp + ex)) := by
        refine ⟨Nat.le_refl _, _, obj_set1 HMEM.out.ob _, ?_⟩
        rcases HMEM.out.own.2 with ⟨h1, h2⟩ | ⟨g2, cap2, cur, h1, hg2, hgc, hnc, _⟩
        ·exact Or.inl ⟨h1, List.eq_nil_of_length_eq_zero h2⟩
        ·cases h1
         refine Or.inr ⟨g2, cap, rfl, hnc, by omega, by omega, by simpa [World.setCell] using (Array.getElem?_eq_some_iff.1 hgc).1, fun i hi => ?_⟩
         rw [World.cell?_setCell_other _ _ _ _ (by first | (simp; done) | (simp; omega)), World.ownsRow.cellAt HMEM.out.own i (by omega), digVals_at hi]
       have HBS : Hid (Below w.heap.size w (wc.setCell ⟨w.heap.size, 1, none⟩ (.int .i64 (st.dp + ex)))) := HMEM.out.below.setCell (p := ⟨w.heap.size, 1, none⟩) (Nat.le_refl _) _
       have HSS : Hid (w.heap.size < (wc.setCell ⟨w.heap.size, 1, none⟩ (.int .i64 (st.dp + ex))).heap.size) := by have := HMEM.out.size; show _ < _; simp [World.setCell]; omega
       have HTR := Lib.hid (trim _ w.heap.size w.heap.size st.ds (st.dp + ex) hDA.out (by omega))
       have HSUM := Lib.hid hsum
       have hs1 := hsum.1
       have hs2 := hsum.2
       clear hsum
       go_wp2_with (go_at_call 170; (with_reducible refine HTR.out.mono ?_); rintro e w9 ⟨rfl, es, t1, t2, t3⟩; have H9 := Lib.hid (And.intro t1 (And.intro t2 t3)); clear t1 t2 t3)
       go_ret2
       obtain ⟨t1, t2, t3⟩ := H9.out
       have hle := t1.dval.1
       have hB := HBS.out.trans (t3.toBelow (Nat.le_refl _) HSS.out)
       by_cases hemp : st.ds = []
       ·have he : es = [] := by
         rw [hemp] at hle
         exact List.length_eq_zero_iff.1 (by simpa using hle)
        rw [he, if_pos rfl] at t2
        exact lread_some HR.out t2 (by simp) (by omega) (by omega) (Or.inl ⟨rfl, hemp⟩) hB
       ·have hol2 : 0 < st.ds.length := List.length_pos_iff.2 hemp
        have hfz : dAt st.ds 0 ≠ 0 := by rcases HOK.out.first with h1 | h1; (· exact absurd h1 hemp); (· exact h1)
        have hcan := t1.canon HOK.out.digs hfz hol2
        have hne : ¬ es = [] := fun e => by have := hcan.pos; rw [e] at this; simp at this
        rw [if_neg hne] at t2
        exact lread_some HR.out t2 (by omega) (by omega) (by omega) (Or.inr ⟨hcan, t1, rfl⟩) hB

      ·have HB : Hid (readU false u = none) := by show _ = _; rw [readU_tail HE2.out HSM.out, HTL.out.eq]; exact if_neg hend
       have k9 : decide ((j' : Int) < (u.size : Int)) = true := decide_eq_true (by omega)
       go_wp2_with fail
       go_ret2
       exact lread_none HB.out HBEL.out

end Go.Proofs.YtgolhmiocjpohaaGreatDoor
