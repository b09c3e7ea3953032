/- The light reading of digits alone (145, lower 169): the decimal that they spell. No condition beyond those on the text. -/
import Derived.Test.YtgolhmiocjpohaaGreatDoorDec4
import Derived.Test.YtgolhmiocjpohaaGreatDoorNums
import Derived.Test.YtgolhmiocjpohaaGreatDoorLight1
set_option linter.unusedVariables false
set_option linter.unusedSimpArgs false
namespace Go.Proofs.YtgolhmiocjpohaaGreatDoor
open Go.RowKit Go.PlainAid

theorem or32_all : ∀ i : Fin 10, bits .or .u8 (((48 + i.val : Nat)) : Int) 32 = ((48 + i.val : Nat) : Int) := by decide

theorem or32 {c : Int} (h : 48 ≤ c ∧ c ≤ 57) : bits .or .u8 c 32 = c := by
  have := or32_all ⟨(c - 48).toNat, by omega⟩
  have e : ((48 + (c - 48).toNat : Nat) : Int) = c := by omega
  simp only [e] at this
  exact this

theorem lower_digit (c : Int) (w : World) (h : 48 ≤ c ∧ c ≤ 57) : Calls Tryz.prog 169 #[.int .u8 c] w fun e w' => e = .returned (.int .u8 c) ∧ w' = w := by
  have ho := or32 h
  clear h
  go_enter Tryz.func169, Tryz.ntmps169
  go_wp2
  go_ret
  exact ⟨rfl, rfl⟩

/-- The digits of a text up to a place, without the zeros ahead. -/
structure Lead (t : ByteArray) (i : Nat) (out : List Nat) : Prop where
  eq : dval out = pre (digs t) i
  digits : Digits out
  first : out = [] ∨ dAt out 0 ≠ 0
  len : out.length ≤ i

/-- What the light reading gives on digits. -/
def ReadIs (t : ByteArray) (w : World) (e : Ending) (w' : World) : Prop :=
  ∃ b es ep, e = .returned (.tuple #[.pointer (some ⟨b, 0, none⟩), .bool true]) ∧ DecAt w' w.heap.size b es ep ∧ (es = [] ∧ worth t = 0 ∨ Canon es ∧ Same es ep (worth t) 1 ∧ 0 < worth t) ∧ es.length ≤ 15 ∧ 0 ≤ ep ∧ ep ≤ 15 ∧ Below w.heap.size w w'

theorem own_form {w : World} {base e size n : Nat} {v : Value} {xs : List Value} (h : w.ownsRow base e size v n xs) : ∃ A c, v = .slice A n c := by
  rcases h.2 with ⟨h1, h2⟩ | ⟨g2, cap2, cur, h1, _⟩
  · exact ⟨none, 0, by rw [h2]; exact h1⟩
  · exact ⟨_, _, h1⟩

theorem Lead.skip {t : ByteArray} {i : Nat} {out : List Nat} (h : Lead t i out) (h0 : out.length = 0) (hd : dAt (digs t) i = 0) : Lead t (i + 1) out := by
  have e : out = [] := List.eq_nil_of_length_eq_zero h0
  subst e
  refine ⟨?_, h.digits, Or.inl rfl, by simp⟩
  have h1 := h.eq
  show dval [] = pre (digs t) i * 10 + dAt (digs t) i
  rw [hd, ← h1]
  rfl

theorem Lead.more {t : ByteArray} {i : Nat} {out : List Nat} (h : Lead t i out) (d : Nat) (hd : d = dAt (digs t) i) (h9 : d < 10) (hn : out.length = 0 → d ≠ 0) : Lead t (i + 1) (out ++ [d]) := by
  refine ⟨?_, h.digits.snoc h9, Or.inr ?_, by have := h.len; simp; omega⟩
  · rw [dval_snoc, h.eq, hd]
    rfl
  · rw [dAt_snoc_zero]
    by_cases e : out.length = 0
    · rw [if_pos e]; exact hn e
    · rw [if_neg e]
      rcases h.first with h1 | h1
      · rw [h1] at e; simp at e
      · exact h1

set_option maxHeartbeats 3200000 in
set_option maxRecDepth 100000 in
theorem light_read (t : ByteArray) (w : World) (h : DigitsP t) : Calls Tryz.prog 145 #[.string t] w (ReadIs t w) := by
  have hb := get_bt t
  obtain ⟨i0, hi, hz0, hz1, hz2⟩ := info_parts info5
  have HI := Lib.hid hi
  have HZ0 := Lib.hid hz0
  have HZ1 := Lib.hid hz1
  have HZ2 := Lib.hid hz2
  clear hi hz0 hz1 hz2
  have HD := Lib.hid h
  have hlen0 : 0 < t.size := h.1
  have hlen : t.size ≤ 15 := h.2.1
  clear h
  have d2 : decide ((0 : Int) < (t.size : Int)) = true := decide_eq_true (by omega)
  have HLow := Lib.hid (fun wx (h1 : 1 < t.size) => lower_digit (bt t 1) wx (HD.out.2.2 1 h1))
  have hcase : (decide ((2 : Int) ≤ (t.size : Int)) = true ∧ (bt t 0 == 48) = true ∧ (bt t 1 == 120) = false ∧ 2 ≤ t.size) ∨ (decide ((2 : Int) ≤ (t.size : Int)) = true ∧ (bt t 0 == 48) = false ∧ True ∧ 2 ≤ t.size) ∨ (decide ((2 : Int) ≤ (t.size : Int)) = false ∧ True ∧ True ∧ True) := by
    by_cases h2 : 2 ≤ t.size
    · have hd := HD.out.2.2 1 (by omega)
      by_cases h48 : bt t 0 = 48
      · exact Or.inl ⟨decide_eq_true (by omega), by simp [h48], by simp; omega, h2⟩
      · exact Or.inr (Or.inl ⟨decide_eq_true (by omega), by simp [h48], trivial, h2⟩)
    · exact Or.inr (Or.inr ⟨decide_eq_false (by omega), trivial, trivial, trivial⟩)
  rcases hcase with ⟨d1, d3, d4, h2⟩ | ⟨d1, d3, d4, h2⟩ | ⟨d1, d3, d4, h2⟩
  all_goals
    go_enter Tryz.func145, Tryz.ntmps145
    go_wp2_with (go_at_call 169; (with_reducible refine (HLow.out _ (by omega)).mono ?_); rintro e w1 ⟨rfl, rfl⟩)
    clear d1 d3 d4 h2 d2
    go_loopw [7, 8, 9, 10, 11] (fun v7 v8 v9 v10 v11 wr => ∃ (i : Nat) (out : List Nat) (x : Value), v7 = .int .u64 0 ∧ v8 = .bool (decide (0 < i)) ∧ v9 = .bool false ∧ v10 = .int .i64 0 ∧ v11 = .int .i64 (i : Int) ∧ i ≤ t.size ∧ Lead t i out ∧
      wr.heap[w.heap.size]? = some (.cells #[x, .int .i64 (out.length : Nat)] 265 (0, 0)) ∧ wr.ownsRow (w.heap.size + 1) 5 1 x out.length (digVals out) ∧ Below w.heap.size w wr ∧ w.heap.size + 1 ≤ wr.heap.size) (fun _ _ _ _ v _ => t.size - (intOf v).toNat)
    case atStart =>
      refine ⟨0, [], .slice none 0 0, rfl, rfl, rfl, rfl, rfl, by omega, ⟨rfl, fun j hj => by simp at hj, Or.inl rfl, by simp⟩, ?_, World.ownsRow_nil _ _ _ _, (Below.refl _ _).alloc (Nat.le_refl _) _, by simp⟩
      exact heap_alloc_new w _
    case round =>
      obtain ⟨i, out, x, rfl, rfl, rfl, rfl, rfl, hi, hlead, hob, hown, hbl, hsz⟩ := hrel
      obtain ⟨A, cap, rfl⟩ : ∃ A cap, x = .slice A out.length cap := by
        rcases hown.2 with ⟨h1, h2⟩ | ⟨g2, cap2, cur, h1, _⟩
        · exact ⟨none, 0, by rw [h2]; exact h1⟩
        · exact ⟨_, _, h1⟩
      obtain ⟨c0, c1, f0, f1⟩ := obj_cells hob
      have HLEAD := Lib.hid hlead
      have HOB := Lib.hid hob
      have HOWN := Lib.hid hown
      have HBL := Lib.hid hbl
      have HSZ := Lib.hid hsz
      have hol : out.length ≤ 15 := by have := hlead.len; omega
      clear hlead hob hown hbl hsz
      by_cases hlt : i < t.size
      · have hd := HD.out.2.2 i hlt
        have k2 : (bt t i == 95) = false := by simp; omega
        have k3 : (bt t i == 46) = false := by simp; omega
        have k4 : decide (48 ≤ bt t i) = true := decide_eq_true (by omega)
        have k5 : decide (bt t i ≤ 57) = true := decide_eq_true (by omega)
        obtain ⟨d, hdd⟩ : ∃ d, d = (bt t i - 48).toNat := ⟨_, rfl⟩
        have k6 : (bt t i - 48) % 256 = (d : Int) := by omega
        have k7 : ((d : Int) == 16) = false := by simp; omega
        have hd9 : d ≤ 9 := by omega
        have HDD : Hid (d = dAt (digs t) i) := by show _ = _; rw [digs_at hlt, hdd]
        have hii : (0 : Int) ≤ (i : Int) := by omega
        clear hd hdd
        by_cases hz : out.length = 0 ∧ d = 0
        · obtain ⟨hz1, hz2⟩ := hz
          have k8 : decide ((0 : Int) < (out.length : Int)) = false := decide_eq_false (by omega)
          have k9 : ((d : Int) != 0) = false := by simp; omega
          have HZZ := Lib.hid (And.intro hz1 hz2)
          have k10 : ¬ 0 < out.length := by omega
          clear hz1 hz2
          go_wp2_with fail
          go_roundw
          case rel =>
            exact ⟨i + 1, out, .slice A out.length cap, rfl, by simp, rfl, rfl, by go_num, by omega, HLEAD.out.skip HZZ.out.1 (by rw [← HDD.out]; exact HZZ.out.2), HOB.out, HOWN.out, HBL.out, HSZ.out⟩
          case measure => simp [intOf]; omega
        · have HNZ : Hid (out.length = 0 → d ≠ 0) := fun e e2 => hz ⟨e, e2⟩
          have hge : ∀ (v' : Value) (w1 : World), w1.ownsRow (w.heap.size + 1) 5 1 v' (out.length + 1) (digVals out ++ [.int .u8 (d : Int)]) → (wr.alloc (.cells #[.int .u8 (d : Int)] 5)).grownBy w1 (Value.slice A out.length cap).ownBlock →
              w1.heap[w.heap.size]? = some (.cells #[.slice A out.length cap, .int .i64 (out.length : Nat)] 265 (0, 0)) ∧ w1.ownsRow (w.heap.size + 1) 5 1 v' (out ++ [d]).length (digVals (out ++ [d])) ∧ Below w.heap.size w w1 ∧ w.heap.size + 1 ≤ w1.heap.size := by
            intro v' w1 ho hg
            have hB : Below (w.heap.size + 1) wr w1 := ((Below.refl _ _).alloc HSZ.out _).grown hg (by simp; have := HSZ.out; omega) (fun k hk => (HOWN.out.lt k hk).1)
            exact ⟨by rw [hB.block _ (Nat.lt_succ_self _)]; exact HOB.out, by rw [digVals_snoc, List.length_append]; exact ho, HBL.out.trans (hB.mono (Nat.le_succ _)), Nat.le_trans HSZ.out hB.size⟩
          have HGE := Lib.hid hge
          clear hge
          have hz3 : (0 < out.length ∧ True) ∨ (¬ 0 < out.length ∧ ((d : Int) != 0) = true) := by
            by_cases e : out.length = 0
            · exact Or.inr ⟨by omega, by have := HNZ.out e; simp; omega⟩
            · exact Or.inl ⟨by omega, trivial⟩
          clear hz
          rcases hz3 with ⟨k8, k9⟩ | ⟨k8, k9⟩
          all_goals
            go_upto_region 21 with fail
            rw [k6]
            go_wp2_with (at_builtin; refine wpList_append_own _ rfl _ _ 122 rfl (w.heap.size + 1) 5 i0 (.int .u8 0) 1 1 Tryz.underlying122 HI.out HZ0.out HZ1.out HZ2.out rfl (by decide) _ _ _ rfl (HOWN.out.alloc _) ⟨wr.heap.size, 0, none⟩ 1 1 [.int .u8 (d : Int)] rfl rfl (cell_one_new _ _ _) (by intro u hu; simp at hu; subst hu; rfl) (by unfold maxLen; omega) (by omega) (by simp; have := HSZ.out; omega) ?_; intro v' w1 hown1 hgr1 hxx; obtain ⟨A2, cap2, rfl⟩ := own_form hown1; have HA := Lib.hid (HGE.out _ w1 hown1 hgr1); have f0' := (obj_cells HA.out.1).2.2.1; have c0' := (obj_cells HA.out.1).1; have c1' := (obj_cells (obj_set0 HA.out.1 (.slice A2 (out.length + 1) cap2))).2.1; have f1' := (obj_cells (obj_set0 HA.out.1 (.slice A2 (out.length + 1) cap2))).2.2.2; clear hown1 hgr1 hxx)
            go_roundw
            case rel =>
              obtain ⟨a1, a2, a3, a4⟩ := HA.out
              refine ⟨i + 1, out ++ [d], .slice A2 (out.length + 1) cap2, rfl, by simp, rfl, rfl, by go_num, by omega, HLEAD.out.more d HDD.out (by omega) HNZ.out, ?_, ?_, (a3.setCell (p := ⟨w.heap.size, 0, none⟩) (Nat.le_refl _) _).setCell (p := ⟨w.heap.size, 1, none⟩) (Nat.le_refl _) _, by simpa [World.setCell] using a4⟩
              · rw [obj_set1 (obj_set0 a1 _) _]
                simp
              · have hb1 : (⟨w.heap.size, 0, none⟩ : Addr).block < w.heap.size + 1 := Nat.lt_succ_self _
                have hb2 : (⟨w.heap.size, 1, none⟩ : Addr).block < w.heap.size + 1 := Nat.lt_succ_self _
                have := ownsRow_setCell_below (ownsRow_setCell_below a2 hb1 (.slice A2 (out.length + 1) cap2)) hb2 (.int .i64 ((out.length : Int) + 1))
                exact this
            case measure => simp [intOf]; omega
      · have hin : i = t.size := by omega
        subst hin
        have hDA : Hid (DecAt wr w.heap.size w.heap.size out (out.length : Nat)) := by
          refine ⟨Nat.le_refl _, _, HOB.out, ?_⟩
          rcases HOWN.out.2 with ⟨h1, h2⟩ | ⟨g2, cap2, cur, h1, hg2, hgc, hnc, _⟩
          · exact Or.inl ⟨h1, List.eq_nil_of_length_eq_zero h2⟩
          · cases h1
            exact Or.inr ⟨g2, cap, rfl, hnc, by omega, by omega, (Array.getElem?_eq_some_iff.1 hgc).1, fun j hj => by rw [World.ownsRow.cellAt HOWN.out j (by omega), digVals_at hj]⟩
        have hpos0 : decide (0 < t.size) = true := decide_eq_true hlen0
        have hws : Hid (dval out = worth t) := by
          show _ = _
          rw [HLEAD.out.eq]
          unfold worth dval
          rw [digs_length]
        have hDA2 : Hid (DecAt (wr.setCell ⟨w.heap.size, 1, none⟩ (.int .i64 (out.length : Nat))) w.heap.size w.heap.size out (out.length : Nat)) := by
          obtain ⟨v, h1, h2⟩ := hDA.out.obj
          exact ⟨Nat.le_refl _, v, obj_set1 h1 _, h2.heap (by simp [World.setCell]) (fun g _ hg _ => Below.heap_setCell _ _ _ _ hg)⟩
        have HBS : Hid (Below w.heap.size w (wr.setCell ⟨w.heap.size, 1, none⟩ (.int .i64 (out.length : Nat)))) := HBL.out.setCell (p := ⟨w.heap.size, 1, none⟩) (Nat.le_refl _) _
        have HSS : Hid (w.heap.size < (wr.setCell ⟨w.heap.size, 1, none⟩ (.int .i64 (out.length : Nat))).heap.size) := by have := HSZ.out; show _ < _; simp [World.setCell]; omega
        have HTR := Lib.hid (trim _ w.heap.size w.heap.size out (out.length : Nat) hDA2.out (by omega))
        go_wp2_with (go_at_call 170; (with_reducible refine HTR.out.mono ?_); rintro e w9 ⟨rfl, es, t1, t2, t3⟩; have H9 := Lib.hid (And.intro t1 (And.intro t2 t3)); clear t1 t2 t3)
        go_ret2
        obtain ⟨t1, t2, t3⟩ := H9.out
        have hle := t1.dval.1
        have hw := hws.out
        by_cases hemp : out = []
        · subst hemp
          have he : es = [] := List.eq_nil_of_length_eq_zero (by simp at hle; exact List.length_eq_zero_iff.2 hle)
          subst he
          exact ⟨_, [], 0, rfl, t2, Or.inl ⟨rfl, by rw [← hw]; rfl⟩, by simp, by omega, by omega, HBS.out.trans (t3.toBelow (Nat.le_refl _) HSS.out)⟩
        · have hol2 : 0 < out.length := List.length_pos_iff.2 hemp
          have hfz : dAt out 0 ≠ 0 := by rcases HLEAD.out.first with h1 | h1; (· exact absurd h1 hemp); (· exact h1)
          have hcan := t1.canon HLEAD.out.digits hfz hol2
          have hne : ¬ es = [] := fun e => by have := hcan.pos; rw [e] at this; simp at this
          rw [if_neg hne] at t2
          have hsame : Same out (out.length : Nat) (worth t) 1 := Same.of 0 0 (by omega) (by rw [hw]; simp)
          refine ⟨_, es, _, rfl, t2, Or.inr ⟨hcan, hsame.trim t1, ?_⟩, by omega, by omega, by omega, HBS.out.trans (t3.toBelow (Nat.le_refl _) HSS.out)⟩
          rw [← hw, t1.dval.2]
          exact Nat.mul_pos hcan.dval_pos (ten_pos _)

end Go.Proofs.YtgolhmiocjpohaaGreatDoor
