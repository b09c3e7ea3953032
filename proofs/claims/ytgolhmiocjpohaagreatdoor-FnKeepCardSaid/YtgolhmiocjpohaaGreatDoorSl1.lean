/- The light decimal, as the bits of the nearest float (148). No condition beyond those on the block and on the decimal's length. The reference's comparison of two cells (spec.Before and what it calls) computes the plain function 'bef', if strings.ToLower and Go's ParseFloat compute 'low' and 'num' on the texts at hand. No condition beyond those. Go's slow decimal shifted right (200). No condition beyond those on the block and on sizes. -/
import Derived.Test.YtgolhmiocjpohaaGreatDoorGen6
import Derived.Test.YtgolhmiocjpohaaGreatDoorDec5
import Derived.Deep.LoopGhost
import Derived.Deep.CutBlock
set_option linter.unusedVariables false
set_option linter.unusedSimpArgs false
namespace Go.Proofs.YtgolhmiocjpohaaGreatDoor
open Go.RowKit

theorem bits_nohalf (m : Nat) (h2 : m < 2 ^ 52) : bits .and .u64 (m : Int) 4503599627370496 = 0 := by
 have h := bits_and_u64 m (2 ^ 52) (by omega) (by omega)
 have e : m &&& 2 ^ 52 = 0 := by
  apply Nat.eq_of_testBit_eq
  intro j
  rw [Nat.testBit_and, Nat.testBit_two_pow, Nat.zero_testBit]
  by_cases hj : 52 = j
  ·subst hj
   rw [Nat.testBit_lt_two_pow h2]
   rfl
  ·simp [hj]
 rw [e] at h
 exact h

theorem bits_low' (m : Nat) (h2 : m < 2 ^ 52) : bits .and .u64 (m : Int) 4503599627370495 = (m : Int) := by
 have h := bits_mask_u64 m 52 (2 ^ 52) rfl (by omega) (by omega)
 rw [Nat.mod_eq_of_lt h2] at h
 exact h

/-- The decimal in block b, behind some steps from wr on. -/
def ShD (base b A B p q : Nat) (wr w' : World) : Prop :=
 ∃ fs fp, DecAt w' base b fs fp ∧ St A B p q fs fp ∧ fs.length ≤ 90000 ∧ Only b wr w'

theorem ShD.only {base b A B p q : Nat} {wr w' : World} (h : ShD base b A B p q wr w') : Only b wr w' := by
 obtain ⟨_, _, _, _, _, h⟩ := h
 exact h

theorem ShD.shift53 {base b A B p q : Nat} {wr w9 : World} (h : ShD base b A B p q wr w9) (hm : Mid A B) (hp : p ≤ 1300) (hq : q ≤ 2300) (hM : rnd (A * 2 ^ (q + 53)) (B * 2 ^ p) ≤ 9223372036854775807) (n : Nat) :
  Calls Tryz.prog 172 #[.pointer (some ⟨b, 0, none⟩), .int .i64 53] (w9.drewN n) fun e w' => e = .returned (.tuple #[]) ∧ Only b wr w' ∧
   Calls Tryz.prog 176 #[.pointer (some ⟨b, 0, none⟩)] w' fun e w2 => e = .returned (.int .u64 (rnd (A * 2 ^ (q + 53)) (B * 2 ^ p) : Nat)) ∧ w' = w2 := by
 obtain ⟨fs, fp, h1, h2, h3, h4⟩ := h
 have h5 := h2.ep_lo hm
 have h6 := h2.ep_hi hm
 refine (show Calls Tryz.prog 172 #[.pointer (some ⟨b, 0, none⟩), .int .i64 53] (w9.drewN n) (ShiftIs base b fs fp (2 ^ 53) 1 500 (w9.drewN n)) from shift_many _ base b fs fp 53 (h1.heap_eq (heap_drewN _ _)) h2.canon (by omega) (by omega) (by omega)).mono ?_
 rintro e w' ⟨rfl, gs, gp, t1, t2, t3, t4, t5⟩
 have h7 := h2.double t1 t3
 refine ⟨rfl, (h4.drewN n).trans t5, ?_⟩
 have h8 := h7.ep_lo hm
 have h9 := h7.ep_hi hm
 by_cases hneg : gp < 0
 ·rw [round_small h7.same h7.canon (Nat.mul_pos hm.b (two_pos p)) hneg]
  exact whole_small w' base b gs gp t2 hneg (by omega)
 ·obtain ⟨n, rfl⟩ : ∃ n : Nat, gp = n := ⟨gp.toNat, by omega⟩
  exact whole_near w' base b gs n _ _ t2 h7.canon h7.same (Nat.mul_pos hm.b (two_pos p)) (by omega) (by omega) hM

set_option maxHeartbeats 3200000 in
set_option maxRecDepth 100000 in
theorem bits_mid (w : World) (base b : Nat) (ds : List Nat) (dp : Int) (A B r : Nat) (h : DecAt w base b ds dp) (hq : St A B 0 0 ds dp) (hm : Mid A B) (hr : Rung A B r) (hl : ds.length ≤ 2000) (hlo : ¬ dp < -330) (hhi : ¬ 310 < dp) :
  Calls Tryz.prog 148 #[.pointer (some ⟨b, 0, none⟩), form64] w fun e w' => e = .returned (.tuple #[.int .u64 (cutRung r : Nat), .bool (overRung r)]) ∧ Only b w w' := by
 have HLT := Lib.hid h.lt
 have HQ := Lib.hid hq
 have HM := Lib.hid hm
 have HR := Lib.hid hr
 have HDA := Lib.hid h
 obtain ⟨v, hobj, hdig⟩ := h.obj
 rcases hdig with ⟨rfl, rfl⟩ | ⟨g, cap, rfl, hcap, hbg, hgb, hgs, hcells⟩
 ·have := hq.canon.pos; simp at this
 obtain ⟨c0, c1, f0, f1⟩ := obj_cells hobj
 have g0 : (w.alloc (.cells #[.int .i64 52, .int .i64 11, .int .i64 (-1023)] 227)).cell? ⟨b, 0, none⟩ = w.cell? ⟨b, 0, none⟩ := World.cell?_alloc_past _ _ _ h.lt
 rw [c0] at g0
 have g1 : (w.alloc (.cells #[.int .i64 52, .int .i64 11, .int .i64 (-1023)] 227)).cell? ⟨b, 1, none⟩ = w.cell? ⟨b, 1, none⟩ := World.cell?_alloc_past _ _ _ h.lt
 rw [c1] at g1
 have n3 : ((ds.length : Int) == 0) = false := decide_eq_false (by have := hq.canon.pos; omega)
 clear hobj hcells hcap hbg hgb hgs h hq hm hr
 go_enter Tryz.func148, Tryz.ntmps148
 go_wp2_with fail
 go_quiet (fail)
 go_wp2_with fail
 have HO0 : Hid (Only b w ((w.alloc (.cells #[.int .i64 52, .int .i64 11, .int .i64 (-1023)] 227)).drewN nq)) := ((Only.refl _ _).alloc _).drewN _
 have HF0 : Hid (FormAt ((w.alloc (.cells #[.int .i64 52, .int .i64 11, .int .i64 (-1023)] 227)).drewN nq) w.heap.size) :=
  ⟨by rw [cell_heap_eq (heap_drewN _ _), World.cell?_alloc_at _ _ _ _ rfl]; rfl, by rw [cell_heap_eq (heap_drewN _ _), World.cell?_alloc_at _ _ _ _ rfl]; rfl, by rw [cell_heap_eq (heap_drewN _ _), World.cell?_alloc_at _ _ _ _ rfl]; rfl⟩
 have HD0 : Hid (DecAt ((w.alloc (.cells #[.int .i64 52, .int .i64 11, .int .i64 (-1023)] 227)).drewN nq) base b ds dp) := (HDA.out.below ((Below.refl _ _).alloc (Nat.le_refl _) _)).heap_eq (heap_drewN _ _)
 have HS0 : Hid (w.heap.size < ((w.alloc (.cells #[.int .i64 52, .int .i64 11, .int .i64 (-1023)] 227)).drewN nq).heap.size) := by show _ < _; simp
 have HL0 := Lib.hid hl
 clear g0 g1 c0 c1 f0 f1 hlo hhi n3 hl
 generalize ((w.alloc (.cells #[.int .i64 52, .int .i64 11, .int .i64 (-1023)] 227)).drewN nq) = wq at *
 go_loopw [7] (fun v wr => ∃ (p : Nat) (es : List Nat) (ep : Int), v = .int .i64 (p : Int) ∧ DecAt wr base b es ep ∧ St A B p 0 es ep ∧ es.length ≤ 2000 + p ∧ p ≤ 1099 ∧ Only b wq wr) (fun v _ => 1200 - (intOf v).toNat)
 case atStart => exact ⟨0, ds, dp, rfl, HD0.out, HQ.out, by have := HL0.out; omega, by omega, Only.refl _ _⟩
 case round =>
  clear HDA HD0 HQ HL0
  obtain ⟨p, es, ep, rfl, hda, hq, hle, hp, ho⟩ := hrel
  have HDA := Lib.hid hda
  have HQ := Lib.hid hq
  have HO := Lib.hid ho
  have HLE := Lib.hid hle
  have p1 : ep ≤ 1041 + (0 : Nat) := hq.ep_hi HM.out
  have p2 : -(p : Int) - 1110 ≤ ep := hq.ep_lo HM.out
  obtain ⟨v, hobj, hdig⟩ := hda.obj
  obtain ⟨c0, c1, f0, f1⟩ := obj_cells hobj
  clear hobj hda hq ho hdig
  by_cases hpos : 0 < ep
  ·have hp40 : p ≤ 1040 := HQ.out.p_small HM.out hpos
   by_cases h59 : 3 * ep ≤ 59
   ·obtain ⟨k, hk⟩ : ∃ k : Nat, (k : Int) = 3 * ep := ⟨(3 * ep).toNat, by omega⟩
    have hk0 : 0 < k := by omega
    have hk59 : k ≤ 59 := by omega
    have HH := Lib.hid (half wr base b es ep k HDA.out HQ.out.canon (by omega) (by omega) hk0 hk59)
    have hk2 : 3 * ep = (k : Int) := hk.symm
    clear hk hle
    go_wp2_with (go_at_call 174; (with_reducible refine HH.out.mono ?_); rintro e9 w9 ⟨rfl, t1⟩; have H9 := Lib.hid t1; clear t1)
    go_roundw
    case rel =>
     obtain ⟨es2, ep2, t1, t2, t3, t4, t5⟩ := H9.out
     exact ⟨p + k, es2, ep2, by go_num, t2, HQ.out.halve t1 t3, by have := HLE.out; omega, by omega, HO.out.trans t5⟩
    case measure => simp [intOf]; omega
   ·have HH := Lib.hid (show Calls Tryz.prog 174 #[.pointer (some ⟨b, 0, none⟩), .int .i64 59] wr (ShiftIs base b es ep 1 (2 ^ 59) 59 wr) from half wr base b es ep 59 HDA.out HQ.out.canon (by omega) (by omega) (by omega) (by omega))
    have h60 : 59 < 3 * ep := by omega
    clear hle
    go_wp2_with (go_at_call 174; (with_reducible refine HH.out.mono ?_); rintro e9 w9 ⟨rfl, t1⟩; have H9 := Lib.hid t1; clear t1)
    go_roundw
    case rel =>
     obtain ⟨es2, ep2, t1, t2, t3, t4, t5⟩ := H9.out
     exact ⟨p + 59, es2, ep2, by go_num, t2, HQ.out.halve t1 t3, by have := HLE.out; omega, by omega, HO.out.trans t5⟩
    case measure => simp [intOf]; omega
  ·have hN : Hid (A * 2 ^ 0 < B * 2 ^ p) := HQ.out.lt_one HM.out.b (by omega)
   have HP := Lib.hid hp
   go_wp2_with fail
   clear c0 c1 f0 f1 p1 p2 hpos hle hp
   go_loopw [7] (fun v wr => ∃ (q : Nat) (e : Int) (es : List Nat) (ep : Int), v = .int .i64 e ∧ e = (p : Int) - q ∧ DecAt wr base b es ep ∧ St A B p q es ep ∧ es.length ≤ 3200 + 18 * q ∧ A * 2 ^ q < B * 2 ^ p ∧ Only b wq wr) (fun v _ => (intOf v + 1200).toNat)
   case atStart => exact ⟨0, p, es, ep, rfl, by omega, HDA.out, HQ.out, by have := HLE.out; have := HP.out; omega, hN.out, HO.out⟩
   case round =>
    clear HDA HQ HO HLE hN
    obtain ⟨q, e, es, ep, rfl, he, hda, hq, hle, hN, ho⟩ := hrel
    have HDA := Lib.hid hda
    have HQ := Lib.hid hq
    have HO := Lib.hid ho
    have HLE := Lib.hid hle
    have HN := Lib.hid hN
    have p1 : ep ≤ 0 := hq.le_zero hN
    have p2 : -(p : Int) - 1110 ≤ ep := hq.ep_lo HM.out
    have p3 : q < p + 1110 := St.q_small HM.out hN
    have p4 := HP.out
    have HE := Lib.hid he
    have e1 : -1110 < e := by omega
    have e2 : e ≤ 1099 := by omega
    have HQ3 := Lib.hid p3
    obtain ⟨v, hobj, hdig⟩ := hda.obj
    rcases hdig with ⟨rfl, rfl⟩ | ⟨g3, cap3, rfl, hcap3, hbg3, hgb3, hgs3, hcells⟩
    ·have := hq.canon.pos; simp at this
    obtain ⟨c0, c1, f0, f1⟩ := obj_cells hobj
    have hcd := hcells 0 hq.canon.pos
    have hpos0 : (0 : Int) < (es.length : Int) := by have := hq.canon.pos; omega
    have hpos1 : 0 < es.length := hq.canon.pos
    obtain ⟨d0, hd0⟩ : ∃ d0, d0 = dAt es 0 := ⟨_, rfl⟩
    rw [← hd0] at hcd
    have HD0 := Lib.hid hd0
    have hd9 : d0 < 10 := by rw [hd0]; exact hq.canon.digits.all 0
    have p5 : -3000 ≤ ep := by omega
    clear hobj hda hq ho hle hN hcap3 hbg3 hgb3 hgs3 hcells hd0 he p2 p3 p4
    by_cases hneg : ep < 0
    ·by_cases h59 : -3 * ep ≤ 59
     ·obtain ⟨k, hk⟩ : ∃ k : Nat, (k : Int) = -3 * ep := ⟨(-3 * ep).toNat, by omega⟩
      have hk2 : -3 * ep = (k : Int) := hk.symm
      have hk2' : -(3 * ep) = (k : Int) := by omega
      have hk59 : k ≤ 59 := by omega
      have HRM := Lib.hid (HQ.out.room HM.out.b (k := k) (Or.inr ⟨hneg, by omega⟩))
      have hk1 : Hid (0 < k) := by show _ < _; omega
      have HH := Lib.hid (double wr base b es ep k HDA.out HQ.out.canon (by have := HLE.out; have := HQ3.out; have := HP.out; omega) (by omega) hk59)
      clear hk
      go_wp2_with (go_at_call 175; (with_reducible refine HH.out.mono ?_); rintro e9 w9 ⟨rfl, t1⟩; have H9 := Lib.hid t1; clear t1)
      go_roundw
      case rel =>
       obtain ⟨es2, ep2, t1, t2, t3, t4, t5⟩ := H9.out
       have := hk1.out
       exact ⟨q + k, e - k, es2, ep2, by first | (go_num; done) | (go_num; omega), by have := HE.out; omega, t2, HQ.out.double t1 t3, by have := HLE.out; omega, HRM.out, HO.out.trans t5⟩
      case measure => have := hk1.out; simp [intOf]; omega
     ·have HRM := Lib.hid (HQ.out.room HM.out.b (k := 59) (Or.inr ⟨hneg, by omega⟩))
      have HH := Lib.hid (show Calls Tryz.prog 175 #[.pointer (some ⟨b, 0, none⟩), .int .i64 59] wr (ShiftIs base b es ep (2 ^ 59) 1 18 wr) from double wr base b es ep 59 HDA.out HQ.out.canon (by have := HLE.out; have := HQ3.out; have := HP.out; omega) (by omega) (by omega))
      have h60 : 59 < -(3 * ep) := by omega
      go_wp2_with (go_at_call 175; (with_reducible refine HH.out.mono ?_); rintro e9 w9 ⟨rfl, t1⟩; have H9 := Lib.hid t1; clear t1)
      go_roundw
      case rel =>
       obtain ⟨es2, ep2, t1, t2, t3, t4, t5⟩ := H9.out
       exact ⟨q + 59, e - 59, es2, ep2, by first | (go_num; done) | (go_num; omega), by have := HE.out; omega, t2, HQ.out.double t1 t3, by have := HLE.out; omega, HRM.out, HO.out.trans t5⟩
      case measure => simp [intOf]; omega
    ·have he0 : ep = 0 := by omega
     subst he0
     by_cases h5 : d0 < 5
     ·have h5' : (d0 : Int) < 5 := by omega
      have HRM := Lib.hid (HQ.out.room HM.out.b (k := 1) (Or.inl ⟨rfl, by rw [← HD0.out]; exact h5, rfl⟩))
      have HH := Lib.hid (show Calls Tryz.prog 175 #[.pointer (some ⟨b, 0, none⟩), .int .i64 1] wr (ShiftIs base b es 0 (2 ^ 1) 1 18 wr) from double wr base b es 0 1 HDA.out HQ.out.canon (by have := HLE.out; have := HQ3.out; have := HP.out; omega) (by omega) (by omega))
      go_wp2_with (go_at_call 175; (with_reducible refine HH.out.mono ?_); rintro e9 w9 ⟨rfl, t1⟩; have H9 := Lib.hid t1; clear t1)
      go_roundw
      case rel =>
       obtain ⟨es2, ep2, t1, t2, t3, t4, t5⟩ := H9.out
       exact ⟨q + 1, e - 1, es2, ep2, by first | (go_num; done) | (go_num; omega), by have := HE.out; omega, t2, HQ.out.double t1 t3, by have := HLE.out; omega, HRM.out, HO.out.trans t5⟩
      case measure => simp [intOf]; omega
     ·have h5' : ¬ (d0 : Int) < 5 := by omega
      have hlog : IsLog A B ((p : Int) - q - 1) := HQ.out.top (by rw [← HD0.out]; omega) HN.out
      have HFA : Hid (∀ wy, Only b wr wy → FormAt wy w.heap.size) := fun wy hy =>
       HF0.out.only (HO.out.trans hy) HS0.out (by have := HLT.out; omega)
      have HLL : Hid (es.length ≤ 80000) := by have := HLE.out; have := HQ3.out; have := HP.out; show _ ≤ _; omega
      have HPQ : Hid (p ≤ 1099 ∧ q < 2210) := ⟨HP.out, by have := HQ3.out; have := HP.out; omega⟩
      have HOF : Hid (∀ w9, Only b wr w9 → Only b w w9) := fun w9 h9 => HO0.out.trans (HO.out.trans h9)
      obtain ⟨a1, a2, a3⟩ := HFA.out wr (Only.refl _ _)
      obtain ⟨E, hE⟩ : ∃ E : Int, E = e - 1 := ⟨_, rfl⟩
      have hEe : e - 1 = E := hE.symm
      have HEE : Hid (E = (p : Int) - q - 1) := by rw [hE, HE.out]; exact rfl
      have hE1 : -1112 < E := by omega
      have hE2 : E ≤ 1098 := by omega
      by_cases hden : E < -1022
      ·obtain ⟨k, hk⟩ : ∃ k : Nat, (k : Int) = -1022 - E := ⟨(-1022 - E).toNat, by omega⟩
       have hk1 : 0 < k := by omega
       have hk90 : k ≤ 90 := by omega
       obtain ⟨M, hM⟩ : ∃ M, M = rnd (A * 2 ^ (q + 53)) (B * 2 ^ (p + k)) := ⟨_, rfl⟩
       obtain ⟨hM1, hM2⟩ := (rung_parts HM.out.b hlog HR.out HM.out.a (M := M)).2 (by have := HEE.out; omega) k (by have := HEE.out; omega) hM
       have H1 : Hid (Calls Tryz.prog 172 #[.pointer (some ⟨b, 0, none⟩), .int .i64 (-(k : Int))] wr fun e w' => e = .returned (.tuple #[]) ∧ ShD base b A B (p + k) q wr w') := by
        refine (shift_down wr base b es 0 k HDA.out HQ.out.canon (by have := HLL.out; omega) (by omega) hk1 (by omega)).mono ?_
        rintro e9 w9 ⟨rfl, fs, fp, t1, t2, t3, t4, t5⟩
        exact ⟨rfl, fs, fp, t2, HQ.out.halve t1 t3, by have := HLL.out; omega, t5⟩
       have H2 : Hid (∀ w9 n, ShD base b A B (p + k) q wr w9 → Calls Tryz.prog 172 #[.pointer (some ⟨b, 0, none⟩), .int .i64 53] (w9.drewN n) fun e w' => e = .returned (.tuple #[]) ∧ Only b wr w' ∧
         Calls Tryz.prog 176 #[.pointer (some ⟨b, 0, none⟩)] w' fun e w2 => e = .returned (.int .u64 (M : Int)) ∧ w' = w2) := by
        intro w9 n h9
        have := h9.shift53 HM.out (by have := HPQ.out; omega) (by have := HPQ.out; omega) (by rw [← hM]; omega) n
        rwa [← hM] at this
       have hMb : M ≤ 4503599627370496 := hM1
       have HRM := Lib.hid hM2
       have eqk : -1022 - E = (k : Int) := hk.symm
       have eqk0 : (0 : Int) < (k : Int) := by omega
       have eqk2 : E + (k : Int) = -1022 := by omega
       have hki : (k : Int) ≤ 90 := by omega
       have hne : ((M : Int) == 9007199254740992) = false := decide_eq_false (by omega)
       clear hM hlog hM1 hM2 hk hE
       by_cases hMt : M = 4503599627370496
       ·subst hMt
        have HV : Hid (cutRung r = 4503599627370496 ∧ overRung r = false) := by rw [HRM.out]; exact ⟨rfl, rfl⟩
        go_wp2_with (go_at_call 172; (with_reducible refine H1.out.mono ?_); rintro e9 w9 ⟨rfl, t1⟩; obtain ⟨b1, b2, b3⟩ := HFA.out w9 t1.only; have H9 := Lib.hid t1; clear t1)
        go_quiet (fail)
        go_wp2_with (first
         | (go_at_call 172; (with_reducible refine (H2.out _ _ H9.out).mono ?_); rintro e9 w10 ⟨rfl, t1, t2⟩; obtain ⟨b1', b2', b3'⟩ := HFA.out w10 t1; have HW10 := Lib.hid t2; have H10 := Lib.hid t1; clear t1 t2)
         | (go_at_call 176; (with_reducible refine HW10.out.mono ?_); rintro e10 w10 ⟨rfl, rfl⟩))
        go_quiet (fail)
        go_wp2_with fail
        go_ret2
        exact ⟨by rw [HV.out.1, HV.out.2]; rfl, (HOF.out _ H10.out).drewN _⟩
       ·have hMl : M < 2 ^ 52 := by omega
        have HV : Hid (cutRung r = M ∧ overRung r = false) := by
         rw [HRM.out]; exact ⟨by unfold cutRung; rw [if_neg (by omega)], decide_eq_false (by omega)⟩
        have hHalf := bits_nohalf M hMl
        have hLow := bits_low' M hMl
        have hJoin : bits .or .u64 (M : Int) 0 = (M : Int) := by
         have := bits_joined M 0 hMl (by omega)
         rw [Nat.zero_mul, Nat.zero_add] at this
         exact this
        clear hMt hMl
        go_wp2_with (go_at_call 172; (with_reducible refine H1.out.mono ?_); rintro e9 w9 ⟨rfl, t1⟩; obtain ⟨b1, b2, b3⟩ := HFA.out w9 t1.only; have H9 := Lib.hid t1; clear t1)
        go_quiet (fail)
        go_wp2_with (first
         | (go_at_call 172; (with_reducible refine (H2.out _ _ H9.out).mono ?_); rintro e9 w10 ⟨rfl, t1, t2⟩; obtain ⟨b1', b2', b3'⟩ := HFA.out w10 t1; have HW10 := Lib.hid t2; have H10 := Lib.hid t1; clear t1 t2)
         | (go_at_call 176; (with_reducible refine HW10.out.mono ?_); rintro e10 w10 ⟨rfl, rfl⟩))
        go_quiet (fail)
        go_wp2_with fail
        go_ret2
        exact ⟨by rw [HV.out.1, HV.out.2]; rfl, (HOF.out _ H10.out).drewN _⟩
      ·obtain ⟨M, hM⟩ : ∃ M, M = rnd (A * 2 ^ (q + 53)) (B * 2 ^ p) := ⟨_, rfl⟩
       obtain ⟨hM1, hM2, hM3⟩ := (rung_parts HM.out.b hlog HR.out HM.out.a (M := M)).1 (by have := HEE.out; omega) hM
       obtain ⟨c, hc⟩ : ∃ c : Nat, (c : Int) = E + 1022 := ⟨(E + 1022).toNat, by omega⟩
       have HRM := Lib.hid (hM3 c (by have := HEE.out; omega))
       have hk1 : ¬ 0 < -1022 - E := by omega
       have hk2 : ¬ 0 < -1023 + 1 - E := by omega
       by_cases hinf : 1024 ≤ E
       ·have hge : (2047 : Int) ≤ E + 1023 := by omega
        have HV : Hid (cutRung r = 9218868437227405312 ∧ overRung r = true) := by
         have h1 : 9218868437227405312 ≤ r := by rw [HRM.out]; omega
         exact ⟨by unfold cutRung; rw [if_pos h1], decide_eq_true h1⟩
        clear hM hlog hM1 hM2 hM3 hE HRM hc
        go_wp2_with fail
        go_quiet (fail)
        go_wp2_with fail
        go_ret2
        exact ⟨by rw [HV.out.1, HV.out.2]; rfl, (HOF.out _ (Only.refl _ _)).drewN _⟩
       ·have hge : ¬ (2047 : Int) ≤ E + 1023 := by omega
        have hge0 : (0 : Int) ≤ E + 1023 := by omega
        have H2 : Hid (∀ n, Calls Tryz.prog 172 #[.pointer (some ⟨b, 0, none⟩), .int .i64 53] (wr.drewN n) fun e w' => e = .returned (.tuple #[]) ∧ Only b wr w' ∧
          Calls Tryz.prog 176 #[.pointer (some ⟨b, 0, none⟩)] w' fun e w2 => e = .returned (.int .u64 (M : Int)) ∧ w' = w2) := by
         intro n
         have h9 : ShD base b A B p q wr wr := ⟨es, 0, HDA.out, HQ.out, by have := HLL.out; omega, Only.refl _ _⟩
         have := h9.shift53 HM.out (by have := HPQ.out; omega) (by have := HPQ.out; omega) (by rw [← hM]; omega) n
         rwa [← hM] at this
        have hMb : M ≤ 9007199254740992 := hM2
        by_cases hMt : M = 9007199254740992
        ·subst hMt
         by_cases hE3 : E = 1023
         ·have HV : Hid (cutRung r = 9218868437227405312 ∧ overRung r = true) := by
           have h1 : 9218868437227405312 ≤ r := by rw [HRM.out]; omega
           exact ⟨by unfold cutRung; rw [if_pos h1], decide_eq_true h1⟩
          clear hM hlog hM1 hM2 hM3 hE HRM hc
          subst hE3
          go_wp2_with fail
          go_quiet (fail)
          go_wp2_with (first
           | (go_at_call 172; (with_reducible refine (H2.out _).mono ?_); rintro e9 w10 ⟨rfl, t1, t2⟩; obtain ⟨b1', b2', b3'⟩ := HFA.out w10 t1; have HW10 := Lib.hid t2; have H10 := Lib.hid t1; clear t1 t2)
           | (go_at_call 176; (with_reducible refine HW10.out.mono ?_); rintro e10 w10 ⟨rfl, rfl⟩))
          go_quiet (fail)
          go_wp2_with fail
          go_ret2
          exact ⟨by rw [HV.out.1, HV.out.2]; rfl, (HOF.out _ H10.out).drewN _⟩
         ·obtain ⟨F, hF⟩ : ∃ F, F = (c + 2) * 2 ^ 52 := ⟨_, rfl⟩
          have eqF : (E + 1 + 1023) * 4503599627370496 = (F : Int) := by rw [hF]; omega
          have eqF' : (E + 1024) * 4503599627370496 = (F : Int) := by rw [hF]; omega
          have hFb : F ≤ 9218868437227405311 := by omega
          have HV : Hid (cutRung r = F ∧ overRung r = false) := by
           have h1 : r = F := by rw [HRM.out, hF]; omega
           rw [h1]
           exact ⟨by unfold cutRung; rw [if_neg (by omega)], decide_eq_false (by omega)⟩
          have hge1 : ¬ (2047 : Int) ≤ E + 1 + 1023 := by omega
          have hge2 : ¬ (2047 : Int) ≤ E + 1024 := by omega
          have hge3 : (0 : Int) ≤ E + 1 + 1023 := by omega
          have hge4 : (0 : Int) ≤ E + 1024 := by omega
          have hJoin : bits .or .u64 0 (F : Int) = (F : Int) := by
           have := bits_joined 0 (c + 2) (by omega) (by omega)
           rw [Nat.add_zero, ← hF] at this
           exact this
          have HJ : Hid (bits .or .u64 (bits .and .u64 4503599627370496 4503599627370495) (F : Int) = (F : Int)) := hJoin
          clear hM hlog hM1 hM2 hM3 hE HRM hc hF
          go_wp2_with fail
          go_quiet (fail)
          go_wp2_with (first
           | (go_at_call 172; (with_reducible refine (H2.out _).mono ?_); rintro e9 w10 ⟨rfl, t1, t2⟩; obtain ⟨b1', b2', b3'⟩ := HFA.out w10 t1; have HW10 := Lib.hid t2; have H10 := Lib.hid t1; clear t1 t2)
           | (go_at_call 176; (with_reducible refine HW10.out.mono ?_); rintro e10 w10 ⟨rfl, rfl⟩))
          go_quiet (fail)
          go_wp2_with fail
          go_quiet (fail)
          go_wp2_with fail
          go_ret2
          exact ⟨by rw [HV.out.1, HV.out.2]; exact congrArg (fun x => Ending.returned (.tuple #[.int .u64 x, .bool false])) HJ.out, ((HOF.out _ H10.out).drewN _).drewN _⟩
        ·have hMl : M < 2 ^ 53 := by omega
         have hne : ((M : Int) == 9007199254740992) = false := decide_eq_false (by omega)
         obtain ⟨m, hm⟩ : ∃ m, m = M - 2 ^ 52 := ⟨_, rfl⟩
         obtain ⟨F, hF⟩ : ∃ F, F = (c + 1) * 2 ^ 52 := ⟨_, rfl⟩
         have eqF : (E + 1023) * 4503599627370496 = (F : Int) := by rw [hF]; omega
         have hFb : F ≤ 9218868437227405311 := by omega
         have hmb : m ≤ 4503599627370495 := by omega
         have HV : Hid (cutRung r = F + m ∧ overRung r = false) := by
          have h1 : r = F + m := by rw [HRM.out, hF, hm]; omega
          rw [h1]
          exact ⟨by unfold cutRung; rw [if_neg (by omega)], decide_eq_false (by omega)⟩
         have hHalf := bits_half M hM1 hMl
         have hLow := bits_low M hM1 hMl
         rw [← hm] at hLow
         have hJoin : bits .or .u64 (m : Int) (F : Int) = ((F + m : Nat) : Int) := by
          have := bits_joined m (c + 1) (by omega) (by omega)
          rw [← hF] at this
          exact this
         clear hM hlog hM1 hM2 hM3 hE HRM hc hF hm hMt hMl
         go_wp2_with fail
         go_quiet (fail)
         go_wp2_with (first
          | (go_at_call 172; (with_reducible refine (H2.out _).mono ?_); rintro e9 w10 ⟨rfl, t1, t2⟩; obtain ⟨b1', b2', b3'⟩ := HFA.out w10 t1; have HW10 := Lib.hid t2; have H10 := Lib.hid t1; clear t1 t2)
          | (go_at_call 176; (with_reducible refine HW10.out.mono ?_); rintro e10 w10 ⟨rfl, rfl⟩))
         go_quiet (fail)
         go_wp2_with fail
         go_ret2
         exact ⟨by rw [HV.out.1, HV.out.2]; rfl, (HOF.out _ H10.out).drewN _⟩

/-- The light decimal as the bits of a float. -/
theorem bits_gen (w : World) (base b : Nat) (ds : List Nat) (dp : Int) (A B r : Nat) (h : DecAt w base b ds dp) (hc : Canon ds) (hs : Same ds dp A B) (hA : 0 < A) (hB : 0 < B) (hr : Rung A B r) (hl : ds.length ≤ 2000) (hlo : -1000000 ≤ dp) (hhi : dp ≤ 1000000) :
  Calls Tryz.prog 148 #[.pointer (some ⟨b, 0, none⟩), form64] w fun e w' => e = .returned (.tuple #[.int .u64 (cutRung r : Nat), .bool (overRung r)]) ∧ Only b w w' := by
 by_cases h1 : dp < -330
 ·obtain ⟨E, hE⟩ := IsLog.exists hA hB
  have h0 : r = 0 := hr.unique (Rung.none hB hA (hs.tiny hc hB h1) hE)
  subst h0
  exact bits_tiny w base b ds dp h hc.pos (by omega) h1 hlo
 ·by_cases h2 : 310 < dp
  ·have h3 := hr.over hB (hs.huge hc h2)
   have e1 : cutRung r = 9218868437227405312 := by unfold cutRung; rw [if_pos (by omega)]
   have e2 : overRung r = true := decide_eq_true (by omega)
   rw [e1, e2]
   exact bits_huge w base b ds dp h hc.pos (by omega) h2 hhi
  ·exact bits_mid w base b ds dp A B r h (St.start hs hc) (hs.mid hc hA hB (by omega) (by omega)) hr hl h1 h2

end Go.Proofs.YtgolhmiocjpohaaGreatDoor

namespace Go.Proofs.YtgolhmiocjpohaaGreatDoor
open Go.RowKit

/-- What the walks read of the library's variables. -/
structure Glob (w : World) : Prop where
 mb : w.cell? ⟨10, 0, none⟩ = some (.int .u64 52)
 op : w.cell? ⟨9, 0, none⟩ = some (.bool true)
 es : ∃ t x, w.cell? ⟨6, 0, none⟩ = some (.iface t x)
 sz : 20 ≤ w.heap.size

/-- What Go's ParseFloat computes on the texts of a domain. -/
def StdSaid (Dom : ByteArray → Prop) (num : ByteArray → Option Nat) : Prop := ∀ s w, Dom s → Glob w → Calls Tryz.prog 59 #[.string s, .int .i64 64] w (NumIs (num s) w)

/-- A post: a number and that it is one, or something and that it is none. -/
def OkIs (o : Option Nat) (w : World) (e : Ending) (w' : World) : Prop :=
 (match o with
  | some x => e = .returned (.tuple #[.float .f64 x, .bool true])
  | none => ∃ x, e = .returned (.tuple #[.float .f64 x, .bool false])) ∧ Below w.heap.size w w'

set_option maxHeartbeats 400000 in
theorem number {Dom : ByteArray → Prop} {num : ByteArray → Option Nat} (hl : StdSaid Dom num) (s : ByteArray) (hs : Dom s) (w : World) (hg : Glob w) :
  Calls Tryz.prog 41 #[.string s] w (OkIs (num s) w) := by
 have HA := Lib.hid (hl s w hs hg)
 clear hl hs hg
 cases hn : num s with
 | some x =>
  rw [hn] at HA
  clear hn
  go_enter Tryz.func41, Tryz.ntmps41
  go_wp2_with fail
  refine HA.out.mono ?_
  rintro e w1 ⟨rfl, hb1⟩
  have H1 := Lib.hid hb1
  clear hb1
  go_wp2_with fail
  go_quiet (fail)
  go_wp2_with fail
  go_ret2
  exact ⟨rfl, below_drewN H1.out _⟩
 | none =>
  rw [hn] at HA
  clear hn
  go_enter Tryz.func41, Tryz.ntmps41
  go_wp2_with fail
  refine HA.out.mono ?_
  intro e w1 h
  obtain ⟨x, t, v, rfl, hb1⟩ := NumIs.none h
  have H1 := Lib.hid hb1
  clear hb1 h
  go_wp2_with fail
  go_quiet (fail)
  go_wp2_with fail
  go_ret2
  exact ⟨⟨x, rfl⟩, below_drewN H1.out _⟩

end Go.Proofs.YtgolhmiocjpohaaGreatDoor

namespace Go.Proofs.YtgolhmiocjpohaaGreatDoor
open Go.RowKit

/-- How many digits make the first one, by a shift of up to 60. -/
theorem half_places60 {ds : List Nat} (hd : Digits ds) (hf : dAt ds 0 ≠ 0) {k i : Nat} (hk : k ≤ 60) (h : pre ds i < 2 ^ k) : i ≤ 19 := by
 apply Classical.byContradiction
 intro hn
 obtain ⟨j, rfl⟩ : ∃ j, i = j + 1 := ⟨i - 1, by omega⟩
 have h1 := (pre_head hd j).1
 have h2 : 10 ^ 19 ≤ 10 ^ j := Nat.pow_le_pow_right (by omega) (by omega)
 have h3 : (2 : Nat) ^ k ≤ 2 ^ 60 := Nat.pow_le_pow_right (by omega) hk
 have h4 : 1 * 10 ^ j ≤ dAt ds 0 * 10 ^ j := Nat.mul_le_mul_right _ (by omega)
 omega

/-- Whether more than 800 digits hold something. -/
def cutTr (out : List Nat) : Bool := (out.drop 800).any fun d => decide (d ≠ 0)

theorem cutTr_short {out : List Nat} (h : out.length ≤ 800) : cutTr out = false := by
 unfold cutTr
 rw [List.drop_eq_nil_of_le h]
 rfl

theorem cutTr_snoc {out : List Nat} {q : Nat} (h : 800 ≤ out.length) : cutTr (out ++ [q]) = (cutTr out || decide (q ≠ 0)) := by
 unfold cutTr
 rw [List.drop_append_of_le_length h, List.any_append]
 simp

/-- The digits of a decimal shifted: all of them. -/
structure ShiftTo (ds : List Nat) (dp : Int) (P Q more sp : Nat) (out : List Nat) (op : Int) : Prop where
 dig : Digits out
 pos : 0 < out.length
 first : dAt out 0 ≠ 0
 same : ∀ A B, Same ds dp A B → Same out op (A * P) (B * Q)
 len : out.length ≤ ds.length + more
 pt : (out.length : Int) - op ≤ (ds.length : Int) - dp + (sp : Int)
 lo : dp - 19 ≤ op ∧ (sp = 0 → dp ≤ op)
 hi : op ≤ dp + 20 ∧ (sp ≠ 0 → op ≤ dp)

/-- A post of the shifts. -/
def SShift (b : Nat) (ds : List Nat) (dp : Int) (neg tr : Bool) (P Q more sp : Nat) (w : World) (e : Ending) (w' : World) : Prop :=
 e = .returned (.tuple #[]) ∧ ∃ out op es, ShiftTo ds dp P Q more sp out op ∧ Trimmed (out.take 800) es ∧ SDec w' b es op neg (tr || cutTr out) ∧ Only b w w'

/-- The first place that counts. -/
def FirstPlace (ds : List Nat) (P : Nat) (s4 s6 : Value) : Prop := ∃ i n : Nat, s4 = .int .i64 ((i : Int) + 1) ∧ s6 = .int .u64 (n : Nat) ∧ n = pre ds (i + 1) ∧ pre ds i < P ∧ P ≤ n ∧ i ≤ 19

/-- What is written of the digits of a shift right. -/
def Put (b : Nat) (ds : List Nat) (dp1 : Int) (neg tr : Bool) (w wr : World) (out : List Nat) (i : Nat) : Prop :=
 ∃ g, RDec wr b g (ds.length : Nat) dp1 neg (tr || cutTr out) ∧ (∀ t, i ≤ t → t < ds.length → g t = 48 + dAt ds t) ∧ (∀ t, t < out.length → t < 800 → g t = 48 + dAt out t) ∧ Only b w wr

/-- One digit more, while there is room. -/
theorem Put.step {b : Nat} {ds : List Nat} {dp1 : Int} {neg tr : Bool} {w wr : World} {out : List Nat} {i q : Nat} (h : Put b ds dp1 neg tr w wr out i) (hi : out.length < i) (hq : q < 10) (hl : out.length < 800) :
  Put b ds dp1 neg tr w (wr.setCell ⟨b, out.length, none⟩ (.int .u8 ((q : Int) + 48))) (out ++ [q]) (i + 1) := by
 obtain ⟨g, h1, h2, h3, h4⟩ := h
 refine ⟨fun t => if t = out.length then q + 48 else g t, ?_, fun t h5 h6 => ?_, fun t h5 h6 => ?_, h4.set _ _⟩
 ·have h7 := h1.setD (i := out.length) (v := q + 48) hl (by omega)
  rw [cutTr_short (by omega)] at h7
  rw [cutTr_short (by simp; omega)]
  exact h7
 ·show (if t = out.length then q + 48 else g t) = _
  rw [if_neg (by omega)]
  exact h2 t (by omega) h6
 ·show (if t = out.length then q + 48 else g t) = _
  rw [dAt_snoc]
  simp only [List.length_append, List.length_singleton] at h5
  by_cases e : t = out.length
  ·rw [if_pos e, if_neg (by omega), if_pos e]
   omega
  ·rw [if_neg e, if_pos (by omega)]
   exact h3 t (by omega) h6

/-- One digit more, where there is no room. -/
theorem Put.stepFull {b : Nat} {ds : List Nat} {dp1 : Int} {neg tr : Bool} {w wr : World} {out : List Nat} {i q : Nat} (h : Put b ds dp1 neg tr w wr out i) (hl : 800 ≤ out.length) :
  (q ≠ 0 → Put b ds dp1 neg tr w (wr.setCell ⟨b, 803, none⟩ (.bool true)) (out ++ [q]) (i + 1)) ∧ (q = 0 → Put b ds dp1 neg tr w wr (out ++ [q]) (i + 1)) := by
 obtain ⟨g, h1, h2, h3, h4⟩ := h
 have h5 : ∀ t, t < (out ++ [q]).length → t < 800 → g t = 48 + dAt (out ++ [q]) t := by
  intro t _ h6
  rw [dAt_snoc, if_pos (by omega)]
  exact h3 t (by omega) h6
 refine ⟨fun hq => ⟨g, ?_, fun t h6 h7 => h2 t (by omega) h7, h5, h4.set _ _⟩, fun hq => ⟨g, ?_, fun t h6 h7 => h2 t (by omega) h7, h5, h4⟩⟩
 ·rw [cutTr_snoc hl]
  have e : (tr || (cutTr out || decide (q ≠ 0))) = true := by simp [hq]
  rw [e]
  exact h1.setT true
 ·rw [cutTr_snoc hl]
  have e : (cutTr out || decide (q ≠ 0)) = cutTr out := by simp [hq]
  rw [e]
  exact h1

theorem first_place {ds : List Nat} {P n i : Nat} (hn : n = pre ds i) (hp : i = 0 ∨ pre ds (i - 1) < P) (hle : P ≤ n) (hP : 0 < P) (h19 : ∀ i, pre ds i < P → i ≤ 19) : FirstPlace ds P (.int .i64 (i : Int)) (.int .u64 (n : Nat)) := by
 obtain ⟨i1, rfl⟩ : ∃ i1, i = i1 + 1 := by
  refine ⟨i - 1, ?_⟩
  rcases Nat.eq_zero_or_pos i with e | e
  ·exfalso
   rw [e] at hn
   have h3 : pre ds 0 = 0 := rfl
   omega
  ·omega
 rcases hp with e | e
 ·omega
 ·rw [Nat.add_sub_cancel] at e
  exact ⟨i1, n, by simp, rfl, hn, e, hle, h19 _ e⟩

set_option maxHeartbeats 1600000 in
set_option maxRecDepth 100000 in
theorem slow_right (w : World) (b : Nat) (ds : List Nat) (dp : Int) (neg tr : Bool) (k : Nat) (h : SDec w b ds dp neg tr) (hc : Headed ds) (hdp : -1000000 ≤ dp ∧ dp ≤ 1000000) (hk1 : 0 < k) (hk : k ≤ 60) :
  Calls Tryz.prog 200 #[.pointer (some ⟨b, 0, none⟩), .int .u64 (k : Int)] w (SShift b ds dp neg tr 1 (2 ^ k) k k w) := by
 obtain ⟨hd, hl, g, hr, hg⟩ := h
 have HC := Lib.hid hc
 have HK1 := Lib.hid hk1
 have HR := Lib.hid hr
 have HG := Lib.hid hg
 have HL := Lib.hid hl
 have c0 := hr.cn
 have c1 := hr.cp
 have f0 := hr.fr 800
 have f1 := hr.fr 801
 obtain ⟨P, hP⟩ : ∃ P : Nat, P = 2 ^ k := ⟨_, rfl⟩
 have hPi : (2 : Int) ^ k = (P : Int) := by rw [hP]; simp
 have HP := Lib.hid hP
 have HPP : Hid (0 < P ∧ P ≤ 1152921504606846976) := by rw [hP]; exact ⟨Nat.pow_pos (by omega), Nat.pow_le_pow_right (n := 2) (by omega) hk⟩
 have hk0 : (0 : Int) ≤ (k : Int) := by omega
 have hk64 : (k : Int) ≤ 64 := by omega
 clear hc hP hd hr hg hk1 hl
 go_enter Tryz.func200, Tryz.ntmps200
 go_upto_block 0 with fail
 go_cut [4, 6] from 7 to 48 (fun s4 s6 wx => FirstPlace ds P s4 s6 ∧ wx = w)
 case first =>
  go_wp2_with fail
  go_loop [4, 6] (fun v u => ∃ (n i : Nat), u = .int .u64 (n : Nat) ∧ v = .int .i64 (i : Int) ∧ n = pre ds i ∧ (i = 0 ∨ pre ds (i - 1) < P)) (fun v _ => 21 - (intOf v).toNat)
  case atStart => exact ⟨0, 0, rfl, rfl, rfl, Or.inl rfl⟩
  case round =>
   obtain ⟨n, i, rfl, rfl, hn, hprev⟩ := hrel
   have HPREV := Lib.hid hprev
   have HN := Lib.hid hn
   clear hprev hn
   by_cases hlt : n < P
   ·have hi18 : i ≤ 19 := half_places60 HC.out.digits HC.out.first hk (by rw [← HP.out, ← HN.out]; exact hlt)
    have eq0 : (n : Int) / (P : Int) = 0 := Int.ediv_eq_zero_of_lt (by omega) (by omega)
    have hnb : n < 1152921504606846976 := by have := HPP.out.2; omega
    have HLT1 := Lib.hid hlt
    clear hlt
    by_cases hl : i < ds.length
    ·have hge : ¬ (ds.length : Int) ≤ (i : Int) := by omega
     have hci := HR.out.cd (i := i) (by have := HL.out; omega)
     rw [HG.out i hl] at hci
     obtain ⟨d, hd⟩ : ∃ d, d = dAt ds i := ⟨_, rfl⟩
     rw [← hd] at hci
     have hd10 : d < 10 := by rw [hd]; exact HC.out.digits.all i
     have HD := Lib.hid hd
     have hi8 : (i : Int) < 800 := by have := HL.out; omega
     clear hd
     go_wp2_with fail
     go_round
     case rel => exact ⟨n * 10 + d, i + 1, by first | (go_num; done) | (go_num; omega), by go_num, by rw [HD.out, HN.out]; rfl, Or.inr (by rw [Nat.add_sub_cancel, ← HN.out]; exact HLT1.out)⟩
     case measure => simp [intOf]; omega
    ·have hge : (ds.length : Int) ≤ (i : Int) := by omega
     have hn0 : Hid (0 < n) := by
      show 0 < n
      rw [HN.out, pre_ge (by omega)]
      exact Nat.mul_pos HC.out.dval_pos (ten_pos _)
     have hnz : (((n : Int)) == 0) = false := by have := hn0.out; simp; omega
     have HGE := Lib.hid hl
     clear hl
     go_wp2_with fail
     go_loop [4, 6] (fun v u => ∃ (n i : Nat), u = .int .u64 (n : Nat) ∧ v = .int .i64 (i : Int) ∧ n = pre ds i ∧ 0 < n ∧ (i = 0 ∨ pre ds (i - 1) < P) ∧ ds.length ≤ i) (fun v _ => 21 - (intOf v).toNat)
     case atStart => exact ⟨n, i, rfl, rfl, HN.out, hn0.out, HPREV.out, by omega⟩
     case round =>
      clear HPREV HN HLT1 hn0 hnz hge eq0 hnb hi18
      clear HGE
      obtain ⟨n, i, rfl, rfl, hn, hn0, hprev, hge⟩ := hrel
      have HPREV := Lib.hid hprev
      have HN := Lib.hid hn
      have HN0 := Lib.hid hn0
      have HGE := Lib.hid hge
      clear hprev hn hn0 hge
      by_cases hlt : n < P
      ·have hi18 : i ≤ 19 := half_places60 HC.out.digits HC.out.first hk (by rw [← HP.out, ← HN.out]; exact hlt)
       have eq0 : (n : Int) / (P : Int) = 0 := Int.ediv_eq_zero_of_lt (by omega) (by omega)
       have hnb : n < 1152921504606846976 := by have := HPP.out.2; omega
       have HLT1 := Lib.hid hlt
       clear hlt
       go_wp2_with fail
       go_round
       case rel => exact ⟨n * 10, i + 1, by first | (go_num; done) | (go_num; omega), by go_num, by rw [HN.out]; show _ = pre ds i * 10 + dAt ds i; rw [dAt_beyond (by have := HGE.out; omega)]; omega, by have := HN0.out; omega, Or.inr (by rw [Nat.add_sub_cancel, ← HN.out]; exact HLT1.out), by have := HGE.out; omega⟩
       case measure => simp [intOf]; omega
      ·have hq : ((n : Int) / (P : Int) == 0) = false := by
        have h0 := HPP.out.1
        have : 0 < n / P := Nat.div_pos (by omega) h0
        have e : (n : Int) / (P : Int) = ((n / P : Nat) : Int) := by simp
        rw [e]
        simp
        omega
       have HLE : Hid (P ≤ n) := Nat.not_lt.1 hlt
       clear hlt
       go_wp2_with fail
       go_meet
       case rel => exact ⟨first_place HN.out HPREV.out HLE.out HPP.out.1 (fun i h => half_places60 HC.out.digits HC.out.first hk (by rw [← HP.out]; exact h)), rfl⟩
   ·have hq : ((n : Int) / (P : Int) == 0) = false := by
     have h0 := HPP.out.1
     have : 0 < n / P := Nat.div_pos (by omega) h0
     have e : (n : Int) / (P : Int) = ((n / P : Nat) : Int) := by simp
     rw [e]
     simp
     omega
    have HLE : Hid (P ≤ n) := Nat.not_lt.1 hlt
    clear hlt
    go_wp2_with fail
    go_meet
    case rel => exact ⟨first_place HN.out HPREV.out HLE.out HPP.out.1 (fun i h => half_places60 HC.out.digits HC.out.first hk (by rw [← HP.out]; exact h)), rfl⟩
 case rest =>
  obtain ⟨⟨i1, n, rfl, rfl, hn, hlt, hle, hi19⟩, rfl⟩ := hcut
  have HH0 : Hid (Halving ds k (i1 + 1) [] n) := by
   have := Halving.start HC.out.digits HC.out.pos HC.out.first HK1.out (i := i1) (by rw [← HP.out]; exact hlt)
   rwa [← hn] at this
  have HPn : Hid (P ≤ n) := hle
  have b3 : -1000000 ≤ dp := hdp.1
  have b4 : dp ≤ 1000000 := hdp.2
  have hPb : P ≤ 1152921504606846976 := HPP.out.2
  have hP0 : 0 < P := HPP.out.1
  clear hn hlt hle
  go_upto_block 4 with fail
  have HPUT0 : Hid (Put b ds (dp - (i1 : Int)) neg tr wc (wc.setCell ⟨b, 801, none⟩ (.int .i64 (dp - (i1 : Int)))) [] (i1 + 1)) := by
   refine ⟨g, ?_, fun t _ ht => HG.out t ht, fun t ht => by simp at ht, (Only.refl _ _).set _ _⟩
   rw [cutTr_short (by simp), Bool.or_false]
   exact HR.out.setP _
  clear c0 c1 f0 f1 HR
  go_wp2_with fail
  go_loopg [4, 5, 6] (2000 : Nat) (fun gk s4 s5 s6 wr => ∃ (n i : Nat) (out : List Nat), s4 = .int .i64 (i : Int) ∧ s5 = .int .i64 (out.length : Nat) ∧ s6 = .int .u64 (n : Nat) ∧ i + gk = i1 + 2001 ∧ i1 + 1 + out.length = i ∧ (i ≤ ds.length ∨ i ≤ i1 + 1) ∧ Halving ds k i out n ∧ (out.length = 0 → P ≤ n) ∧ (out.length = 0 ∨ dAt out 0 ≠ 0) ∧ Put b ds (dp - (i1 : Int)) neg tr wc wr out i)
  case atStart => exact ⟨n, i1 + 1, [], by simp, by simp, rfl, by omega, by simp, by omega, HH0.out, fun _ => HPn.out, Or.inl rfl, HPUT0.out⟩
  case round =>
   clear HH0 HPn HPUT0
   clear n
   obtain ⟨n, i, out, rfl, rfl, rfl, hik, hio, hib, hh, hne0, hfirst, hput⟩ := hrel
   have HH := Lib.hid hh
   have HIO := Lib.hid (And.intro hik (And.intro hio hib))
   have HNE := Lib.hid hne0
   have HFI := Lib.hid hfirst
   have HPUT := Lib.hid hput
   clear hh hne0 hfirst hik hib
   have hnb : n < 11529215046068469760 := by have := HH.out.lt; rw [← HP.out] at this; omega
   obtain ⟨q, hq⟩ : ∃ q, q = n / P := ⟨_, rfl⟩
   obtain ⟨r, hr⟩ : ∃ r, r = n % P := ⟨_, rfl⟩
   have eqq : (n : Int) / (P : Int) = (q : Int) := by rw [hq]; simp
   have eqr : bits .and .u64 (n : Int) ((P : Int) - 1) = (r : Int) := by rw [hr]; exact bits_mask_u64 n k P HP.out (by omega) (by omega)
   have hq10 : q < 10 := by rw [hq, HP.out]; exact HH.out.digit
   have hrb : r < P := by rw [hr]; exact Nat.mod_lt _ hP0
   have HSTEP := Lib.hid (HH.out.step HC.out.digits)
   rw [← HP.out, ← hq, ← hr] at HSTEP
   have HFST : Hid (dAt (out ++ [q]) 0 ≠ 0) := by
    show _ ≠ _
    rw [dAt_snoc_zero]
    by_cases e : out.length = 0
    ·rw [if_pos e, hq]
     have := HNE.out e
     have : 0 < n / P := Nat.div_pos this hP0
     omega
    ·rw [if_neg e]
     rcases HFI.out with h1 | h1
     ·omega
     ·exact h1
   clear hq hr
   obtain ⟨g', hrd, hgd, _, _⟩ := hput
   have c0 := hrd.cn
   have f0 := hrd.fr
   by_cases hl : i < ds.length
   ·have hl' : (i : Int) < (ds.length : Int) := by omega
    have hi8 : i < 800 := by have := HL.out; omega
    have hi8' : (i : Int) < 800 := by omega
    have hci := hrd.cd hi8
    rw [hgd i (Nat.le_refl _) hl] at hci
    obtain ⟨d, hd⟩ : ∃ d, d = dAt ds i := ⟨_, rfl⟩
    rw [← hd] at hci
    have hd10 : d < 10 := by rw [hd]; exact HC.out.digits.all i
    rw [← hd] at HSTEP
    have HDD := Lib.hid hd
    have hw8 : (out.length : Int) < 800 := by omega
    have fw := f0 out.length
    have hcw := hrd.cd (i := out.length) (by omega)
    have HS := Lib.hid (HPUT.out.step (q := q) (by omega) hq10 (by omega))
    clear hd hrd hgd f0 hio
    go_wp2_with fail
    go_roundg (i1 + 2000 - i)
    case measure => have := HIO.out; omega
    case rel =>
     have h9 := HIO.out
     exact ⟨r * 10 + d, i + 1, out ++ [q], by go_num, by simp, by first | (go_num; done) | (go_num; omega), by omega, by simp; omega, by omega, HSTEP.out, fun e => by simp at e, Or.inr HFST.out, HS.out⟩
   ·have hl' : ¬ (i : Int) < (ds.length : Int) := by omega
    have HGE : Hid (ds.length ≤ i) := Nat.not_lt.1 hl
    clear hrd hgd f0 HSTEP HFST hq10 hrb eqq eqr q r hl
    go_wp2_with fail
    clear c0
    go_loopg [5, 6] (3860 - i) (fun gk s5 s6 wr => ∃ (n i m : Nat) (out : List Nat), s5 = .int .i64 (m : Nat) ∧ m = min out.length 800 ∧ s6 = .int .u64 (n : Nat) ∧ i + gk = 3860 ∧ i1 + 1 + out.length = i ∧ ds.length ≤ i ∧ (i ≤ ds.length + k + 1 ∨ out.length = 0) ∧ Halving ds k i out n ∧ (out.length = 0 → P ≤ n) ∧ (out.length = 0 ∨ dAt out 0 ≠ 0) ∧ Put b ds (dp - (i1 : Int)) neg tr wc wr out i)
    case atStart =>
     have h9 := HIO.out
     have h8 := HGE.out
     have h7 := HL.out
     exact ⟨n, i, out.length, out, rfl, by omega, rfl, by omega, h9.2.1, h8, by omega, HH.out, HNE.out, HFI.out, HPUT.out⟩
    case round =>
     clear HH HIO HNE HFI HPUT HGE hio hnb hl'
     obtain ⟨n, i, m, out, rfl, hm, rfl, hik, hio, hge, hib, hh, hne0, hfirst, hput⟩ := hrel
     have HH := Lib.hid hh
     have HIO := Lib.hid (And.intro hik (And.intro hio (And.intro hge hib)))
     have HNE := Lib.hid hne0
     have HFI := Lib.hid hfirst
     have HPUT := Lib.hid hput
     have HM := Lib.hid hm
     have hm8 : m ≤ 800 := by omega
     clear hh hne0 hfirst hik hib
     have hnb : n < 11529215046068469760 := by have := HH.out.lt; rw [← HP.out] at this; omega
     by_cases hn : n = 0
     ·subst hn
      have hLpos : Hid (0 < out.length) := by
       show 0 < out.length
       apply Classical.byContradiction
       intro hno
       have := HNE.out (by omega)
       omega
      have HEND := Lib.hid (HH.out.end hge)
      have HDIG := Lib.hid HH.out.digits
      clear HH HNE hnb
      obtain ⟨g', hrd, _, hgo, ho⟩ := hput
      have c0 := hrd.cn
      have f0 := hrd.fr 800
      have HSD : Hid (SDec (wr.setCell ⟨b, 800, none⟩ (.int .i64 (m : Int))) b (out.take 800) (dp - (i1 : Int)) neg (tr || cutTr out)) := by
       have hlen : (out.take 800).length = m := by rw [List.length_take]; omega
       refine ⟨fun t ht => ?_, by omega, g', by rw [hlen]; exact hrd.setN _, fun t ht => ?_⟩
       ·rw [dAt_take, if_pos (by omega)]
        exact HDIG.out.all t
       ·rw [dAt_take, if_pos (by omega)]
        exact hgo t (by omega) (by omega)
      have HO : Hid (Only b wc (wr.setCell ⟨b, 800, none⟩ (.int .i64 (m : Int)))) := ho.set _ _
      have HTR := Lib.hid (slow_trim _ b _ _ neg _ HSD.out)
      clear hrd hgo ho hio hge hm
      go_wp2_with (go_at_call 207; (with_reducible refine HTR.out.mono ?_); rintro e w9 ⟨rfl, es, t1, t2, t3⟩; have H9 := Lib.hid (And.intro t1 (And.intro t2 t3)); clear t1 t2 t3)
      go_end0
      obtain ⟨t1, t2, t3⟩ := H9.out
      obtain ⟨h1, h2, h3, h4⟩ := HIO.out
      have hfz : dAt out 0 ≠ 0 := by rcases HFI.out with h1 | h1; (· have := hLpos.out; omega); (· exact h1)
      have hne : ¬ es = [] := by
       intro e
       have h5 : dAt (out.take 800) 0 ≠ 0 := by rw [dAt_take, if_pos (by omega)]; exact hfz
       have h6 : Digits (out.take 800) := fun t ht => by rw [dAt_take]; split; (· exact HDIG.out.all t); (· omega)
       have := (t1.canon h6 h5 (by rw [List.length_take]; have := hLpos.out; omega)).pos
       rw [e] at this
       simp at this
      rw [if_neg hne] at t2
      refine ⟨rfl, out, _, es, ⟨HDIG.out, hLpos.out, hfz, fun A B hs => ?_, ?_, ?_, ?_, ?_⟩, t1, t2, HO.out.trans t3⟩
      ·rw [Nat.mul_one]
       exact hs.halve HEND.out (by omega)
      ·have := hLpos.out; omega
      ·have := hLpos.out; omega
      ·exact ⟨by omega, fun e => by have := HK1.out; omega⟩
      ·exact ⟨by omega, fun _ => by omega⟩
     ·have hn' : (0 : Int) < (n : Int) := by omega
      obtain ⟨q, hq⟩ : ∃ q, q = n / P := ⟨_, rfl⟩
      obtain ⟨r, hr⟩ : ∃ r, r = n % P := ⟨_, rfl⟩
      have eqq : (n : Int) / (P : Int) = (q : Int) := by rw [hq]; simp
      have eqr : bits .and .u64 (n : Int) ((P : Int) - 1) = (r : Int) := by rw [hr]; exact bits_mask_u64 n k P HP.out (by omega) (by omega)
      have hq10 : q < 10 := by rw [hq, HP.out]; exact HH.out.digit
      have hrb : r < P := by rw [hr]; exact Nat.mod_lt _ hP0
      have HSTEP := Lib.hid (HH.out.step HC.out.digits)
      rw [← HP.out, ← hq, ← hr, dAt_beyond hge, Nat.add_zero] at HSTEP
      have HFST : Hid (dAt (out ++ [q]) 0 ≠ 0) := by
       show _ ≠ _
       rw [dAt_snoc_zero]
       by_cases e : out.length = 0
       ·rw [if_pos e, hq]
        have := HNE.out e
        have : 0 < n / P := Nat.div_pos this hP0
        omega
       ·rw [if_neg e]
        rcases HFI.out with h1 | h1
        ·omega
        ·exact h1
      have hID : Hid (i ≤ ds.length + k) := by
       show i ≤ ds.length + k
       apply Classical.byContradiction
       intro hno
       exact hn (HH.out.done (by omega))
      clear hq hr hn
      obtain ⟨g', hrd, hgd, _, _⟩ := hput
      by_cases hl : out.length < 800
      ·have hmo : m = out.length := by omega
       subst hmo
       have hw8 : (out.length : Int) < 800 := by omega
       have fw := hrd.fr out.length
       have hcw := hrd.cd (i := out.length) (by omega)
       have HS := Lib.hid (HPUT.out.step (q := q) (by omega) hq10 hl)
       clear hrd hgd hio hge hm
       go_wp2_with fail
       go_roundg (3859 - i)
       case measure => have := HIO.out; have := hID.out; have := HL.out; omega
       case rel =>
        have h9 := HIO.out
        have h10 := hID.out
        have h11 := HL.out
        exact ⟨r * 10, i + 1, out.length + 1, out ++ [q], by first | (go_num; done) | (go_num; omega), by simp; omega, by go_num, by omega, by simp; omega, by omega, by omega, HSTEP.out, fun e => by simp at e, Or.inr HFST.out, HS.out⟩
      ·have hmo : m = 800 := by omega
       subst hmo
       have ft := hrd.fr 803
       have hct := hrd.ct
       have HS := Lib.hid (HPUT.out.stepFull (q := q) (by omega))
       clear hrd hgd hio hge hm
       by_cases hq0 : q = 0
       ·have hq0' : ¬ (0 : Int) < (q : Int) := by omega
        have HQ0 := Lib.hid hq0
        clear hq0
        go_wp2_with fail
        go_roundg (3859 - i)
        case measure => have := HIO.out; have := hID.out; have := HL.out; omega
        case rel =>
         have h9 := HIO.out
         have h10 := hID.out
         have h11 := HL.out
         exact ⟨r * 10, i + 1, 800, out ++ [q], rfl, by simp; omega, by go_num, by omega, by simp; omega, by omega, by omega, HSTEP.out, fun e => by simp at e, Or.inr HFST.out, HS.out.2 HQ0.out⟩
       ·have hq0' : (0 : Int) < (q : Int) := by omega
        have HQ0 := Lib.hid hq0
        clear hq0
        go_wp2_with fail
        go_roundg (3859 - i)
        case measure => have := HIO.out; have := hID.out; have := HL.out; omega
        case rel =>
         have h9 := HIO.out
         have h10 := hID.out
         have h11 := HL.out
         exact ⟨r * 10, i + 1, 800, out ++ [q], rfl, by simp; omega, by go_num, by omega, by simp; omega, by omega, by omega, HSTEP.out, fun e => by simp at e, Or.inr HFST.out, HS.out.1 HQ0.out⟩

end Go.Proofs.YtgolhmiocjpohaaGreatDoor
