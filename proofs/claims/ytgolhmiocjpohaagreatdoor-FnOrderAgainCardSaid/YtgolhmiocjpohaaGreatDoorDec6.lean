/- The light decimal of a whole number, as the bits of a float: shift (172) and bits (148). No condition beyond those on the block and on the size of the number. The light decimal of a whole number, as the bits of a float (148). No condition beyond those on the block and on the size of the number. -/
import Derived.Test.YtgolhmiocjpohaaGreatDoorDec4
import Derived.Test.YtgolhmiocjpohaaGreatDoorDec0
set_option linter.unusedVariables false
set_option linter.unusedSimpArgs false
namespace Go.Proofs.YtgolhmiocjpohaaGreatDoor
open Go.RowKit

set_option maxHeartbeats 800000 in
set_option maxRecDepth 100000 in
theorem shift_up (w : World) (base b : Nat) (ds : List Nat) (dp : Int) (k : Nat) (h : DecAt w base b ds dp) (hc : Canon ds) (hlen : ds.length ≤ 1000000) (hdp : -1000000 ≤ dp ∧ dp ≤ 1000000) (hk1 : 0 < k) (hk : k ≤ 59) :
    Calls Tryz.prog 172 #[.pointer (some ⟨b, 0, none⟩), .int .i64 (k : Int)] w (ShiftIs base b ds dp (2 ^ k) 1 18 w) := by
  have HD := Lib.hid (double w base b ds dp k h hc hlen hdp hk)
  have h1 : ¬ (59 : Int) < (k : Int) := by omega
  have h2 : ¬ (k : Int) < -59 := by omega
  have h3 : (0 : Int) < (k : Int) := by omega
  clear h hc hlen hdp
  go_enter Tryz.func172, Tryz.ntmps172
  go_wp2_with fail
  refine wp_loop_rounds 1 ?_
  rw [rounds_succ]
  go_wp2_with fail
  refine wp_loop_rounds 1 ?_
  rw [rounds_succ]
  go_wp2_with (go_at_call 175; (with_reducible refine HD.out.mono ?_); rintro e w9 ⟨rfl, t1⟩; have H9 := Lib.hid t1; clear t1)
  go_end0
  exact ⟨rfl, H9.out⟩

/-- The form of a float of 64 bits, as a value. -/
abbrev form64 : Value := .agg #[.int .i64 52, .int .i64 11, .int .i64 (-1023)]

/-- What holds of a decimal that is N through a power of two. -/
structure Quot (N : Nat) (e : Nat) (ds : List Nat) (dp : Int) : Prop where
  canon : Canon ds
  same : Same ds dp N (2 ^ e)
  pos : 0 < N
  lt : N < 10 ^ 15

theorem Quot.hi {N e : Nat} {ds : List Nat} {dp : Int} (h : Quot N e ds dp) : dp ≤ 15 := by
  apply Classical.byContradiction
  intro hn
  obtain ⟨n, hn2⟩ : ∃ n : Nat, dp = n + 1 := ⟨(dp - 1).toNat, by omega⟩
  have h1 := h.same.ge h.canon hn2
  have h2 : 10 ^ 15 ≤ 10 ^ n := Nat.pow_le_pow_right (by omega) (by omega)
  have h3 : 10 ^ n * 1 ≤ 10 ^ n * 2 ^ e := Nat.mul_le_mul_left _ (Nat.pow_pos (by omega))
  have h4 := h.lt
  omega

theorem Quot.lo {N e : Nat} {ds : List Nat} {dp : Int} (h : Quot N e ds dp) (he : e ≤ 110) : -40 ≤ dp := by
  apply Classical.byContradiction
  intro hn
  obtain ⟨m, hm⟩ : ∃ m : Nat, dp = ((0 : Nat) : Int) - m := ⟨(-dp).toNat, by omega⟩
  have h1 := h.same.lt h.canon.digits (Nat.pow_pos (by omega)) hm
  have h2 : 10 ^ 40 ≤ 10 ^ m := Nat.pow_le_pow_right (by omega) (by omega)
  have h3 : 1 * 10 ^ m ≤ N * 10 ^ m := Nat.mul_le_mul_right _ h.pos
  have h4 : 2 ^ e ≤ 2 ^ 110 := Nat.pow_le_pow_right (by omega) he
  have h5 : (2 : Nat) ^ 110 < 10 ^ 40 := by decide
  generalize (10 : Nat) ^ 40 = A at *
  generalize (2 : Nat) ^ 110 = B at *
  omega

/-- At least 1: then the power of two is small. -/
theorem Quot.small {N e : Nat} {ds : List Nat} {dp : Int} (h : Quot N e ds dp) (hd : 0 < dp) : e ≤ 49 := by
  apply Classical.byContradiction
  intro hn
  obtain ⟨n, hn2⟩ : ∃ n : Nat, dp = n + 1 := ⟨(dp - 1).toNat, by omega⟩
  have h1 := h.same.ge h.canon hn2
  have h2 : 2 ^ 50 ≤ 2 ^ e := Nat.pow_le_pow_right (by omega) (by omega)
  have h3 : 1 * 2 ^ e ≤ 10 ^ n * 2 ^ e := Nat.mul_le_mul_right _ (ten_pos n)
  have h4 := h.lt
  omega

theorem Quot.below_one {N e : Nat} {ds : List Nat} {dp : Int} (h : Quot N e ds dp) (hd : dp ≤ 0) : N < 2 ^ e := by
  obtain ⟨m, hm⟩ : ∃ m : Nat, dp = ((0 : Nat) : Int) - m := ⟨(-dp).toNat, by omega⟩
  have h1 := h.same.lt h.canon.digits (Nat.pow_pos (by omega)) hm
  have h3 : N * 1 ≤ N * 10 ^ m := Nat.mul_le_mul_left _ (ten_pos m)
  omega

theorem Quot.point {N e : Nat} {ds : List Nat} {dp : Int} (h : Quot N e ds dp) (hN : N < 2 ^ e) : dp ≤ 0 := by
  apply Classical.byContradiction
  intro hn
  obtain ⟨n, hn2⟩ : ∃ n : Nat, dp = n + 1 := ⟨(dp - 1).toNat, by omega⟩
  have h1 := h.same.ge h.canon hn2
  have h3 : 1 * 2 ^ e ≤ 10 ^ n * 2 ^ e := Nat.mul_le_mul_right _ (ten_pos n)
  omega

theorem Quot.halve {N e k : Nat} {ds es : List Nat} {dp ep : Int} (h : Quot N e ds dp) (hc : Canon es) (hs : ∀ A B, Same ds dp A B → Same es ep (A * 1) (B * 2 ^ k)) : Quot N (e + k) es ep :=
  ⟨hc, by have := hs _ _ h.same; rwa [Nat.mul_one, ← Nat.pow_add] at this, h.pos, h.lt⟩

theorem Quot.double {N e k : Nat} {ds es : List Nat} {dp ep : Int} (h : Quot N e ds dp) (hc : Canon es) (hs : ∀ A B, Same ds dp A B → Same es ep (A * 2 ^ k) (B * 1)) (hk : k ≤ e) : Quot N (e - k) es ep := by
  refine ⟨hc, ?_, h.pos, h.lt⟩
  have h1 := hs _ _ h.same
  rw [Nat.mul_one, show e = (e - k) + k by omega, Nat.pow_add] at h1
  exact h1.scale

/-- How far a decimal below 1 may be doubled. -/
theorem Quot.room {N e : Nat} {ds : List Nat} {dp : Int} (h : Quot N e ds dp) {k : Nat} (hk : dp = 0 ∧ dAt ds 0 < 5 ∧ k = 1 ∨ dp < 0 ∧ (k : Int) ≤ -3 * dp) : k ≤ e ∧ N < 2 ^ (e - k) := by
  have h1 : N * 2 ^ k < 2 ^ e := by
    rcases hk with ⟨rfl, h5, rfl⟩ | ⟨hd, hk⟩
    · have := h.same.half_lt h.canon (Nat.pow_pos (by omega)) h5
      omega
    · obtain ⟨m, hm⟩ : ∃ m : Nat, dp = ((0 : Nat) : Int) - m := ⟨(-dp).toNat, by omega⟩
      have h1 := h.same.lt h.canon.digits (Nat.pow_pos (by omega)) hm
      have h2 : 2 ^ k ≤ 2 ^ (3 * m) := Nat.pow_le_pow_right (by omega) (by omega)
      have h3 : (2 : Nat) ^ (3 * m) = 8 ^ m := by rw [Nat.pow_mul]
      have h4 : 8 ^ m ≤ 10 ^ m := Nat.pow_le_pow_left (by omega) m
      have h5 : N * 2 ^ k ≤ N * 10 ^ m := Nat.mul_le_mul_left _ (by omega)
      rw [Nat.pow_zero, Nat.one_mul] at h1
      omega
  have hke : k ≤ e := by
    apply Classical.byContradiction
    intro hn
    have h2 : 2 ^ e ≤ 2 ^ k := Nat.pow_le_pow_right (by omega) (by omega)
    have h3 : 1 * 2 ^ k ≤ N * 2 ^ k := Nat.mul_le_mul_right _ h.pos
    omega
  refine ⟨hke, ?_⟩
  have h2 : (2 : Nat) ^ e = 2 ^ (e - k) * 2 ^ k := by rw [← Nat.pow_add]; congr 1; omega
  rw [h2] at h1
  exact Nat.lt_of_mul_lt_mul_right h1

/-- Where the doubling ends. -/
theorem Quot.top {N e : Nat} {ds : List Nat} (h : Quot N e ds 0) (h5 : 5 ≤ dAt ds 0) (hN : N < 2 ^ e) : e = N.log2 + 1 := by
  have h1 := h.same.half_ge h.canon h5
  have h0 : N ≠ 0 := by have := h.pos; omega
  have he : 0 < e := by
    rcases Nat.eq_zero_or_pos e with e0 | e0
    · rw [e0] at hN; simp at hN; omega
    · exact e0
  have h2 : (2 : Nat) ^ e = 2 * 2 ^ (e - 1) := by rw [show e = (e - 1) + 1 by omega, Nat.pow_succ, Nat.add_sub_cancel]; omega
  have h3 : N.log2 = e - 1 := by
    apply Nat.le_antisymm
    · have := (Nat.log2_lt h0).2 hN
      omega
    · exact (Nat.le_log2 h0).2 (by omega)
  omega

end Go.Proofs.YtgolhmiocjpohaaGreatDoor

set_option linter.unusedVariables false
set_option linter.unusedSimpArgs false
namespace Go.Proofs.YtgolhmiocjpohaaGreatDoor
open Go.RowKit

/-- The cells of a form that was laid into block g. -/
structure FormAt (w : World) (g : Nat) : Prop where
  a : w.cell? ⟨g, 0, none⟩ = some (.int .i64 52)
  b : w.cell? ⟨g, 1, none⟩ = some (.int .i64 11)
  c : w.cell? ⟨g, 2, none⟩ = some (.int .i64 (-1023))

theorem FormAt.only {w w' : World} {g b : Nat} (h : FormAt w g) (ho : Only b w w') (hg : g < w.heap.size) (hb : g ≠ b) : FormAt w' g :=
  ⟨(ho.cell hg hb).trans h.a, (ho.cell hg hb).trans h.b, (ho.cell hg hb).trans h.c⟩

theorem bits_half (m : Nat) (h1 : 2 ^ 52 ≤ m) (h2 : m < 2 ^ 53) : bits .and .u64 (m : Int) 4503599627370496 = 4503599627370496 := by
  have h := bits_and_u64 m (2 ^ 52) (by omega) (by omega)
  have e : m &&& 2 ^ 52 = 2 ^ 52 := by
    have ht : m.testBit 52 = true := by
      rw [Nat.testBit_eq_decide_div_mod_eq]
      have : m / 2 ^ 52 = 1 := by omega
      rw [this]
      rfl
    apply Nat.eq_of_testBit_eq
    intro j
    rw [Nat.testBit_and, Nat.testBit_two_pow]
    by_cases hj : 52 = j
    · subst hj
      rw [ht]
      rfl
    · simp [hj]
  rw [e] at h
  exact h

theorem bits_low (m : Nat) (h1 : 2 ^ 52 ≤ m) (h2 : m < 2 ^ 53) : bits .and .u64 (m : Int) 4503599627370495 = ((m - 2 ^ 52 : Nat) : Int) := by
  have h := bits_mask_u64 m 52 (2 ^ 52) rfl (by omega) (by omega)
  have e : m % 2 ^ 52 = m - 2 ^ 52 := by omega
  rw [e] at h
  exact h

theorem bits_joined (r q : Nat) (h1 : r < 2 ^ 52) (h2 : q < 2 ^ 11) : bits .or .u64 (r : Int) ((q * 2 ^ 52 : Nat) : Int) = ((q * 2 ^ 52 + r : Nat) : Int) := by
  rw [bits_or_u64 r (q * 2 ^ 52) (by omega) (by omega)]
  congr 1
  rw [Nat.or_comm, Nat.mul_comm, Nat.two_pow_add_eq_or_of_lt h1]

set_option maxHeartbeats 1600000 in
set_option maxRecDepth 100000 in
theorem bits_zero (w : World) (base b : Nat) (ep : Int) (h : DecAt w base b [] ep) :
    Calls Tryz.prog 148 #[.pointer (some ⟨b, 0, none⟩), form64] w fun e w' => e = .returned (.tuple #[.int .u64 0, .bool false]) ∧ Only b w w' := by
  have hlt := h.lt
  obtain ⟨v, hobj, hdig⟩ := h.obj
  rcases hdig with ⟨rfl, _⟩ | ⟨g, cap, rfl, _⟩
  all_goals
    obtain ⟨c0, c1, f0, f1⟩ := obj_cells hobj
    have g0 : (w.alloc (.cells #[.int .i64 52, .int .i64 11, .int .i64 (-1023)] 227)).cell? ⟨b, 0, none⟩ = w.cell? ⟨b, 0, none⟩ := World.cell?_alloc_past _ _ _ hlt
    rw [c0] at g0
    clear hobj h
    go_enter Tryz.func148, Tryz.ntmps148
    go_wp2_with fail
    go_quiet (fail)
    go_wp2_with fail
    go_ret2
    exact ⟨rfl, ((Only.refl _ _).alloc _).drewN _⟩

set_option maxHeartbeats 3200000 in
set_option maxRecDepth 100000 in
theorem bits_whole (w : World) (base b : Nat) (ds : List Nat) (dp : Int) (N : Nat) (h : DecAt w base b ds dp) (hq : Quot N 0 ds dp) (hl : ds.length ≤ 15) :
    Calls Tryz.prog 148 #[.pointer (some ⟨b, 0, none⟩), form64] w fun e w' => e = .returned (.tuple #[.int .u64 (fRung N : Nat), .bool false]) ∧ Only b w w' := by
  have HLT := Lib.hid h.lt
  have HQ := Lib.hid hq
  have HDA := Lib.hid h
  obtain ⟨v, hobj, hdig⟩ := h.obj
  rcases hdig with ⟨rfl, rfl⟩ | ⟨g, cap, rfl, hcap, hbg, hgb, hgs, hcells⟩
  · have := hq.canon.pos; simp at this
  obtain ⟨c0, c1, f0, f1⟩ := obj_cells hobj
  have g0 : (w.alloc (.cells #[.int .i64 52, .int .i64 11, .int .i64 (-1023)] 227)).cell? ⟨b, 0, none⟩ = w.cell? ⟨b, 0, none⟩ := World.cell?_alloc_past _ _ _ h.lt
  rw [c0] at g0
  have g1 : (w.alloc (.cells #[.int .i64 52, .int .i64 11, .int .i64 (-1023)] 227)).cell? ⟨b, 1, none⟩ = w.cell? ⟨b, 1, none⟩ := World.cell?_alloc_past _ _ _ h.lt
  rw [c1] at g1
  have n1 : ¬ dp < -330 := by have := hq.lo (by omega); omega
  have n2 : ¬ (310 : Int) < dp := by have := hq.hi; omega
  have n3 : ((ds.length : Int) == 0) = false := decide_eq_false (by have := hq.canon.pos; omega)
  clear hobj hcells hcap hbg hgb hgs h hq
  go_enter Tryz.func148, Tryz.ntmps148
  go_wp2_with fail
  go_quiet (fail)
  go_wp2_with fail
  have HO0 : Hid (Only b w ((w.alloc (.cells #[.int .i64 52, .int .i64 11, .int .i64 (-1023)] 227)).drewN nq)) := ((Only.refl _ _).alloc _).drewN _
  have HF0 : Hid (FormAt ((w.alloc (.cells #[.int .i64 52, .int .i64 11, .int .i64 (-1023)] 227)).drewN nq) w.heap.size) :=
    ⟨by rw [cell_heap_eq (heap_drewN _ _), World.cell?_alloc_at _ _ _ _ rfl]; rfl, by rw [cell_heap_eq (heap_drewN _ _), World.cell?_alloc_at _ _ _ _ rfl]; rfl, by rw [cell_heap_eq (heap_drewN _ _), World.cell?_alloc_at _ _ _ _ rfl]; rfl⟩
  have HD0 : Hid (DecAt ((w.alloc (.cells #[.int .i64 52, .int .i64 11, .int .i64 (-1023)] 227)).drewN nq) base b ds dp) := (HDA.out.below ((Below.refl _ _).alloc (Nat.le_refl _) _)).heap_eq (heap_drewN _ _)
  have HS0 : Hid (w.heap.size < ((w.alloc (.cells #[.int .i64 52, .int .i64 11, .int .i64 (-1023)] 227)).drewN nq).heap.size) := by show _ < _; simp
  have HL0 := Lib.hid hl
  clear g0 g1 c0 c1 f0 f1 n1 n2 n3 hl
  generalize ((w.alloc (.cells #[.int .i64 52, .int .i64 11, .int .i64 (-1023)] 227)).drewN nq) = wq at *
  go_loopw [7] (fun v wr => ∃ (e : Nat) (es : List Nat) (ep : Int), v = .int .i64 (e : Int) ∧ DecAt wr base b es ep ∧ Quot N e es ep ∧ es.length ≤ 15 + e ∧ e ≤ 108 ∧ Only b wq wr) (fun v _ => 200 - (intOf v).toNat)
  case atStart => exact ⟨0, ds, dp, rfl, HD0.out, HQ.out, by have := HL0.out; omega, by omega, Only.refl _ _⟩
  case round =>
    clear HDA HD0 HQ HL0
    obtain ⟨e, es, ep, rfl, hda, hq, hle, he, ho⟩ := hrel
    have HDA := Lib.hid hda
    have HQ := Lib.hid hq
    have HO := Lib.hid ho
    have HLE := Lib.hid hle
    have p1 : ep ≤ 15 := hq.hi
    have p2 : -40 ≤ ep := hq.lo (by omega)
    obtain ⟨v, hobj, hdig⟩ := hda.obj
    obtain ⟨c0, c1, f0, f1⟩ := obj_cells hobj
    clear hobj hda hq ho
    by_cases hpos : 0 < ep
    · have he49 : e ≤ 49 := HQ.out.small hpos
      obtain ⟨k, hk⟩ : ∃ k : Nat, (k : Int) = 3 * ep := ⟨(3 * ep).toNat, by omega⟩
      have hk0 : 0 < k := by omega
      have hk59 : k ≤ 59 := by omega
      have HH := Lib.hid (half wr base b es ep k HDA.out HQ.out.canon (by omega) (by omega) hk0 hk59)
      have hk2 : 3 * ep = (k : Int) := hk.symm
      clear hk hle hdig
      go_wp2_with (go_at_call 174; (with_reducible refine HH.out.mono ?_); rintro e9 w9 ⟨rfl, t1⟩; have H9 := Lib.hid t1; clear t1)
      go_roundw
      case rel =>
        obtain ⟨es2, ep2, t1, t2, t3, t4, t5⟩ := H9.out
        exact ⟨e + k, es2, ep2, by go_num, t2, HQ.out.halve t1 t3, by have := HLE.out; omega, by omega, HO.out.trans t5⟩
      case measure => simp [intOf]; omega
    · have hN : Hid (N < 2 ^ e) := HQ.out.below_one (by omega)
      have HLE2 : Hid (es.length + 18 * e ≤ 2100) := by have := HLE.out; show _ ≤ _; omega
      have HEB : Hid (e ≤ 110) := by show _ ≤ _; omega
      go_wp2_with fail
      clear c0 c1 f0 f1 hdig HLE p1 p2 hpos
      go_loopw [7] (fun v wr => ∃ (e : Nat) (es : List Nat) (ep : Int), v = .int .i64 (e : Int) ∧ DecAt wr base b es ep ∧ Quot N e es ep ∧ es.length + 18 * e ≤ 2100 ∧ e ≤ 110 ∧ N < 2 ^ e ∧ Only b wq wr) (fun v _ => (intOf v).toNat)
      case atStart => exact ⟨e, es, ep, rfl, HDA.out, HQ.out, HLE2.out, HEB.out, hN.out, HO.out⟩
      case round =>
        clear HDA HQ HO HLE2 HEB hN hle he
        obtain ⟨e, es, ep, rfl, hda, hq, hle, he, hN, ho⟩ := hrel
        have HDA := Lib.hid hda
        have HQ := Lib.hid hq
        have HO := Lib.hid ho
        have HLE := Lib.hid hle
        have HN := Lib.hid hN
        have p1 : ep ≤ 0 := hq.point hN
        have p2 : -40 ≤ ep := hq.lo (by omega)
        obtain ⟨v, hobj, hdig⟩ := hda.obj
        rcases hdig with ⟨rfl, rfl⟩ | ⟨g3, cap3, rfl, hcap3, hbg3, hgb3, hgs3, hcells⟩
        · have := hq.canon.pos; simp at this
        obtain ⟨c0, c1, f0, f1⟩ := obj_cells hobj
        have hcd := hcells 0 hq.canon.pos
        have hpos0 : (0 : Int) < (es.length : Int) := by have := hq.canon.pos; omega
        have hpos1 : 0 < es.length := hq.canon.pos
        obtain ⟨d0, hd0⟩ : ∃ d0, d0 = dAt es 0 := ⟨_, rfl⟩
        rw [← hd0] at hcd
        have HD0 := Lib.hid hd0
        have hd9 : d0 < 10 := by rw [hd0]; exact hq.canon.digits.all 0
        clear hobj hda hq ho hle hN hcap3 hbg3 hgb3 hgs3 hcells hd0
        by_cases hneg : ep < 0
        · by_cases h59 : -3 * ep ≤ 59
          · obtain ⟨k, hk⟩ : ∃ k : Nat, (k : Int) = -3 * ep := ⟨(-3 * ep).toNat, by omega⟩
            have hk2 : -3 * ep = (k : Int) := hk.symm
            have hk2' : -(3 * ep) = (k : Int) := by omega
            have hk59 : k ≤ 59 := by omega
            have HRM := Lib.hid (HQ.out.room (k := k) (Or.inr ⟨hneg, by omega⟩))
            have hke : (k : Int) ≤ (e : Int) := by have := HRM.out.1; omega
            have hk1 : Hid (0 < k) := by show _ < _; omega
            have HH := Lib.hid (double wr base b es ep k HDA.out HQ.out.canon (by have := HLE.out; omega) (by omega) hk59)
            clear hk
            go_wp2_with (go_at_call 175; (with_reducible refine HH.out.mono ?_); rintro e9 w9 ⟨rfl, t1⟩; have H9 := Lib.hid t1; clear t1)
            go_roundw
            case rel =>
              obtain ⟨es2, ep2, t1, t2, t3, t4, t5⟩ := H9.out
              have := hk1.out
              exact ⟨e - k, es2, ep2, by first | (go_num; done) | (go_num; omega), t2, HQ.out.double t1 t3 HRM.out.1, by have := HLE.out; omega, by omega, HRM.out.2, HO.out.trans t5⟩
            case measure => have := hk1.out; simp [intOf]; omega
          · have HRM := Lib.hid (HQ.out.room (k := 59) (Or.inr ⟨hneg, by omega⟩))
            have hke : (59 : Int) ≤ (e : Int) := by have := HRM.out.1; omega
            have HH := Lib.hid (show Calls Tryz.prog 175 #[.pointer (some ⟨b, 0, none⟩), .int .i64 59] wr (ShiftIs base b es ep (2 ^ 59) 1 18 wr) from double wr base b es ep 59 HDA.out HQ.out.canon (by have := HLE.out; omega) (by omega) (by omega))
            have h60 : 59 < -(3 * ep) := by omega
            go_wp2_with (go_at_call 175; (with_reducible refine HH.out.mono ?_); rintro e9 w9 ⟨rfl, t1⟩; have H9 := Lib.hid t1; clear t1)
            go_roundw
            case rel =>
              obtain ⟨es2, ep2, t1, t2, t3, t4, t5⟩ := H9.out
              exact ⟨e - 59, es2, ep2, by first | (go_num; done) | (go_num; omega), t2, HQ.out.double t1 t3 HRM.out.1, by have := HLE.out; omega, by omega, HRM.out.2, HO.out.trans t5⟩
            case measure => simp [intOf]; omega
        · have he0 : ep = 0 := by omega
          subst he0
          by_cases h5 : d0 < 5
          · have h5' : (d0 : Int) < 5 := by omega
            have HRM := Lib.hid (HQ.out.room (k := 1) (Or.inl ⟨rfl, by rw [← HD0.out]; exact h5, rfl⟩))
            have hke : (1 : Int) ≤ (e : Int) := by have := HRM.out.1; omega
            have HH := Lib.hid (show Calls Tryz.prog 175 #[.pointer (some ⟨b, 0, none⟩), .int .i64 1] wr (ShiftIs base b es 0 (2 ^ 1) 1 18 wr) from double wr base b es 0 1 HDA.out HQ.out.canon (by have := HLE.out; omega) (by omega) (by omega))
            go_wp2_with (go_at_call 175; (with_reducible refine HH.out.mono ?_); rintro e9 w9 ⟨rfl, t1⟩; have H9 := Lib.hid t1; clear t1)
            go_roundw
            case rel =>
              obtain ⟨es2, ep2, t1, t2, t3, t4, t5⟩ := H9.out
              exact ⟨e - 1, es2, ep2, by first | (go_num; done) | (go_num; omega), t2, HQ.out.double t1 t3 HRM.out.1, by have := HLE.out; omega, by omega, HRM.out.2, HO.out.trans t5⟩
            case measure => simp [intOf]; omega
          · have h5' : ¬ (d0 : Int) < 5 := by omega
            have hetop : Hid (e = N.log2 + 1) := HQ.out.top (by rw [← HD0.out]; omega) HN.out
            have hN0 : N ≠ 0 := by have := HQ.out.pos; omega
            have hN53 : N < 2 ^ 53 := by have := HQ.out.lt; omega
            obtain ⟨E, hE⟩ : ∃ E, E = N.log2 := ⟨_, rfl⟩
            have he1 : e = E + 1 := by rw [hE]; exact hetop.out
            have hE52 : E ≤ 52 := by rw [hE]; exact log2_le hN0 hN53
            have hsc := scaled hN0 hN53
            obtain ⟨M, hM⟩ : ∃ M, M = N * 2 ^ (52 - N.log2) := ⟨_, rfl⟩
            rw [← hM] at hsc
            have HH : Hid (∀ wx, wx.heap = wr.heap → Calls Tryz.prog 172 #[.pointer (some ⟨b, 0, none⟩), .int .i64 53] wx (ShiftIs base b es 0 (2 ^ 53) 1 18 wx)) :=
              fun wx hx => shift_up wx base b es 0 53 (HDA.out.heap_eq hx) HQ.out.canon (by have := HLE.out; omega) (by omega) (by omega) (by omega)
            have HFX : Hid (∀ wx w9, wx.heap = wr.heap → (∃ fs fp, Canon fs ∧ DecAt w9 base b fs fp ∧ (∀ A B, Same es 0 A B → Same fs fp (A * 2 ^ 53) (B * 1)) ∧ fs.length ≤ es.length + 18 ∧ Only b wx w9) → FormAt w9 w.heap.size) := by
              rintro wx w9 hx ⟨fs, fp, t1, t2, t3, t4, t5⟩
              have h1 := HF0.out.only HO.out HS0.out (by have := HLT.out; omega)
              have h2 : FormAt wx w.heap.size := ⟨by rw [cell_heap_eq hx]; exact h1.a, by rw [cell_heap_eq hx]; exact h1.b, by rw [cell_heap_eq hx]; exact h1.c⟩
              exact h2.only t5 (by rw [hx]; have := HO.out.size; have := HS0.out; omega) (by have := HLT.out; omega)
            have HW : Hid (∀ wx w9, (∃ fs fp, Canon fs ∧ DecAt w9 base b fs fp ∧ (∀ A B, Same es 0 A B → Same fs fp (A * 2 ^ 53) (B * 1)) ∧ fs.length ≤ es.length + 18 ∧ Only b wx w9) → Calls Tryz.prog 176 #[.pointer (some ⟨b, 0, none⟩)] w9 fun e w' => e = .returned (.int .u64 (M : Int)) ∧ w9 = w') := by
              rintro wx w9 ⟨fs, fp, t1, t2, t3, t4, t5⟩
              have hs := t3 _ _ HQ.out.same
              rw [Nat.mul_one] at hs
              have hs2 : Same fs fp M 1 := by
                have e1 : N * 2 ^ 53 = M * 2 ^ e := by
                  rw [hM, he1, ← hE, Nat.mul_assoc, ← Nat.pow_add]
                  congr 2
                  omega
                have e2 : 2 ^ e = 1 * 2 ^ e := (Nat.one_mul _).symm
                rw [e1] at hs
                rw [e2, ← Nat.mul_assoc, Nat.mul_one] at hs
                exact hs.scale
              obtain ⟨w1, w2⟩ := hs2.whole t1
              obtain ⟨n, hn⟩ : ∃ n : Nat, fp = n := ⟨fp.toNat, by omega⟩
              subst hn
              rw [Int.toNat_natCast] at w2
              have hnb : n ≤ 17 := by
                apply Classical.byContradiction
                intro hno
                have := hs2.ge t1 (n := n - 1) (by omega)
                have h10 : 10 ^ 17 ≤ 10 ^ (n - 1) := Nat.pow_le_pow_right (by omega) (by omega)
                omega
              have := whole w9 base b fs n t2 t1.digits (by omega) (by omega) (by omega)
              rwa [w2] at this
            have hHalf := bits_half M hsc.1 hsc.2
            obtain ⟨r, hr⟩ : ∃ r, r = M - 2 ^ 52 := ⟨_, rfl⟩
            obtain ⟨q, hqq⟩ : ∃ q, q = (E + 1023) * 2 ^ 52 := ⟨_, rfl⟩
            obtain ⟨F, hF⟩ : ∃ F, F = fRung N := ⟨_, rfl⟩
            have hFe : F = q + r := by
              rw [hF, hqq, hr]
              unfold fRung
              rw [if_neg hN0, ← hM, ← hE]
              omega
            have hLow := bits_low M hsc.1 hsc.2
            rw [← hr] at hLow
            have hJoin := bits_joined r (E + 1023) (by omega) (by omega)
            rw [← hqq, ← hFe] at hJoin
            have eqq : ((E : Int) + 1023) * 4503599627370496 = (q : Int) := by rw [hqq]; omega
            have hqb : q ≤ 4841369599423283200 := by omega
            have HFR : Hid (F = fRung N) := hF
            have HMM : Hid (2 ^ 52 ≤ M ∧ M < 2 ^ 53) := hsc
            have HE1 := Lib.hid he1
            have hFA := HF0.out.only HO.out HS0.out (by have := HLT.out; omega)
            have HFA := Lib.hid hFA
            obtain ⟨b1, b2, b3⟩ := hFA
            have hMb : M ≤ 9007199254740991 := by omega
            have hMa : 4503599627370496 ≤ M := by omega
            clear hM hE he1 hetop hsc hr hqq hF hFe hN53 hN0
            have eqE : (e : Int) - 1 = (E : Int) := by have := HE1.out; omega
            have hEi : (E : Int) ≤ 52 := by omega
            have hne : ((M : Int) == 9007199254740992) = false := decide_eq_false (by omega)
            go_wp2_with fail
            go_quiet (fail)
            go_wp2_with (first
              | (go_at_call 172; (with_reducible refine (HH.out _ (heap_drewN _ _)).mono ?_); rintro e9 w9 ⟨rfl, t1⟩; obtain ⟨b1', b2', b3'⟩ := HFX.out _ w9 (heap_drewN _ _) t1; have HW9 := Lib.hid (HW.out _ w9 t1); have H9 := Lib.hid t1; clear t1)
              | (go_at_call 176; (with_reducible refine HW9.out.mono ?_); rintro e10 w10 ⟨rfl, rfl⟩))
            go_quiet (fail)
            go_wp2_with fail
            go_ret2
            obtain ⟨fs, fp, t1, t2, t3, t4, t5⟩ := H9.out
            refine ⟨by rw [← HFR.out]; rfl, ?_⟩
            have h1 : Only b w w9 := HO0.out.trans (HO.out.trans (((Only.refl b wr).drewN _).trans t5))
            exact h1.drewN _

end Go.Proofs.YtgolhmiocjpohaaGreatDoor
