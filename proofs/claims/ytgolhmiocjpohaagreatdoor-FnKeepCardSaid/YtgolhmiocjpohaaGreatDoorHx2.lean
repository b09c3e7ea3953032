/- Go's own road for hexadecimal floats (155), walked. No condition beyond those on the numbers, and what the walk reads of the library's variables. -/
import Derived.LaidEqlPtr
import Derived.Test.YtgolhmiocjpohaaGreatDoorFl3
import Derived.Test.YtgolhmiocjpohaaGreatDoorFast7
set_option linter.unusedVariables false
set_option linter.unusedSimpArgs false
namespace Go.Proofs.YtgolhmiocjpohaaGreatDoor
open Go.RowKit Go.PlainAid

/-- The floats' form, as the library tells it. -/
structure InfoAt (w : World) : Prop where
 m : w.cell? ⟨10, 0, none⟩ = some (.int .u64 52)
 e : w.cell? ⟨10, 1, none⟩ = some (.int .u64 11)
 b : w.cell? ⟨10, 2, none⟩ = some (.int .i64 (-1023))

/-- The blocks of the two forms. -/
def FormsAt (w : World) : Prop := ∃ (ca cb : Array Value) (ta tb : TypeId), w.heap[10]? = some (.cells ca ta (0, 0)) ∧ w.heap[8]? = some (.cells cb tb (0, 0))

theorem info245 : (Tryz.prog.info? 245).map (·.size) = some 3 := by kernel_rfl

theorem ptr_other {w : World} (h : FormsAt w) (n : Nat) : (binOp .eql 243 (.pointer (some ⟨10, 0, none⟩)) (.pointer (some ⟨8, 0, none⟩))).run Tryz.prog (w.drewN n) = .ok (.bool false) (w.drewN n) := by
 obtain ⟨ca, cb, ta, tb, h1, h2⟩ := h
 have h3 := info245
 cases hj : Tryz.prog.info? 245 with
 | none => rw [hj] at h3; cases h3
 | some j =>
  rw [hj] at h3
  have h4 : j.size = 3 := Option.some.inj h3
  exact run_eql_ptr_other _ Tryz.underlying243 hj (by omega) (by simp) (by rw [heap_drewN]; exact h1) (by rw [heap_drewN]; exact h2)

/-- The first loop: the mantissa grows. -/
def Grow (d : Nat) (e0 : Int) (v2 v3 : Value) : Prop := ∃ k : Nat, v2 = .int .u64 (d * 2 ^ k : Nat) ∧ v3 = .int .i64 (e0 + 52 - k) ∧ d * 2 ^ k < 2 ^ 64 ∧ k ≤ 64 ∧ (0 < k → d * 2 ^ k < 2 ^ 55)

/-- The second and the third: it is cut, what is left over kept in mind. -/
def Cut (M : Nat) (e1 : Int) (v2 v3 : Value) : Prop := ∃ k : Nat, v2 = .int .u64 (unr M (2 ^ k) : Nat) ∧ v3 = .int .i64 (e1 + k) ∧ unr M (2 ^ k) < 2 ^ 64 ∧ k ≤ 10 ∧ (M = 0 ∨ 2 ^ 54 ≤ unr M (2 ^ k))

theorem unr_le (M k : Nat) (h : unr M (2 ^ k) < 2 ^ 64) : unr M (2 ^ (k + 1)) ≤ unr M (2 ^ k) / 2 + 1 := by
 rw [unr_step]
 rcases Nat.mod_two_eq_zero_or_one (unr M (2 ^ k)) with h | h
 ·rw [h, Nat.or_zero]; omega
 ·rw [h, or_one]; omega

theorem unr_half_ge (M k : Nat) : unr M (2 ^ k) / 2 ≤ unr M (2 ^ (k + 1)) := by
 rw [unr_step]
 rcases Nat.mod_two_eq_zero_or_one (unr M (2 ^ k)) with h | h
 ·rw [h, Nat.or_zero]; omega
 ·rw [h, or_one]; omega

theorem unr_zero (k : Nat) : unr 0 (2 ^ k) = 0 := unr_exact (two_pos k) (by omega)

/-- The third loop. -/
def CutB (M : Nat) (e1 : Int) (k1 : Nat) (v2 v3 : Value) : Prop := ∃ k : Nat, v2 = .int .u64 (unr M (2 ^ k) : Nat) ∧ v3 = .int .i64 (e1 + k) ∧ unr M (2 ^ k) < 2 ^ 55 ∧ k1 ≤ k ∧ e1 + k ≤ 3000000 ∧ ((M = 0) ∨ (2 ^ 54 ≤ unr M (2 ^ k) ∧ k = k1) ∨ e1 + k ≤ -1024)

theorem sticky_less {U : Nat} (h : 1 < U) : U / 2 ||| U % 2 < U := by
 rcases Nat.mod_two_eq_zero_or_one U with h2 | h2
 ·rw [h2, Nat.or_zero]; omega
 ·rw [h2, or_one]; omega

/-- How it stands behind the third loop. -/
def Ready (M : Nat) (e1 : Int) (k U : Nat) : Prop := (M = 0 ∧ U = 0) ∨ (0 < M ∧ HexEnd M e1 k U)

theorem ready_of {M : Nat} {e1 : Int} {k k1 : Nat} (h1 : unr M (2 ^ k) < 2 ^ 55) (h2 : (M = 0) ∨ (2 ^ 54 ≤ unr M (2 ^ k) ∧ k = k1) ∨ e1 + k ≤ -1024) (h3 : unr M (2 ^ k) ≤ 1 ∨ -1024 ≤ e1 + k) : Ready M e1 k (unr M (2 ^ k)) := by
 rcases Nat.eq_zero_or_pos M with h0 | h0
 ·left; subst h0; exact ⟨rfl, unr_zero k⟩
 ·right
  refine ⟨h0, rfl, h1, ?_⟩
  generalize unr M (2 ^ k) = U at *
  omega

theorem Ready.out {M : Nat} {e1 : Int} {k U r : Nat} (h : Ready M e1 k U) (hr : Rung (twoA M (e1 - 52)) (twoB (e1 - 52)) r) :
  HexOut r (if rnd4 U = 2 ^ 53 then 2 ^ 52 else rnd4 U) (if rnd4 U = 2 ^ 53 then e1 + k + 3 else e1 + k + 2) ∧ rnd4 U ≤ 2 ^ 53 := by
 rcases h with ⟨h1, h2⟩ | ⟨h1, h2⟩
 ·subst h1 h2
  have h3 : rnd4 0 = 0 := rfl
  have h4 : r = 0 := hr.unique (Or.inl ⟨by unfold twoA; rw [Nat.zero_mul], rfl⟩)
  rw [h3]
  exact ⟨⟨fun _ => by rw [if_neg (by omega), h4], fun h => by rw [if_neg (by omega)] at h; omega⟩, by omega⟩
 ·refine ⟨h2.out h1 hr, ?_⟩
  have := h2.hi
  unfold rnd4
  omega

set_option maxHeartbeats 3200000 in
set_option maxRecDepth 100000 in
theorem hex64 (s : ByteArray) (d : Nat) (e0 : Int) (neg trunc : Bool) (r M : Nat) (w : World) (hd : d < 2 ^ 64) (hM : M = if trunc then d ||| 1 else d) (htr : trunc = true → 2 ^ 60 ≤ d) (he1 : -1000000 ≤ e0) (he2 : e0 ≤ 1000000)
  (hr : Rung (twoA M e0) (twoB e0) r) (hI : InfoAt w) (hF : FormsAt w) :
  Calls Tryz.prog 155 #[.string s, .pointer (some ⟨10, 0, none⟩), .int .u64 (d : Int), .int .i64 e0, .bool neg, .bool trunc] w (FloatRes neg r w) := by
 obtain ⟨i0, i1, i2⟩ := hI
 have hptr := ptr_other hF
 clear hF
 have HM := Lib.hid hM
 have HTR := Lib.hid htr
 have HR := Lib.hid hr
 have HD := Lib.hid hd
 clear hM htr hr hd
 go_enter Tryz.func155, Tryz.ntmps155
 go_wp2_with fail
 go_quiet (fail)
 go_upto_block 0 with fail
 go_cut [2, 3] from 42 to 57 (fun s2 s3 wx => (∃ k : Nat, s2 = .int .u64 (d * 2 ^ k : Nat) ∧ s3 = .int .i64 (e0 + 52 - k) ∧ k ≤ 64 ∧ d * 2 ^ k < 2 ^ 64 ∧ (0 < k → d * 2 ^ k < 2 ^ 55) ∧ (d = 0 ∨ 2 ^ 54 ≤ d * 2 ^ k)) ∧ wx = w.drewN nq)
 case first =>
  go_wp2_with fail
  go_loop [2, 3] (fun v2 v3 => Grow d e0 v2 v3) (fun _ v => (intOf v + 1000 - e0).toNat)
  case atStart => exact ⟨0, by rw [Nat.pow_zero, Nat.mul_one], by simp, by rw [Nat.pow_zero, Nat.mul_one]; exact HD.out, by omega, fun h => absurd h (Nat.lt_irrefl 0)⟩
  case round =>
   obtain ⟨k, rfl, rfl, h1, h2, h3⟩ := hrel
   obtain ⟨m, hm⟩ : ∃ m, m = d * 2 ^ k := ⟨_, rfl⟩
   have HMM := Lib.hid hm
   rw [← hm] at h1 h3 ⊢
   clear hm
   have H3 := Lib.hid h3
   clear h3
   by_cases hz : m = 0
   ·have k1 : ((m : Int) != 0) = false := by simp; omega
    have HZ : Hid (d = 0) := by
     have := HMM.out
     rw [hz] at this
     rcases Nat.mul_eq_zero.1 this.symm with h | h
     ·exact h
     ·exact absurd h (Nat.ne_of_gt (two_pos k))
    have HX : Hid (d * 2 ^ k < 2 ^ 64 ∧ (0 < k → d * 2 ^ k < 2 ^ 55)) := by rw [← HMM.out]; exact ⟨h1, H3.out⟩
    clear hz
    go_wp2_with fail
    go_meet
    case rel => exact ⟨⟨k, by rw [HMM.out], rfl, h2, HX.out.1, HX.out.2, Or.inl HZ.out⟩, rfl⟩
   ·have k1 : ((m : Int) != 0) = true := by simp; omega
    by_cases hs : m < 2 ^ 54
    ·have k2 : (m : Int) / 18014398509481984 = 0 := by omega
     have hk : k < 54 := by
      have h4 : 2 ^ k ≤ m := by
       rw [HMM.out]
       exact Nat.le_mul_of_pos_left _ (Nat.pos_of_ne_zero (fun h => hz (by rw [HMM.out, h, Nat.zero_mul])))
      exact pow_lt_two (Nat.lt_of_le_of_lt h4 hs)
     have HN : Hid (d * 2 ^ (k + 1) = m * 2) := by show _ = _; rw [HMM.out, Nat.pow_succ, Nat.mul_assoc]
     have hm2 : m ≤ 18014398509481983 := by omega
     clear hz hs h1
     go_wp2_with fail
     go_round
     case rel => exact ⟨k + 1, by rw [HN.out]; go_num, by go_num, by rw [HN.out]; omega, by omega, fun _ => by rw [HN.out]; omega⟩
     case measure => simp [intOf]; omega
    ·have k2 : ((m : Int) / 18014398509481984 == 0) = false := beq_eq_false_iff_ne.2 (by omega)
     have HX : Hid (d * 2 ^ k < 2 ^ 64 ∧ (0 < k → d * 2 ^ k < 2 ^ 55) ∧ 2 ^ 54 ≤ d * 2 ^ k) := by rw [← HMM.out]; exact ⟨h1, H3.out, by omega⟩
     clear hz hs
     go_wp2_with fail
     go_meet
     case rel => exact ⟨⟨k, by rw [HMM.out], rfl, h2, HX.out.1, HX.out.2.1, Or.inr HX.out.2.2⟩, rfl⟩
 case rest =>
  obtain ⟨⟨k0, rfl, rfl, hk0, hk1, hk2, hk3⟩, rfl⟩ := hcut
  -- the mantissa from here on
  obtain ⟨M1, hM1⟩ : ∃ M1, M1 = if trunc then d * 2 ^ k0 ||| 1 else d * 2 ^ k0 := ⟨_, rfl⟩
  have hMl : M1 < 2 ^ 64 := by
   rw [hM1]; split
   ·exact Nat.or_lt_two_pow hk1 (by omega)
   ·exact hk1
  have HK0 : Hid (trunc = true → k0 = 0) := fun h => by
   apply Classical.byContradiction
   intro hn
   have h1 := hk2 (by omega)
   have h2 := HTR.out h
   have h3 : d * 1 ≤ d * 2 ^ k0 := Nat.mul_le_mul_left _ (two_pos k0)
   omega
  have HZ1 : Hid (M1 = 0 ∨ 2 ^ 54 ≤ M1) := by
   show _ ∨ _
   rw [hM1]
   cases htc : trunc with
   | true =>
    right
    have h2 := HTR.out htc
    have h3 : d * 1 ≤ d * 2 ^ k0 := Nat.mul_le_mul_left _ (two_pos k0)
    simp only [if_true]
    rw [or_one]
    omega
   | false =>
    simp only [Bool.false_eq_true, if_false]
    rcases hk3 with h | h
    ·left; rw [h, Nat.zero_mul]
    ·exact Or.inr h
  have HR1 : Hid (Rung (twoA M1 (e0 - k0)) (twoB (e0 - k0)) r) := by
   refine HR.out.congr (twoB_pos _) (twoB_pos _) ?_
   unfold twoA twoB
   cases htc : trunc with
   | true =>
    have hk := HK0.out htc
    have e1 : M1 = M := by rw [hM1, HM.out, htc, hk]; simp
    rw [e1, hk, show e0 - ((0 : Nat) : Int) = e0 by omega]
   | false =>
    have e1 : M1 = M * 2 ^ k0 := by rw [hM1, HM.out, htc]; simp
    rw [e1]
    have e2 : M * 2 ^ k0 * 2 ^ (e0 - k0).toNat * 2 ^ (-e0).toNat = M * (2 ^ k0 * 2 ^ (e0 - k0).toNat * 2 ^ (-e0).toNat) := by ac_rfl
    rw [e2, Nat.mul_assoc, ← Nat.pow_add, ← Nat.pow_add, ← Nat.pow_add]
    congr 2
    omega
  have HM1 := Lib.hid hM1
  clear hk2 hk3 hM1
  obtain ⟨m0, hm0⟩ : ∃ m0, m0 = d * 2 ^ k0 := ⟨_, rfl⟩
  have HM0 := Lib.hid hm0
  rw [← hm0] at hk1 ⊢
  clear hm0
  obtain ⟨e1, he1'⟩ : ∃ e1, e1 = e0 + 52 - k0 := ⟨_, rfl⟩
  have HE1 := Lib.hid he1'
  rw [← he1']
  have hb1 : -2000000 ≤ e1 := by omega
  have hb2 : e1 ≤ 2000000 := by omega
  clear he1'
  go_upto_if 58 with fail
  go_cut [2] from 58 to 60 (fun s2 wx => s2 = .int .u64 (M1 : Nat) ∧ wx = w.drewN nq)
  case first =>
   have eO := bits_or_u64 m0 1 hk1 (by omega)
   rw [show ((1 : Nat) : Int) = 1 from rfl] at eO
   have HH : Hid (M1 = if trunc then m0 ||| 1 else m0) := by show _ = _; rw [HM1.out, HM0.out]
   generalize (m0 ||| 1) = mo at *
   cases trunc
   ·go_wp2_with fail
    go_meet
    case rel => exact ⟨by rw [HH.out]; rfl, rfl⟩
   ·go_wp2_with fail
    go_meet
    case rel => exact ⟨by rw [HH.out]; rfl, rfl⟩
  case rest =>
   obtain ⟨rfl, rfl⟩ := hcut
   go_upto_block 2 with fail
   go_cut [2, 3] from 61 to 76 (fun s2 s3 wx => (Cut M1 e1 s2 s3 ∧ ∀ n, s2 = .int .u64 (n : Nat) → n < 2 ^ 55) ∧ wx = w.drewN nq)
   case first =>
    go_wp2_with fail
    go_loop [2, 3] (fun v2 v3 => Cut M1 e1 v2 v3) (fun v _ => (intOf v).toNat)
    case atStart => exact ⟨0, by rw [Nat.pow_zero, unr_one], by simp, by rw [Nat.pow_zero, unr_one]; exact hMl, by omega, by rw [Nat.pow_zero, unr_one]; exact HZ1.out⟩
    case round =>
     obtain ⟨k, rfl, rfl, h1, h2, h3⟩ := hrel
     have hstep := unr_step M1 k
     have hge := unr_half_ge M1 k
     have hle := unr_le M1 k h1
     have H10 : Hid (2 ^ 55 ≤ unr M1 (2 ^ k) → k < 10) := by
      intro hbig
      apply Classical.byContradiction
      intro hn
      have h5 := (unr_ge M1 (2 ^ k) (2 ^ 54) (two_pos k)).1 (by rw [show 2 * 2 ^ 54 = 2 ^ 55 by decide]; exact hbig)
      have h6 : 2 ^ 10 ≤ 2 ^ k := two_mono (by omega)
      have h7 : 2 * 2 ^ 54 * 2 ^ 10 ≤ 2 * 2 ^ 54 * 2 ^ k := Nat.mul_le_mul_left _ h6
      omega
     have HU1 : Hid (unr M1 (2 ^ (k + 1)) = unr M1 (2 ^ k) / 2 ||| unr M1 (2 ^ k) % 2) := hstep
     obtain ⟨U, hU⟩ : ∃ U, U = unr M1 (2 ^ k) := ⟨_, rfl⟩
     rw [← hU] at h1 h3 hge hle H10 HU1 ⊢
     have HUU := Lib.hid hU
     clear hU hstep
     by_cases hs : U < 2 ^ 55
     ·have k1 : (U : Int) / 36028797018963968 = 0 := by omega
      have HX : Hid (unr M1 (2 ^ k) < 2 ^ 64 ∧ (M1 = 0 ∨ 2 ^ 54 ≤ unr M1 (2 ^ k))) := by rw [← HUU.out]; exact ⟨h1, h3⟩
      have HS : Hid (U < 2 ^ 55) := hs
      clear hs h3 hge hle
      go_wp2_with fail
      go_meet
      case rel => exact ⟨⟨⟨k, by rw [HUU.out], rfl, HX.out.1, h2, HX.out.2⟩, fun n hn => by have := HS.out; cases hn; omega⟩, rfl⟩
     ·have k1 : ((U : Int) / 36028797018963968 != 0) = true := by simp; omega
      have hk10 := H10.out (by omega)
      have eA := bits_mask_u64 U 1 2 rfl (by omega) h1
      have eA' : bits .and .u64 (U : Int) 1 = ((U % 2 : Nat) : Int) := eA
      have eO := bits_or_u64 (U / 2) (U % 2) (by omega) (by omega)
      have eH : (U : Int) / 2 = ((U / 2 : Nat) : Int) := by omega
      have HX : Hid (2 ^ 54 ≤ unr M1 (2 ^ (k + 1)) ∧ unr M1 (2 ^ (k + 1)) < U ∧ unr M1 (2 ^ (k + 1)) < 2 ^ 64) := by
       refine ⟨by omega, by omega, by omega⟩
      rw [← HU1.out] at eO
      generalize hU2 : unr M1 (2 ^ (k + 1)) = U2 at *
      have HU2 := Lib.hid hU2
      clear hU2 hge hle
      generalize U % 2 = Ub at *
      generalize U / 2 = Uh at *
      clear eA hs h3
      go_wp2_with fail
      go_round
      case rel => exact ⟨k + 1, by rw [HU2.out], by go_num, by rw [HU2.out]; exact HX.out.2.2, by omega, Or.inr (by rw [HU2.out]; exact HX.out.1)⟩
      case measure => have := HX.out.2.1; simp [intOf]; omega
   case rest =>
    obtain ⟨⟨⟨k1, rfl, rfl, h1, h2, h3⟩, h4⟩, rfl⟩ := hcut
    have h5 := h4 _ rfl
    clear h4
    have HB3 : Hid (CutB M1 e1 k1 (.int .u64 (unr M1 (2 ^ k1) : Nat)) (.int .i64 (e1 + k1))) := ⟨k1, rfl, rfl, h5, Nat.le_refl _, by omega, by rcases h3 with h | h; (· exact Or.inl h); (· exact Or.inr (Or.inl ⟨h, rfl⟩))⟩
    clear h3 h1 h5
    go_upto_block 4 with fail
    go_cut [2, 3] from 77 to 91 (fun s2 s3 wx => (∃ (k U : Nat), s2 = .int .u64 (U : Nat) ∧ s3 = .int .i64 (e1 + k) ∧ U < 2 ^ 55 ∧ e1 + k ≤ 3000000 ∧ Ready M1 e1 k U) ∧ wx = w.drewN nq)
    case first =>
     go_wp2_with fail
     go_loop [2, 3] (fun v2 v3 => CutB M1 e1 k1 v2 v3) (fun v _ => (intOf v).toNat)
     case atStart => exact HB3.out
     case round =>
      obtain ⟨k, rfl, rfl, q1, q2, q3, q4⟩ := hrel
      have HU1 : Hid (unr M1 (2 ^ (k + 1)) = unr M1 (2 ^ k) / 2 ||| unr M1 (2 ^ k) % 2) := unr_step M1 k
      have HRD : Hid (unr M1 (2 ^ k) ≤ 1 ∨ -1024 ≤ e1 + k → Ready M1 e1 k (unr M1 (2 ^ k))) := fun h => ready_of q1 q4 h
      obtain ⟨U, hU⟩ : ∃ U, U = unr M1 (2 ^ k) := ⟨_, rfl⟩
      rw [← hU] at q1 q4 HRD HU1 ⊢
      have HUU := Lib.hid hU
      clear hU q4
      by_cases hs : 1 < U
      ·have k2 : decide ((1 : Int) < (U : Int)) = true := decide_eq_true (by omega)
       by_cases he : e1 + k < -1024
       ·have k3 : decide (e1 + (k : Int) < -1024) = true := decide_eq_true he
        have eA := bits_mask_u64 U 1 2 rfl (by omega) (by omega)
        have eA' : bits .and .u64 (U : Int) 1 = ((U % 2 : Nat) : Int) := eA
        have eO := bits_or_u64 (U / 2) (U % 2) (by omega) (by omega)
        have eH : (U : Int) / 2 = ((U / 2 : Nat) : Int) := by omega
        have HX : Hid (unr M1 (2 ^ (k + 1)) < U ∧ unr M1 (2 ^ (k + 1)) < 2 ^ 55) := by
         have := sticky_less hs
         rw [← HU1.out] at this
         exact ⟨this, by omega⟩
        rw [← HU1.out] at eO
        generalize hU2 : unr M1 (2 ^ (k + 1)) = U2 at *
        have HU2 := Lib.hid hU2
        clear hU2
        generalize U % 2 = Ub at *
        generalize U / 2 = Uh at *
        have hs1 : 1 < U := hs
        clear eA hs
        have hkb : e1 + (k : Int) ≤ -1025 := by omega
        go_wp2_with fail
        go_round
        case rel => exact ⟨k + 1, by rw [HU2.out], by go_num, by rw [HU2.out]; exact HX.out.2, by omega, by omega, Or.inr (Or.inr (by omega))⟩
        case measure => have := HX.out.1; simp [intOf]; omega
       ·have k3 : decide (e1 + (k : Int) < -1024) = false := decide_eq_false he
        have HX := Lib.hid (HRD.out (Or.inr (by omega)))
        have HQ := Lib.hid q1
        clear he hs q1
        go_wp2_with fail
        go_meet
        case rel => exact ⟨⟨k, U, rfl, rfl, HQ.out, q3, HX.out⟩, rfl⟩
      ·have k2 : decide ((1 : Int) < (U : Int)) = false := decide_eq_false (by omega)
       have HX := Lib.hid (HRD.out (Or.inl (by omega)))
       have HQ := Lib.hid q1
       clear hs q1
       go_wp2_with fail
       go_meet
       case rel => exact ⟨⟨k, U, rfl, rfl, HQ.out, q3, HX.out⟩, rfl⟩
    case rest =>
     obtain ⟨⟨k, U, rfl, rfl, q1, q2, hrd⟩, rfl⟩ := hcut
     have hHR : Hid (Rung (twoA M1 (e1 - 52)) (twoB (e1 - 52)) r) := by
      show Rung _ _ _
      rw [show e1 - 52 = e0 - k0 by have := HE1.out; omega]
      exact HR1.out
     obtain ⟨hout, hle53⟩ := hrd.out hHR.out
     have hor := rnd4_or U
     obtain ⟨n, hn⟩ : ∃ n, n = rnd4 U := ⟨_, rfl⟩
     rw [← hn] at hout hle53 hor
     have HN := Lib.hid hn
     have hkl : -2000000 ≤ e1 + k := by omega
     obtain ⟨m', hm'⟩ : ∃ m', m' = if n = 2 ^ 53 then 2 ^ 52 else n := ⟨_, rfl⟩
     obtain ⟨e', he'⟩ : ∃ e', e' = if n = 2 ^ 53 then e1 + k + 3 else e1 + k + 2 := ⟨_, rfl⟩
     rw [← hm', ← he'] at hout
     have HMP := Lib.hid hm'
     have HEP := Lib.hid he'
     have HOUT := Lib.hid hout
     have HOR := Lib.hid hor
     clear hm' he' hout hor hn hrd
     have eA3 := bits_mask_u64 U 2 4 rfl (by omega) (by omega)
     have eA3' : bits .and .u64 (U : Int) 3 = ((U % 4 : Nat) : Int) := eA3
     have eQ : (U : Int) / 4 = ((U / 4 : Nat) : Int) := by omega
     have eA1 := bits_mask_u64 (U / 4) 1 2 rfl (by omega) (by omega)
     have eA1' : bits .and .u64 ((U / 4 : Nat) : Int) 1 = ((U / 4 % 2 : Nat) : Int) := eA1
     have eOr := bits_or_u64 (U % 4) (U / 4 % 2) (by omega) (by omega)
     have hQ4 : U / 4 ≤ 9007199254740992 := by omega
     have hLT : Hid (m' < 2 ^ 53 ∧ 0 ≤ m') := by
      show _ ∧ _
      rw [HMP.out]
      split <;> omega
     generalize (U % 4 ||| U / 4 % 2) = Uo at *
     generalize U / 4 % 2 = Ub at *
     generalize U % 4 = Uj at *
     generalize U / 4 = Uq at *
     clear eA3 eA1
     go_upto_if 103 with fail
     go_cut [2, 3] from 103 to 117 (fun s2 s3 wx => s2 = .int .u64 (m' : Nat) ∧ s3 = .int .i64 e' ∧ wx = w.drewN nq)
     case first =>
      by_cases h3 : Uo = 3
      ·have k2 : ((Uo : Int) == 3) = true := beq_iff_eq.2 (by omega)
       have hn1 : Hid (n = Uq + 1) := by have := HOR.out; rw [if_pos h3] at this; exact this
       by_cases h53 : Uq + 1 = 2 ^ 53
       ·have k3 : ((Uq : Int) + 1 == 9007199254740992) = true := beq_iff_eq.2 (by omega)
        have hv : Hid (m' = 4503599627370496 ∧ e' = e1 + k + 3) := by
         have h1 := HMP.out
         have h2 := HEP.out
         rw [hn1.out, if_pos h53] at h1 h2
         exact ⟨h1, h2⟩
        have eH2 : ((Uq : Int) + 1) / 2 = 4503599627370496 := by omega
        clear h3 h53
        go_wp2_with fail
        go_meet
        case rel => exact ⟨by rw [hv.out.1]; rfl, by rw [hv.out.2]; go_num, rfl⟩
       ·have k3 : ((Uq : Int) + 1 == 9007199254740992) = false := beq_eq_false_iff_ne.2 (by omega)
        have hv : Hid (m' = Uq + 1 ∧ e' = e1 + k + 2) := by
         have h1 := HMP.out
         have h2 := HEP.out
         rw [hn1.out, if_neg h53] at h1 h2
         exact ⟨h1, h2⟩
        clear h3 h53
        go_wp2_with fail
        go_meet
        case rel => exact ⟨by rw [hv.out.1]; go_num, by rw [hv.out.2], rfl⟩
      ·have k2 : ((Uo : Int) == 3) = false := beq_eq_false_iff_ne.2 (by omega)
       have hn1 : Hid (n = Uq) := by have := HOR.out; rw [if_neg h3] at this; exact this
       have hv : Hid (m' = Uq ∧ e' = e1 + k + 2) := by
        have h1 := HMP.out
        have h2 := HEP.out
        have h4 : n ≠ 2 ^ 53 := by
         have := hn1.out
         have := HN.out
         unfold rnd4 at this
         omega
        rw [if_neg h4] at h1 h2
        exact ⟨by rw [h1, hn1.out], h2⟩
       clear h3
       go_wp2_with fail
       go_meet
       case rel => exact ⟨by rw [hv.out.1], by rw [hv.out.2], rfl⟩
     case rest =>
      obtain ⟨rfl, rfl, rfl⟩ := hcut
      have hm53 : m' ≤ 9007199254740991 := by have := hLT.out; omega
      have hef1 : -3000000 ≤ e' := by rw [HEP.out]; split <;> omega
      have hef2 : e' ≤ 4000000 := by rw [HEP.out]; split <;> omega
      have hsg := sgn_lt neg
      clear h2 hkl hb1 hb2 hle53
      by_cases h52 : m' < 2 ^ 52
      ·have hrm : r = m' := HOUT.out.small h52
       have t1 : (m' : Int) / 4503599627370496 = 0 := by omega
       have t2 := bits_low' m' h52
       have t3 : bits .and .i64 (0 : Int) 2047 = 0 := by decide
       have t4 : bits .or .u64 (m' : Int) 0 = (m' : Int) := by
        have := bits_joined m' 0 h52 (by omega)
        rw [Nat.zero_mul, Nat.zero_add] at this
        exact this
       have t5 := bits_or_u64 m' 9223372036854775808 (by omega) (by omega)
       have t6 : m' ||| 9223372036854775808 = sgv true + m' := by rw [Nat.or_comm]; exact join_sign true m' (by omega)
       rw [t6] at t5
       have t5' : bits .or .u64 (m' : Int) 9223372036854775808 = ((sgv true + m' : Nat) : Int) := t5
       have HV : Hid (∀ b, sgv b + cutRung r = sgv b + m' ∧ overRung r = false) := fun b => by
        rw [hrm]
        exact ⟨by unfold cutRung; rw [if_neg (by omega)], decide_eq_false (by omega)⟩
       have HV0 : Hid (sgv false + m' = m') := by show _ = _; unfold sgv; simp
       generalize hVt : sgv true + m' = Vt at *
       have HVt := Lib.hid hVt.symm
       clear t5 t6 h52 hrm hVt
       cases neg
       ·go_wp2_with fail
        go_quiet (fail)
        go_wp2_with fail
        rw [call163, Oper.upon_value]
        go_wp2_with fail
        go_ret2
        exact ⟨by rw [(HV.out false).1, (HV.out false).2, HV0.out]; rfl, below_drewN (Below.refl _ _) _⟩
       ·go_wp2_with fail
        go_quiet (fail)
        go_wp2_with fail
        go_quiet (fail)
        go_wp2_with fail
        rw [call163, Oper.upon_value]
        go_wp2_with fail
        go_ret2
        exact ⟨by rw [(HV.out true).1, (HV.out true).2, ← HVt.out]; rfl, below_drewN (Below.refl _ _) _⟩
      ·obtain ⟨n1, n2, n3⟩ := HOUT.out.norm (by omega)
       obtain ⟨c, hc⟩ : ∃ c : Nat, (c : Int) = e' + 1022 := ⟨(e' + 1022).toNat, by omega⟩
       have hrm := n3 c hc
       have t1 : ((m' : Int) / 4503599627370496 == 0) = false := beq_eq_false_iff_ne.2 (by omega)
       by_cases hov : 1023 < e'
       ·have HV : Hid (∀ b, sgv b + cutRung r = sgv b + 9218868437227405312 ∧ overRung r = true) := fun b => by
         exact ⟨by unfold cutRung; rw [if_pos (by omega)], decide_eq_true (by omega)⟩
        have HV0 : Hid (sgv false + 9218868437227405312 = 9218868437227405312) := rfl
        have HVt : Hid (sgv true + 9218868437227405312 = 18442240474082181120) := rfl
        have t2 : decide (1023 < e') = true := decide_eq_true hov
        have t3 : bits .and .u64 4503599627370496 4503599627370495 = 0 := by decide
        have t4 : bits .and .i64 2047 2047 = 2047 := by decide
        have t5 : bits .or .u64 0 9218868437227405312 = 9218868437227405312 := by decide
        have t6 : bits .or .u64 9218868437227405312 9223372036854775808 = 18442240474082181120 := by decide
        clear n3 hrm hc h52
        cases neg
        ·go_wp2_with fail
         go_quiet (fail)
         go_wp2_with fail
         rw [call163, Oper.upon_value]
         go_wp2_with fail
         go_ret2
         exact ⟨by rw [(HV.out false).1, (HV.out false).2, HV0.out]; rfl, below_drewN (Below.refl _ _) _⟩
        ·go_wp2_with fail
         go_quiet (fail)
         go_wp2_with fail
         go_quiet (fail)
         go_wp2_with fail
         rw [call163, Oper.upon_value]
         go_wp2_with fail
         go_ret2
         exact ⟨by rw [(HV.out true).1, (HV.out true).2, HVt.out]; rfl, below_drewN (Below.refl _ _) _⟩
       ·obtain ⟨F, hF⟩ : ∃ F, F = (c + 1) * 2 ^ 52 := ⟨_, rfl⟩
        obtain ⟨L, hL⟩ : ∃ L, L = m' - 2 ^ 52 := ⟨_, rfl⟩
        have hFb : F ≤ 9218868437227405311 := by omega
        have hLb : L ≤ 4503599627370495 := by omega
        have t2 : decide (1023 < e') = false := decide_eq_false hov
        have t3 := bits_low m' (by omega) n1
        rw [← hL] at t3
        have t4 : bits .and .i64 (e' + 1023) 2047 = e' + 1023 := by
         have := bits_mask .i64 63 (by decide) (fun n h1 h2 => by rw [IntKind.wrap_i64]; omega) 11 (by omega) (e' + 1023) (by omega) (by omega)
         rw [show (2 : Int) ^ 11 - 1 = 2047 by decide, show (2 : Int) ^ 11 = 2048 by decide] at this
         omega
        have eF : (e' + 1023) * 4503599627370496 = (F : Int) := by rw [hF]; omega
        have t5 : bits .or .u64 (L : Int) (F : Int) = ((F + L : Nat) : Int) := by
         have := bits_joined L (c + 1) (by omega) (by omega)
         rw [← hF] at this
         exact this
        have HV : Hid (∀ b, sgv b + cutRung r = sgv b + (F + L) ∧ overRung r = false) := fun b => by
         have h1 : r = F + L := by omega
         rw [h1]
         exact ⟨by unfold cutRung; rw [if_neg (by omega)], decide_eq_false (by omega)⟩
        have t6 := bits_or_u64 (F + L) 9223372036854775808 (by omega) (by omega)
        have t7 : (F + L) ||| 9223372036854775808 = sgv true + (F + L) := by rw [Nat.or_comm]; exact join_sign true (F + L) (by omega)
        rw [t7] at t6
        have t6' : bits .or .u64 ((F + L : Nat) : Int) 9223372036854775808 = ((sgv true + (F + L) : Nat) : Int) := t6
        have HV0 : Hid (sgv false + (F + L) = F + L) := by show _ = _; unfold sgv; simp
        generalize hVt : sgv true + (F + L) = Vt at *
        have HVt := Lib.hid hVt
        generalize hFL : F + L = V at *
        clear t6 t7 hVt hFL
        have he0 : (0 : Int) ≤ e' + 1023 := by omega
        have he20 : e' ≤ 1023 := by omega
        have he21 : -1022 ≤ e' := n2
        clear n3 hrm hc h52 hF hL hov
        cases neg
        ·go_wp2_with fail
         go_quiet (fail)
         go_wp2_with fail
         rw [call163, Oper.upon_value]
         go_wp2_with fail
         go_ret2
         exact ⟨by rw [(HV.out false).1, (HV.out false).2, HV0.out]; rfl, below_drewN (Below.refl _ _) _⟩
        ·go_wp2_with fail
         go_quiet (fail)
         go_wp2_with fail
         go_quiet (fail)
         go_wp2_with fail
         rw [call163, Oper.upon_value]
         go_wp2_with fail
         go_ret2
         exact ⟨by rw [(HV.out true).1, (HV.out true).2, HVt.out]; rfl, below_drewN (Below.refl _ _) _⟩

end Go.Proofs.YtgolhmiocjpohaaGreatDoor
