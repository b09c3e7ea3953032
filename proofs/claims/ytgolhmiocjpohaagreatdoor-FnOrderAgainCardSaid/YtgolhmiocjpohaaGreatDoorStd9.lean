/- Go's ParseFloat (59) reads a whole number of at most fifteen digits as the float that it is. No condition beyond that on the text, and what the walks read of the library's variables. -/
import Derived.Test.YtgolhmiocjpohaaGreatDoorStd8
set_option linter.unusedVariables false
set_option linter.unusedSimpArgs false
namespace Go.Proofs.YtgolhmiocjpohaaGreatDoor
open Go.RowKit Go.PlainAid

theorem nearest_nat (n : Nat) : FloatKind.f64.nearest (n : Int) = fBits false n := by
  have h : decide ((n : Int) < 0) = false := decide_eq_false (by omega)
  show Ieee.Format.nearest Ieee.double (decide ((n : Int) < 0)) ((n : Int).natAbs) 0 = _
  rw [h]
  rfl

theorem xor_sign {b : Nat} (h : b < 2 ^ 63) : b ^^^ 2 ^ 63 = 2 ^ 63 + b := by
  have h2 : 2 ^ 63 + b = 2 ^ 63 ||| b := by
    have := Nat.two_pow_add_eq_or_of_lt h 1
    rwa [Nat.mul_one] at this
  rw [h2]
  apply Nat.eq_of_testBit_eq
  intro j
  rw [Nat.testBit_xor, Nat.testBit_or, Nat.testBit_two_pow]
  by_cases hj : 63 = j
  · subst hj
    rw [Nat.testBit_lt_two_pow h]
    simp
  · simp [hj]

theorem neg_fBits {n : Nat} (h : n < 2 ^ 53) : Op.negFloat .f64 (fBits false n) = fBits true n := by
  rw [fBits_eq false h, fBits_eq true h]
  show (((if false = true then 2 ^ 63 else 0) + fRung n) ^^^ 2 ^ 63) = _
  rw [if_neg (by simp), if_pos rfl, Nat.zero_add, xor_sign (fRung_lt h)]

set_option maxHeartbeats 400000 in
theorem std_bool2 (b : Bool) (w : World) : Calls Tryz.prog 162 #[.bool b] w fun e w' => e = .returned (.int .u64 (if b then 1 else 0)) ∧ w' = w := by
  cases b with
  | true =>
    go_enter Tryz.func162, Tryz.ntmps162
    go_wp2
    go_ret
    exact ⟨rfl, rfl⟩
  | false =>
    go_enter Tryz.func162, Tryz.ntmps162
    go_wp2
    go_ret
    exact ⟨rfl, rfl⟩

set_option maxHeartbeats 1600000 in
set_option maxRecDepth 100000 in
theorem std_exact (n : Nat) (neg : Bool) (w : World) (h : n < 10 ^ 15) (hg : Glob w) :
    Calls Tryz.prog 164 #[.int .u64 (n : Int), .int .i64 0, .bool neg] w fun e w' => e = .returned (.tuple #[.float .f64 (fBits neg n), .bool true]) ∧ w' = w := by
  have hmb := hg.mb
  have hq : (n : Int) / 4503599627370496 = 0 := by omega
  have hn : floatOfInt .f64 (n : Int) = fBits false n := nearest_nat n
  have hneg : Op.unary .neg (.float .f64 (fBits false n)) = pure (.float .f64 (fBits true n)) := by
    show pure (Value.float .f64 (Op.negFloat .f64 (fBits false n))) = _
    rw [neg_fBits (by omega)]
  clear hg h
  cases neg with
  | true =>
    go_enter Tryz.func164, Tryz.ntmps164
    go_wp2
    go_ret2
    exact ⟨rfl, rfl⟩
  | false =>
    go_enter Tryz.func164, Tryz.ntmps164
    go_wp2
    go_ret2
    exact ⟨rfl, rfl⟩

/-- A post of atof64 on a whole number. -/
def AtofWhole (s : ByteArray) (w : World) (e : Ending) (w' : World) : Prop :=
  e = .returned (.tuple #[.float .f64 (fBits (negP s) (worth (bodyOf s))), .int .i64 (s.size : Nat), .nilIface]) ∧ Below w.heap.size w w'

set_option maxHeartbeats 1600000 in
set_option maxRecDepth 100000 in
theorem std_atof_whole (s : ByteArray) (w : World) (h : WholeP s) (hg : Glob w) : Calls Tryz.prog 131 #[.string s] w (AtofWhole s w) := by
  have K1 := Lib.hid (std_special_whole s w h)
  have hN := worth_lt h.body
  have KR := Lib.hid (fun w => std_read_whole s w h)
  have hG := Lib.hid (fun w' (hb : Below w.heap.size w w') => hg.below hb)
  obtain ⟨n, hn⟩ : ∃ n, n = worth (bodyOf s) := ⟨_, rfl⟩
  unfold ReadWhole at KR
  unfold AtofWhole
  rw [← hn] at hN KR ⊢
  have KE := Lib.hid (fun w' neg (hb : Below w.heap.size w w') => std_exact n neg w' hN (hg.below hb))
  have hz : Hid (n = 0 → ∀ neg, fBits neg 0 = if neg then 9223372036854775808 else 0) := fun _ neg => by rw [fBits_eq neg (by omega)]; cases neg <;> rfl
  clear h hg hn
  cases hneg : negP s
  all_goals
    rw [hneg] at KR
    clear hneg
    by_cases h0 : n = 0
    · have hf := hz.out h0
      subst h0
      have hf1 := hf true
      have hf2 := hf false
      clear hf
      go_enter Tryz.func131, Tryz.ntmps131
      go_wp2_with (first
        | (go_at_call 153; (with_reducible refine K1.out.mono ?_); rintro e w1 ⟨⟨x, nn, rfl⟩, hb1⟩; have HB := Lib.hid hb1; have hop := (hG.out _ hb1).op; clear hb1)
        | (go_at_call 154; (with_reducible refine (KR.out _).mono ?_); rintro e w2 ⟨rfl, rfl⟩)
        | (go_at_call 162; (with_reducible refine (std_bool2 _ _).mono ?_); rintro e w2 ⟨rfl, rfl⟩))
      rw [call163, Oper.upon_value]
      go_wp2_with fail
      go_ret3
      refine ⟨?_, HB.out⟩
      first
        | (rw [hf1]; rfl)
        | (rw [hf2]; rfl)
    · have dn : ((n : Int) == 0) = false := beq_eq_false_iff_ne.2 (by omega)
      clear hz h0
      go_enter Tryz.func131, Tryz.ntmps131
      go_wp2_with (first
        | (go_at_call 153; (with_reducible refine K1.out.mono ?_); rintro e w1 ⟨⟨x, nn, rfl⟩, hb1⟩; have HB := Lib.hid hb1; have hop := (hG.out _ hb1).op; clear hb1)
        | (go_at_call 154; (with_reducible refine (KR.out _).mono ?_); rintro e w2 ⟨rfl, rfl⟩)
        | (go_at_call 162; (with_reducible refine (std_bool2 _ _).mono ?_); rintro e w2 ⟨rfl, rfl⟩)
        | (go_at_call 164; (with_reducible refine (KE.out _ _ HB.out).mono ?_); rintro e w2 ⟨rfl, rfl⟩))
      go_ret3
      exact ⟨rfl, HB.out⟩

set_option maxHeartbeats 1600000 in
set_option maxRecDepth 100000 in
theorem std_whole (s : ByteArray) (w : World) (h : WholeP s) (hg : Glob w) : Calls Tryz.prog 59 #[.string s, .int .i64 64] w (NumIs (numOf s) w) := by
  rw [numOf_whole h]
  have hs : s.size ≤ 16 := by
    have h1 := h.parts.size
    have h2 := h.body.2.1
    have h3 : (if negP s = true then 1 else 0) ≤ 1 := by split <;> omega
    omega
  have K1 := Lib.hid (fun w (hg : Glob w) => std_atof_whole s w h hg)
  unfold AtofWhole at K1
  generalize fBits (negP s) (worth (bodyOf s)) = x at *
  clear h
  have K93 : Hid (∀ w, Glob w → Calls Tryz.prog 93 #[.string s, .int .i64 64] w fun e w' => e = .returned (.tuple #[.float .f64 x, .int .i64 (s.size : Nat), .nilIface]) ∧ Below w.heap.size w w') := by
    intro w hg
    go_enter Tryz.func93, Tryz.ntmps93
    go_wp2_with (go_at_call 131; (with_reducible refine (K1.out _ hg).mono ?_); rintro e w1 ⟨rfl, hv⟩; have HV := Lib.hid hv; clear hv)
    go_ret3
    exact ⟨rfl, HV.out⟩
  have K74 : Hid (∀ w, Glob w → Calls Tryz.prog 74 #[.string s, .int .i64 64] w fun e w' => e = .returned (.tuple #[.float .f64 x, .nilIface]) ∧ Below w.heap.size w w') := by
    intro w hg
    go_enter Tryz.func74, Tryz.ntmps74
    go_wp2_with (go_at_call 93; (with_reducible refine (K93.out _ hg).mono ?_); rintro e w1 ⟨rfl, hv⟩; have HV := Lib.hid hv; clear hv)
    go_ret2
    exact ⟨rfl, HV.out⟩
  go_enter Tryz.func59, Tryz.ntmps59
  go_wp2_with (go_at_call 74; (with_reducible refine (K74.out _ hg).mono ?_); rintro e w1 ⟨rfl, hv⟩; have HV := Lib.hid hv; clear hv)
  go_ret2
  exact ⟨rfl, HV.out⟩

end Go.Proofs.YtgolhmiocjpohaaGreatDoor
