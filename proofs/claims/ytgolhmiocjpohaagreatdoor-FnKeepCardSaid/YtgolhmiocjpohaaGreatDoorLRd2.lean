/- The light reading of a hexadecimal number's text (145), walked. No condition beyond the text's length. -/
import Derived.Deep.CutBlock
import Derived.Deep.LoopGhost
import Derived.Test.YtgolhmiocjpohaaGreatDoorLRd1
import Derived.Test.YtgolhmiocjpohaaGreatDoorND1
set_option linter.unusedVariables false
set_option linter.unusedSimpArgs false
namespace Go.Proofs.YtgolhmiocjpohaaGreatDoor
open Go.RowKit Go.PlainAid

/-- The mantissa of hexadecimal digits as the light reading keeps it. -/
def hexMs (ds : List Nat) : Nat := if truncOf true ds then mantOf true ds ||| 1 else mantOf true ds
/-- Its exponent, ahead of the text's own. -/
def hexX (st : Sc) : Int := 4 * st.dp - 4 * (min st.ds.length 16 : Nat)

theorem hexMs_nil : hexMs [] = 0 := by unfold hexMs; rw [truncOf_nil, mantOf_nil]; rfl

theorem or_one_two (m : Nat) : (m ||| 1) ||| 1 = m ||| 1 := by rw [Nat.or_assoc]; rfl
theorem or_lo (m d : Nat) (h : d < 16) : m * 16 ||| d = m * 16 + d := by
 have := Nat.two_pow_add_eq_or_of_lt (i := 4) (b := d) (by omega) m
 rw [show 2 ^ 4 * m = m * 16 by omega] at this
 exact this.symm

theorem trunc_short {ds : List Nat} (h : ds.length ≤ 16) : truncOf true ds = false := by
 unfold truncOf
 rw [List.drop_of_length_le (by unfold cap; simpa using h)]
 rfl

theorem hexMs_short {ds : List Nat} (h : ds.length ≤ 16) : hexMs ds = mantOf true ds := by unfold hexMs; rw [trunc_short h]; rfl

theorem hexMs_kept {ds : List Nat} {d : Nat} (h : ds.length < 16) : hexMs (ds ++ [d]) = hexMs ds * 16 + d := by
 rw [hexMs_short (by simp; omega), hexMs_short (by omega), mantOf_kept (by unfold cap; simpa using h)]
 rfl

theorem hexMs_left {ds : List Nat} {d : Nat} (h : 16 ≤ ds.length) : hexMs (ds ++ [d]) = if d = 0 then hexMs ds else hexMs ds ||| 1 := by
 unfold hexMs
 rw [truncOf_left (by unfold cap; simpa using h), mantOf_left (by unfold cap; simpa using h)]
 by_cases hd : d = 0
 ·rw [if_pos hd, hd]
  simp
 ·rw [if_neg hd]
  have : (d != 0) = true := by simp [hd]
  rw [this, Bool.or_true, if_pos rfl]
  split
  ·exact (or_one_two _).symm
  ·rfl

theorem add_hex_short {st : Sc} {d : Nat} (h : st.ds.length < 16) : hexMs (addD st d).ds = hexMs st.ds * 16 + d ∧ hexX (addD st d) = hexX st - (if st.dot then 4 else 0) := by
 by_cases hz : st.ds.length = 0 ∧ d = 0
 ·obtain ⟨h0, rfl⟩ := hz
  rw [addD_skip h0]
  have e : st.ds = [] := List.eq_nil_of_length_eq_zero h0
  refine ⟨by simp only [e, hexMs_nil], ?_⟩
  unfold hexX
  simp only
  split <;> omega
 ·rw [addD_more hz]
  refine ⟨hexMs_kept h, ?_⟩
  unfold hexX
  simp only [List.length_append, List.length_singleton]
  split <;> omega

theorem add_hex_long {st : Sc} {d : Nat} (h : 16 ≤ st.ds.length) : hexMs (addD st d).ds = (if d = 0 then hexMs st.ds else hexMs st.ds ||| 1) ∧ hexX (addD st d) = hexX st + (if st.dot then 0 else 4) := by
 rw [addD_more (by omega)]
 refine ⟨hexMs_left h, ?_⟩
 unfold hexX
 simp only [List.length_append, List.length_singleton]
 split <;> omega

theorem addD_marks (st : Sc) (d : Nat) : (addD st d).sm = true ∧ (addD st d).dot = st.dot := by
 unfold addD
 split <;> exact ⟨rfl, rfl⟩

theorem wnat_base (b : Nat) : ∀ (l : List Nat) (a : Nat), a * b ^ l.length ≤ l.foldl (fun a d => a * b + d) a := by
 intro l
 induction l with
 | nil => intro a; simp
 | cons x l ih =>
  intro a
  have h1 := ih (a * b + x)
  have h2 : a * b * b ^ l.length ≤ (a * b + x) * b ^ l.length := Nat.mul_le_mul_right _ (by omega)
  rw [List.length_cons, List.foldl_cons, Nat.pow_succ, Nat.mul_comm (b ^ l.length), ← Nat.mul_assoc]
  omega

theorem hex_lo {st : Sc} (h : ScOk true st) (hl : 16 ≤ st.ds.length) : 2 ^ 60 ≤ mantOf true st.ds := by
 cases hd : st.ds with
 | nil => rw [hd] at hl; simp at hl
 | cons x t =>
  have hx : x ≠ 0 := by
   rcases h.first with e | e
   ·rw [hd] at e; simp at e
   ·rw [hd] at e; exact e
  rw [hd] at hl
  have h1 := wnat_base 16 (t.take 15) x
  have h2 : (t.take 15).length = 15 := by simp at hl ⊢; omega
  rw [h2] at h1
  have h3 : mantOf true (x :: t) = (t.take 15).foldl (fun a d => a * 16 + d) x := by
   show wnat 16 ((x :: t).take 16) = _
   rw [List.take_succ_cons]
   unfold wnat
   rw [List.foldl_cons, Nat.zero_mul, Nat.zero_add]
  have h4 : 1 * 16 ^ 15 ≤ x * 16 ^ 15 := Nat.mul_le_mul_right _ (by omega)
  rw [h3]
  omega

theorem hexMs_lt {st : Sc} (h : ScOk true st) : hexMs st.ds < 18446744073709551616 ∧ (st.ds.length < 16 → hexMs st.ds < 1152921504606846976) ∧ (16 ≤ st.ds.length → 1152921504606846976 ≤ hexMs st.ds) := by
 have h1 := (mantOf_lt h.digits).1
 refine ⟨?_, fun hl => ?_, fun hl => ?_⟩
 ·unfold hexMs
  split
  ·have := Nat.or_lt_two_pow (n := 64) h1 (show 1 < 2 ^ 64 by omega)
   omega
  ·omega
 ·rw [hexMs_short (by omega)]
  have := mantOf_room h (by unfold cap; simpa using hl)
  simp only [if_true] at this
  omega
 ·have h2 : 2 ^ 60 ≤ mantOf true st.ds := hex_lo h hl
  unfold hexMs
  split
  ·have : mantOf true st.ds ≤ mantOf true st.ds ||| 1 := Nat.left_le_or
   omega
  ·omega

/-- What the decimal of a hexadecimal number's text is. -/
def FitHex (st : Sc) (ex : Int) (es : List Nat) (ep : Int) : Prop :=
 (es = [] ∧ (hexMs st.ds = 0 ∨ hexX st + ex < -1300)) ∨
  (Canon es ∧ 0 < hexMs st.ds ∧ -1300 ≤ hexX st + ex ∧ Same es ep (hexMs st.ds * 2 ^ (min (hexX st + ex) 1100).toNat) (2 ^ (-(min (hexX st + ex) 1100)).toNat))

/-- How the loop over a hexadecimal number's digits stands. -/
def LoopX (u : ByteArray) (v7 v8 v9 v10 v11 : Value) : Prop :=
 ∃ (j : Nat) (st : Sc), v7 = .int .u64 (hexMs st.ds : Nat) ∧ v8 = .bool st.sm ∧ v9 = .bool st.dot ∧ v10 = .int .i64 (hexX st) ∧ v11 = .int .i64 (j : Nat) ∧ j ≤ u.size ∧ ScOk true st ∧ scanAt true u j st = scanAt true u 0 sc0 ∧ st.ds.length ≤ j ∧ -(j : Int) ≤ st.dp
/-- The like, behind it. -/
def OutX (u : ByteArray) (v7 v8 v9 v10 v11 : Value) : Prop :=
 ∃ (j : Nat) (st : Sc), v7 = .int .u64 (hexMs st.ds : Nat) ∧ v8 = .bool st.sm ∧ v9 = .bool st.dot ∧ v10 = .int .i64 (hexX st) ∧ v11 = .int .i64 (j : Nat) ∧ j ≤ u.size ∧ ScOk true st ∧ scanAt true u 0 sc0 = (j, st) ∧ st.ds.length ≤ j ∧ -(j : Int) ≤ st.dp

theorem len_addD (st : Sc) (d : Nat) : (addD st d).ds.length ≤ st.ds.length + 1 ∧ st.dp - 1 ≤ (addD st d).dp := by
 unfold addD
 split
 ·simp only; split <;> omega
 ·simp only [List.length_append, List.length_singleton]; split <;> omega

theorem DecAt.wider {w : World} {base base' b : Nat} {ds : List Nat} {dp : Int} (h : DecAt w base b ds dp) (hb : base' ≤ base) : DecAt w base' b ds dp := by
 obtain ⟨v, h1, h2⟩ := h.obj
 refine ⟨Nat.le_trans hb h.lo, v, h1, ?_⟩
 rcases h2 with h2 | ⟨g, cap, e1, e2, e3, e4, e5, e6⟩
 ·exact Or.inl h2
 ·exact Or.inr ⟨g, cap, e1, e2, Nat.le_trans hb e3, e4, e5, e6⟩

/-- The new decimal zero. -/
theorem dec_nil (w5 : World) {base : Nat} (hb : base ≤ w5.heap.size) : DecAt (w5.alloc (.cells #[.slice none 0 0, .int .i64 0] 265)) base w5.heap.size [] 0 :=
 ⟨hb, _, heap_alloc_new w5 _, Or.inl ⟨rfl, rfl⟩⟩

/-- The point stands within the sizes of the value. -/
theorem ep_within {es : List Nat} {ep : Int} {A B K : Nat} (h : Same es ep A B) (hc : Canon es) (hA : 0 < A) (hB : 0 < B) (hA2 : A ≤ 10 ^ K) (hB2 : B ≤ 10 ^ K) : -(K : Int) ≤ ep ∧ ep ≤ K + 1 := by
 constructor
 ·apply Classical.byContradiction
  intro hlt
  obtain ⟨m, hm⟩ : ∃ m : Nat, ep = (0 : Nat) - (m : Int) := ⟨(-ep).toNat, by omega⟩
  have h1 := h.lt hc.digits hB hm
  rw [Nat.pow_zero, Nat.one_mul] at h1
  have h2 : 1 * 10 ^ m ≤ A * 10 ^ m := Nat.mul_le_mul_right _ hA
  have h3 : 10 ^ K ≤ 10 ^ m := Nat.pow_le_pow_right (by omega) (by omega)
  omega
 ·apply Classical.byContradiction
  intro hlt
  obtain ⟨n, hn⟩ : ∃ n : Nat, ep = n + 1 := ⟨(ep - 1).toNat, by omega⟩
  have h1 := h.ge hc hn
  have h2 : 10 ^ n * 1 ≤ 10 ^ n * B := Nat.mul_le_mul_left _ hB
  have h3 : 10 ^ (K + 1) ≤ 10 ^ n := Nat.pow_le_pow_right (by omega) (by omega)
  have h4 : 10 ^ (K + 1) = 10 ^ K * 10 := Nat.pow_succ ..
  have h5 := ten_pos K
  omega

/-- The shift of a mantissa. -/
theorem hex_shift {w5 : World} {base b5 : Nat} {es5 : List Nat} {ep5 xk ex : Int} {st : Sc} {mm : Nat} (hd : DecAt w5 base b5 es5 ep5) (hc : Canon es5) (hs : Same es5 ep5 mm 1) (hl : es5.length ≤ 20) (he1 : 0 ≤ ep5) (he2 : ep5 ≤ 20) (hk1 : -1300 ≤ xk) (hk2 : xk ≤ 1100)
  (hxk : xk = min (hexX st + ex) 1100) (hmm : hexMs st.ds = mm) (hm0 : 0 < hexMs st.ds) (hlo : -1300 ≤ hexX st + ex) (hm64 : mm < 18446744073709551616) :
  Calls Tryz.prog 172 #[.pointer (some ⟨b5, 0, none⟩), .int .i64 xk] w5 (fun e w' => e = .returned (.tuple #[]) ∧ (∃ es ep, DecAt w' base b5 es ep ∧ es.length ≤ 2000 ∧ -1000000 ≤ ep ∧ ep ≤ 1000000 ∧ FitHex st ex es ep) ∧ Only b5 w5 w') := by
 have hm10 : mm ≤ 10 ^ 64 := by
  have h1 : 18446744073709551616 = 2 ^ 64 := by decide
  have h2 := two_le_ten 64
  omega
 obtain ⟨K, hK, hK2⟩ : ∃ K : Nat, K = 1400 ∧ 64 ≤ K := ⟨1400, rfl, by omega⟩
 by_cases hn : xk < 0
 ·obtain ⟨k, hk⟩ : ∃ k : Nat, xk = -(k : Int) := ⟨xk.natAbs, by omega⟩
  have Q := shift_down w5 base b5 es5 ep5 k hd hc (by omega) ⟨by omega, by omega⟩ (by omega) (by omega)
  rw [← hk] at Q
  refine Q.mono ?_
  rintro e w' ⟨rfl, es, ep, s1, s2, s3, s4, s5⟩
  have h1 := s3 mm 1 hs
  rw [Nat.mul_one, Nat.one_mul] at h1
  have hkK : k ≤ K := by omega
  have hb := ep_within (K := K) h1 s1 (by omega) (two_pos k) (Nat.le_trans hm10 (Nat.pow_le_pow_right (by decide) hK2)) (Nat.le_trans (two_le_ten k) (Nat.pow_le_pow_right (by decide) hkK))
  refine ⟨rfl, ⟨es, ep, s2, by omega, by omega, by omega, Or.inr ⟨s1, hm0, hlo, ?_⟩⟩, s5⟩
  rw [← hxk, hmm, show xk.toNat = 0 by omega, show (-xk).toNat = k by omega, Nat.pow_zero, Nat.mul_one]
  exact h1
 ·obtain ⟨k, hk⟩ : ∃ k : Nat, xk = (k : Int) := ⟨xk.toNat, by omega⟩
  have Q := shift_many w5 base b5 es5 ep5 k hd hc (by omega) ⟨by omega, by omega⟩ (by omega)
  rw [← hk] at Q
  refine Q.mono ?_
  rintro e w' ⟨rfl, es, ep, s1, s2, s3, s4, s5⟩
  have h1 := s3 mm 1 hs
  rw [Nat.mul_one] at h1
  have hkK : 64 + k ≤ K := by omega
  have hA : mm * 2 ^ k ≤ 10 ^ K := by
   refine Nat.le_trans (Nat.mul_le_mul hm10 (two_le_ten k)) ?_
   rw [← Nat.pow_add]
   exact Nat.pow_le_pow_right (by decide) hkK
  have hb := ep_within (K := K) h1 s1 (Nat.mul_pos (by omega) (two_pos k)) (by omega) hA (ten_pos K)
  refine ⟨rfl, ⟨es, ep, s2, by omega, by omega, by omega, Or.inr ⟨s1, hm0, hlo, ?_⟩⟩, s5⟩
  rw [← hxk, hmm, show xk.toNat = k by omega, show (-xk).toNat = 0 by omega, Nat.pow_zero]
  exact h1

set_option maxHeartbeats 6400000 in
set_option maxRecDepth 100000 in
theorem light_read_hex (t u : ByteArray) (w : World) (hs : t.size ≤ 400) (hh : hexL t = true) (hu : u = t.extract 2 t.size) : Calls Tryz.prog 145 #[.string t] w (LRead true u FitHex w) := by
 have hb := get_bt t
 have hbu := get_bt u
 have HHH := Lib.hid hh
 have h2 : 2 ≤ t.size := by
  unfold hexL at hh
  exact (of_decide_eq_true hh).1
 have husz : u.size ≤ 400 := by rw [hu]; simp; omega
 have htt : t.extract 2 t.size = u := hu.symm
 have h2i : (2 : Int) ≤ (t.size : Int) := by omega
 have HBEL0 : Hid (Below w.heap.size w (w.alloc (.cells #[.slice none 0 0, .int .i64 0] 265))) := (Below.refl _ _).alloc (Nat.le_refl _) _
 clear hh hu
 go_enter Tryz.func145, Tryz.ntmps145
 go_upto_region 2 with fail
 go_cut [5] from 17 to 30 (fun s5 wx => s5 = .bool true ∧ wx = w.alloc (.cells #[.slice none 0 0, .int .i64 0] 265))
 case first =>
  have hp := of_decide_eq_true HHH.out
  have k1 : decide ((2 : Int) ≤ (t.size : Int)) = true := decide_eq_true (by omega)
  have k2 : (bt t 0 == 48) = true := beq_iff_eq.2 hp.2.1
  have k3 : (lowB (bt t 1) == 120) = true := beq_iff_eq.2 hp.2.2
  clear hp
  go_wp2_with (go_at_call 169; (with_reducible refine (light_low _ _).mono ?_); rintro e w1 ⟨rfl, rfl⟩)
  go_meet
  case rel => exact ⟨rfl, rfl⟩
 case rest =>
  obtain ⟨rfl, rfl⟩ := hcut
  go_upto_block 0 with fail
  generalize w.alloc (.cells #[.slice none 0 0, .int .i64 0] 265) = wa at *
  clear hb htt h2 h2i HHH
  go_cut [7, 8, 9, 10, 11] from 34 to 129 (fun s7 s8 s9 s10 s11 wx => OutX u s7 s8 s9 s10 s11 ∧ wx = wa)
  case first =>
   go_wp2_with fail
   go_loop [7, 8, 9, 10, 11] (fun v7 v8 v9 v10 v11 => LoopX u v7 v8 v9 v10 v11) (fun _ _ _ _ v => u.size - (intOf v).toNat)
   case atStart => exact ⟨0, sc0, by rw [show sc0.ds = [] from rfl, hexMs_nil]; rfl, rfl, rfl, rfl, rfl, by omega, scok0 true, rfl, by simp [sc0], by simp [sc0]⟩
   case round =>
    obtain ⟨j, st, rfl, rfl, rfl, rfl, rfl, hj, hok, hscan, hlen, hlo⟩ := hrel
    have HOK := Lib.hid hok
    have HSC := Lib.hid hscan
    have hhi := hok.hi
    have HML := Lib.hid (hexMs_lt hok)
    have hxb : -4000 ≤ hexX st ∧ hexX st ≤ 4000 := by unfold hexX; omega
    have hxb1 := hxb.1
    have hxb2 := hxb.2
    obtain ⟨m, hm⟩ : ∃ m, m = hexMs st.ds := ⟨_, rfl⟩
    obtain ⟨x, hx⟩ : ∃ x, x = hexX st := ⟨_, rfl⟩
    rw [← hm] at HML ⊢
    rw [← hx] at hxb1 hxb2 ⊢
    have HM := Lib.hid hm
    have HX := Lib.hid hx
    have hds4 : st.ds.length ≤ 400 := by omega
    clear hok hscan hm hx hxb
    by_cases hlt : j < u.size
    ·have hlt2 : decide ((j : Int) < (u.size : Int)) = true := decide_eq_true (by omega)
     by_cases q1 : bt u j = 95
     ·have k1 : (bt u j == 95) = true := beq_iff_eq.2 q1
      have hst : stepC true st (bt u j) = some ⟨st.ds, st.sm, st.dot, true, st.dp⟩ := by unfold stepC; rw [if_pos q1]
      have HN := Lib.hid (And.intro (HOK.out.step hst) ((scanAt_step hlt hst).symm.trans HSC.out))
      clear q1 hst
      go_wp2_with fail
      go_round
      case rel => exact ⟨j + 1, ⟨st.ds, st.sm, st.dot, true, st.dp⟩, by rw [HM.out], rfl, rfl, by rw [HX.out]; rfl, by go_num, by omega, HN.out.1, HN.out.2, by simp; omega, by simp; omega⟩
      case measure => simp [intOf]; omega
     ·have k1 : (bt u j == 95) = false := beq_eq_false_iff_ne.2 q1
      by_cases q2 : bt u j = 46
      ·have k2 : (bt u j == 46) = true := beq_iff_eq.2 q2
       cases hdot : st.dot with
       | true =>
        have HE := Lib.hid (And.intro HOK.out (by have := HSC.out; rw [scanAt_stop (stop_point (hex := true) q2 hdot)] at this; exact this.symm : scanAt true u 0 sc0 = (j, st)))
        have k3 : decide (48 ≤ bt u j) = false := decide_eq_false (by omega)
        have k4 : decide (97 ≤ lowB (bt u j)) = false := by rw [q2]; decide
        have HDT := Lib.hid hdot
        clear q1 q2 hdot
        go_wp2_with (go_at_call 169; (with_reducible refine (light_low _ _).mono ?_); rintro e w1 ⟨rfl, rfl⟩)
        go_meet
        case rel => exact ⟨⟨j, st, by rw [HM.out], rfl, by rw [HDT.out], by rw [HX.out], rfl, hj, HE.out.1, HE.out.2, hlen, hlo⟩, rfl⟩
       | false =>
        have hst : stepC true st (bt u j) = some ⟨st.ds, st.sm, true, st.us, st.dp⟩ := by unfold stepC; rw [if_neg q1, if_pos q2, hdot]; rfl
        have HN := Lib.hid (And.intro (HOK.out.step hst) ((scanAt_step hlt hst).symm.trans HSC.out))
        clear q1 q2 hst hdot
        go_wp2_with fail
        go_round
        case rel => exact ⟨j + 1, ⟨st.ds, st.sm, true, st.us, st.dp⟩, by rw [HM.out], rfl, rfl, by rw [HX.out]; rfl, by go_num, by omega, HN.out.1, HN.out.2, by simp; omega, by simp; omega⟩
        case measure => simp [intOf]; omega
      ·have k2 : (bt u j == 46) = false := beq_eq_false_iff_ne.2 q2
       have hcs : (decide (48 ≤ bt u j) = false ∧ True) ∨ (decide (48 ≤ bt u j) = true ∧ decide (bt u j ≤ 57) = false) ∨ (48 ≤ bt u j ∧ bt u j ≤ 57) := by
        by_cases e : 48 ≤ bt u j
        ·by_cases e2 : bt u j ≤ 57
         ·exact Or.inr (Or.inr ⟨e, e2⟩)
         ·exact Or.inr (Or.inl ⟨decide_eq_true e, decide_eq_false e2⟩)
        ·exact Or.inl ⟨decide_eq_false e, trivial⟩
       by_cases qd : (48 ≤ bt u j ∧ bt u j ≤ 57) ∨ (97 ≤ lowB (bt u j) ∧ lowB (bt u j) ≤ 102)
       ·have hdd : ∃ d : Nat, d < 16 ∧ digV true (bt u j) = some d ∧ ((decide (48 ≤ bt u j) = true ∧ decide (bt u j ≤ 57) = true ∧ (bt u j - 48) % 256 = (d : Int) ∧ 48 ≤ bt u j ∧ bt u j ≤ 57 ∧ bt u j - 48 = (d : Int)) ∨
          ((decide (48 ≤ bt u j) = false ∧ True ∨ decide (48 ≤ bt u j) = true ∧ decide (bt u j ≤ 57) = false) ∧ decide (97 ≤ lowB (bt u j)) = true ∧ decide (lowB (bt u j) ≤ 102) = true ∧ lowB (bt u j) - 97 + 10 = (d : Int) ∧ 97 ≤ lowB (bt u j) ∧ lowB (bt u j) ≤ 102)) := by
         by_cases q3 : 48 ≤ bt u j ∧ bt u j ≤ 57
         ·exact ⟨(bt u j - 48).toNat, by omega, dig_dec q3, Or.inl ⟨decide_eq_true q3.1, decide_eq_true q3.2, by omega, q3.1, q3.2, by omega⟩⟩
         ·have q4 : 97 ≤ lowB (bt u j) ∧ lowB (bt u j) ≤ 102 := qd.resolve_left q3
          refine ⟨(lowB (bt u j) - 87).toNat, by omega, dig_hex q3 q4, Or.inr ⟨?_, decide_eq_true q4.1, decide_eq_true q4.2, by omega, q4.1, q4.2⟩⟩
          rcases hcs with h | h | h
          ·exact Or.inl h
          ·exact Or.inr h
          ·exact (q3 h).elim
        obtain ⟨d, hd16, hdv, hways⟩ := hdd
        have hst := stepC_digit (st := st) q1 q2 hdv
        have k7 : ((d : Int) == 16) = false := by simp; omega
        have HN := Lib.hid (And.intro (HOK.out.step hst) ((scanAt_step hlt hst).symm.trans HSC.out))
        have HAM := Lib.hid (addD_marks st d)
        have HLE := Lib.hid (len_addD st d)
        clear q1 q2 qd hcs hst hdv
        by_cases hlen16 : st.ds.length < 16
        ·have HAH := Lib.hid (add_hex_short (d := d) hlen16)
         have hm60 := HML.out.2.1 hlen16
         have kq : (m : Int) / 1152921504606846976 = 0 := by omega
         have ksh : ((m : Int) * 16) % 18446744073709551616 = ((m * 16 : Nat) : Int) := by omega
         have kor : bits .or .u64 ((m : Int) * 16) (d : Int) = (m : Int) * 16 + d := by show bits .or .u64 ((m * 16 : Nat) : Int) (d : Int) = ((m * 16 + d : Nat) : Int); rw [bits_or_u64 _ _ (by omega) (by omega), or_lo m d hd16]
         clear hlen16
         cases hdot : st.dot with
         | true =>
          have HA2 : Hid (hexMs (addD st d).ds = m * 16 + d ∧ hexX (addD st d) = x - 4) := by show _ ∧ _; rw [HM.out, HX.out]; have := HAH.out; rw [hdot] at this; exact this
          have HD2 : Hid ((addD st d).dot = true) := by show _ = _; rw [HAM.out.2]; exact hdot
          clear hdot
          rcases hways with ⟨k3, k4, k5, g1, g2, k6⟩ | ⟨⟨k3, k4⟩ | ⟨k3, k4⟩, k5, k6, k8, g1, g2⟩
          all_goals
           go_wp2_with (go_at_call 169; (with_reducible refine (light_low _ _).mono ?_); rintro e w1 ⟨rfl, rfl⟩)
           go_round
           case rel => exact ⟨j + 1, addD st d, by rw [HA2.out.1]; go_num, by rw [HAM.out.1], by rw [HD2.out], by rw [HA2.out.2], by go_num, by omega, HN.out.1, HN.out.2, by have := HLE.out.1; omega, by have := HLE.out.2; omega⟩
           case measure => simp [intOf]; omega
         | false =>
          have HA2 : Hid (hexMs (addD st d).ds = m * 16 + d ∧ hexX (addD st d) = x) := by show _ ∧ _; rw [HM.out, HX.out]; have := HAH.out; rw [hdot] at this; simpa using this
          have HD2 : Hid ((addD st d).dot = false) := by show _ = _; rw [HAM.out.2]; exact hdot
          clear hdot
          rcases hways with ⟨k3, k4, k5, g1, g2, k6⟩ | ⟨⟨k3, k4⟩ | ⟨k3, k4⟩, k5, k6, k8, g1, g2⟩
          all_goals
           go_wp2_with (go_at_call 169; (with_reducible refine (light_low _ _).mono ?_); rintro e w1 ⟨rfl, rfl⟩)
           go_round
           case rel => exact ⟨j + 1, addD st d, by rw [HA2.out.1]; go_num, by rw [HAM.out.1], by rw [HD2.out], by rw [HA2.out.2], by go_num, by omega, HN.out.1, HN.out.2, by have := HLE.out.1; omega, by have := HLE.out.2; omega⟩
           case measure => simp [intOf]; omega
        ·have HAH := Lib.hid (add_hex_long (d := d) (by omega : 16 ≤ st.ds.length))
         have hm60 := HML.out.2.2 (by omega)
         have hm64 := HML.out.1
         have kq : ((m : Int) / 1152921504606846976 == 0) = false := by simp; omega
         have HKO : Hid (bits .or .u64 (m : Int) 1 = ((m ||| 1 : Nat) : Int)) := bits_or_u64 m 1 hm64 (by omega)
         have kor := HKO.out
         clear hlen16 hm60 hm64
         cases hdot : st.dot with
         | true =>
          have HD2 : Hid ((addD st d).dot = true) := by show _ = _; rw [HAM.out.2]; exact hdot
          by_cases hd0 : d = 0
          ·have kd : ((d : Int) != 0) = false := by simp; omega
           have HA2 : Hid (hexMs (addD st d).ds = m ∧ hexX (addD st d) = x) := by show _ ∧ _; rw [HM.out, HX.out]; have := HAH.out; rw [hdot, if_pos hd0] at this; simpa using this
           clear hdot hd0
           rcases hways with ⟨k3, k4, k5, g1, g2, k6⟩ | ⟨⟨k3, k4⟩ | ⟨k3, k4⟩, k5, k6, k8, g1, g2⟩
           all_goals
            go_wp2_with (go_at_call 169; (with_reducible refine (light_low _ _).mono ?_); rintro e w1 ⟨rfl, rfl⟩)
            go_round
            case rel => exact ⟨j + 1, addD st d, by rw [HA2.out.1], by rw [HAM.out.1], by rw [HD2.out], by rw [HA2.out.2], by go_num, by omega, HN.out.1, HN.out.2, by have := HLE.out.1; omega, by have := HLE.out.2; omega⟩
            case measure => simp [intOf]; omega
          ·have kd : ((d : Int) != 0) = true := by simp; omega
           have HA2 : Hid (hexMs (addD st d).ds = m ||| 1 ∧ hexX (addD st d) = x) := by show _ ∧ _; rw [HM.out, HX.out]; have := HAH.out; rw [hdot, if_neg hd0] at this; simpa using this
           clear hdot hd0
           rcases hways with ⟨k3, k4, k5, g1, g2, k6⟩ | ⟨⟨k3, k4⟩ | ⟨k3, k4⟩, k5, k6, k8, g1, g2⟩
           all_goals
            go_wp2_with (go_at_call 169; (with_reducible refine (light_low _ _).mono ?_); rintro e w1 ⟨rfl, rfl⟩)
            go_round
            case rel => exact ⟨j + 1, addD st d, by rw [HA2.out.1], by rw [HAM.out.1], by rw [HD2.out], by rw [HA2.out.2], by go_num, by omega, HN.out.1, HN.out.2, by have := HLE.out.1; omega, by have := HLE.out.2; omega⟩
            case measure => simp [intOf]; omega
         | false =>
          have HD2 : Hid ((addD st d).dot = false) := by show _ = _; rw [HAM.out.2]; exact hdot
          by_cases hd0 : d = 0
          ·have kd : ((d : Int) != 0) = false := by simp; omega
           have HA2 : Hid (hexMs (addD st d).ds = m ∧ hexX (addD st d) = x + 4) := by show _ ∧ _; rw [HM.out, HX.out]; have := HAH.out; rw [hdot, if_pos hd0] at this; simpa using this
           clear hdot hd0
           rcases hways with ⟨k3, k4, k5, g1, g2, k6⟩ | ⟨⟨k3, k4⟩ | ⟨k3, k4⟩, k5, k6, k8, g1, g2⟩
           all_goals
            go_wp2_with (go_at_call 169; (with_reducible refine (light_low _ _).mono ?_); rintro e w1 ⟨rfl, rfl⟩)
            go_round
            case rel => exact ⟨j + 1, addD st d, by rw [HA2.out.1], by rw [HAM.out.1], by rw [HD2.out], by rw [HA2.out.2], by go_num, by omega, HN.out.1, HN.out.2, by have := HLE.out.1; omega, by have := HLE.out.2; omega⟩
            case measure => simp [intOf]; omega
          ·have kd : ((d : Int) != 0) = true := by simp; omega
           have HA2 : Hid (hexMs (addD st d).ds = m ||| 1 ∧ hexX (addD st d) = x + 4) := by show _ ∧ _; rw [HM.out, HX.out]; have := HAH.out; rw [hdot, if_neg hd0] at this; simpa using this
           clear hdot hd0
           rcases hways with ⟨k3, k4, k5, g1, g2, k6⟩ | ⟨⟨k3, k4⟩ | ⟨k3, k4⟩, k5, k6, k8, g1, g2⟩
           all_goals
            go_wp2_with (go_at_call 169; (with_reducible refine (light_low _ _).mono ?_); rintro e w1 ⟨rfl, rfl⟩)
            go_round
            case rel => exact ⟨j + 1, addD st d, by rw [HA2.out.1], by rw [HAM.out.1], by rw [HD2.out], by rw [HA2.out.2], by go_num, by omega, HN.out.1, HN.out.2, by have := HLE.out.1; omega, by have := HLE.out.2; omega⟩
            case measure => simp [intOf]; omega
       ·have q3 : ¬ (48 ≤ bt u j ∧ bt u j ≤ 57) := fun h => qd (Or.inl h)
        have q4 : ¬ (97 ≤ lowB (bt u j) ∧ lowB (bt u j) ≤ 102) := fun h => qd (Or.inr h)
        have HE := Lib.hid (And.intro HOK.out (by have := HSC.out; rw [scanAt_stop (stop_other (hex := true) q1 q2 q3 (fun h => q4 h.2))] at this; exact this.symm : scanAt true u 0 sc0 = (j, st)))
        have hcl : (decide (97 ≤ lowB (bt u j)) = false ∧ True) ∨ (decide (97 ≤ lowB (bt u j)) = true ∧ decide (lowB (bt u j) ≤ 102) = false) := by
         by_cases e : 97 ≤ lowB (bt u j)
         ·exact Or.inr ⟨decide_eq_true e, decide_eq_false (fun e2 => q4 ⟨e, e2⟩)⟩
         ·exact Or.inl ⟨decide_eq_false e, trivial⟩
        have hcs2 : (decide (48 ≤ bt u j) = false ∧ True) ∨ (decide (48 ≤ bt u j) = true ∧ decide (bt u j ≤ 57) = false) := by
         rcases hcs with h | h | h
         ·exact Or.inl h
         ·exact Or.inr h
         ·exact (q3 h).elim
        clear q1 q2 q3 q4 qd hcs
        rcases hcs2 with ⟨k3, k4⟩ | ⟨k3, k4⟩ <;> rcases hcl with ⟨k5, k6⟩ | ⟨k5, k6⟩
        all_goals
         go_wp2_with (go_at_call 169; (with_reducible refine (light_low _ _).mono ?_); rintro e w1 ⟨rfl, rfl⟩)
         go_meet
         case rel => exact ⟨⟨j, st, by rw [HM.out], rfl, rfl, by rw [HX.out], rfl, hj, HE.out.1, HE.out.2, hlen, hlo⟩, rfl⟩
    ·have hj2 : j = u.size := by omega
     subst hj2
     have HE := Lib.hid (And.intro HOK.out (by have := HSC.out; rw [scanAt_end (Nat.le_refl _)] at this; exact this.symm : scanAt true u 0 sc0 = (u.size, st)))
     go_wp2_with fail
     go_meet
     case rel => exact ⟨⟨u.size, st, by rw [HM.out], rfl, rfl, by rw [HX.out], rfl, Nat.le_refl _, HE.out.1, HE.out.2, hlen, hlo⟩, rfl⟩
  case rest =>
   obtain ⟨⟨j, st, rfl, rfl, rfl, rfl, rfl, hjs, hok, hE, hlen, hlo⟩, rfl⟩ := hcut
   have HOK := Lib.hid hok
   have HE2 := Lib.hid hE
   have HBEL := HBEL0
   have hhi := hok.hi
   have HML := Lib.hid (hexMs_lt hok)
   have hxb : -4000 ≤ hexX st ∧ hexX st ≤ 4000 := by unfold hexX; omega
   obtain ⟨mm, hmm⟩ : ∃ mm, mm = hexMs st.ds := ⟨_, rfl⟩
   obtain ⟨x10, hx10⟩ : ∃ x10 : Int, x10 = hexX st := ⟨_, rfl⟩
   rw [← hmm] at HML ⊢
   rw [← hx10] at hxb ⊢
   have hx10a := hxb.1
   have hx10b := hxb.2
   have HMM := Lib.hid hmm
   have HX10 := Lib.hid hx10
   clear hok hE hmm hx10 hxb
   cases hsm : st.sm with
   | false =>
    have HB : Hid (readU true u = none) := readU_sm HE2.out hsm
    clear hsm
    go_wp2_with fail
    go_ret2
    exact lread_none HB.out HBEL.out
   | true =>
    have HSM := Lib.hid hsm
    clear hsm
    obtain ⟨he, hhe⟩ : ∃ he, he = decide (j < u.size ∧ lowB (bt u j) = 112) := ⟨_, rfl⟩
    have HHE := Lib.hid hhe
    clear hhe
    go_upto_region 37 with fail
    go_cut [143] from 132 to 143 (fun s143 wx => s143 = .bool he ∧ wx = wc)
    case first =>
     by_cases c1 : j < u.size
     ·have k1 : decide ((j : Int) < (u.size : Int)) = true := decide_eq_true (by omega)
      by_cases c2 : lowB (bt u j) = 112
      ·have k2 : (lowB (bt u j) == 112) = true := beq_iff_eq.2 c2
       have HV : Hid (he = true) := by show _ = _; rw [HHE.out]; exact decide_eq_true ⟨c1, c2⟩
       clear c2
       go_wp2_with (go_at_call 169; (with_reducible refine (light_low _ _).mono ?_); rintro e w1 ⟨rfl, rfl⟩)
       go_meet
       case rel => exact ⟨by rw [HV.out], rfl⟩
      ·have k2 : (lowB (bt u j) == 112) = false := beq_eq_false_iff_ne.2 c2
       have HV : Hid (he = false) := by show _ = _; rw [HHE.out]; exact decide_eq_false (fun h => c2 h.2)
       clear c2
       go_wp2_with (go_at_call 169; (with_reducible refine (light_low _ _).mono ?_); rintro e w1 ⟨rfl, rfl⟩)
       go_meet
       case rel => exact ⟨by rw [HV.out], rfl⟩
     ·have k1 : decide ((j : Int) < (u.size : Int)) = false := decide_eq_false (by omega)
      have HV : Hid (he = false) := by show _ = _; rw [HHE.out]; exact decide_eq_false (fun h => c1 h.1)
      go_wp2_with fail
      go_meet
      case rel => exact ⟨by rw [HV.out], rfl⟩
    case rest =>
     obtain ⟨rfl, rfl⟩ := hcut
     go_upto_if 143 with fail
     go_cut [10, 11] from 143 to 236 (fun s10 s11 wx => (∃ (j' : Nat) (ex : Int) (us' : Bool), s11 = .int .i64 (j' : Nat) ∧ s10 = .int .i64 (x10 + ex) ∧ TailIs true u j st.us j' ex us') ∧ wx = wc)
     case first =>
      cases he with
      | false =>
       have HV := Lib.hid (show ¬ (j < u.size ∧ lowB (bt u j) = (if true then 112 else 101)) from of_decide_eq_false (p := j < u.size ∧ lowB (bt u j) = 112) HHE.out.symm)
       have HB : Hid (readU true u = none) := by show _ = _; rw [readU_tail HE2.out HSM.out, tail_none HV.out]; rfl
       go_wp2_with fail
       go_ret2
       exact lread_none HB.out HBEL.out
      | true =>
       have HV := Lib.hid (show j < u.size ∧ lowB (bt u j) = (if true then 112 else 101) from of_decide_eq_true (p := j < u.size ∧ lowB (bt u j) = 112) HHE.out.symm)
       obtain ⟨j2, hj2⟩ : ∃ j2, j2 = expFromAt u j := ⟨_, rfl⟩
       obtain ⟨en, hen⟩ : ∃ en, en = expNeg u j := ⟨_, rfl⟩
       have HJ2 := Lib.hid hj2
       have HEN := Lib.hid hen
       have hju : j < u.size := HV.out.1
       have hj2a : j + 1 ≤ j2 := by rw [hj2]; unfold expFromAt; split <;> omega
       have hj2b : j2 ≤ u.size := by rw [hj2]; unfold expFromAt; split <;> omega
       clear hj2 hen
       go_upto_region 39 with fail
       go_cut [14] from 146 to 155 (fun s14 wx => s14 = .bool en ∧ wx = wc)
       case first =>
        by_cases c1 : j + 1 < u.size
        ·have k1 : decide ((j : Int) + 1 < (u.size : Int)) = true := decide_eq_true (by omega)
         by_cases c3 : bt u (j + 1) = 45
         ·have k3 : (bt u (j + 1) == 45) = true := beq_iff_eq.2 c3
          have HW : Hid (en = true) := by show _ = _; rw [HEN.out]; unfold expNeg; exact decide_eq_true ⟨c1, c3⟩
          clear c3
          go_wp2_with fail
          go_meet
          case rel => exact ⟨by rw [HW.out], rfl⟩
         ·have k3 : (bt u (j + 1) == 45) = false := beq_eq_false_iff_ne.2 c3
          have HW : Hid (en = false) := by show _ = _; rw [HEN.out]; unfold expNeg; exact decide_eq_false (fun h => c3 h.2)
          clear c3
          go_wp2_with fail
          go_meet
          case rel => exact ⟨by rw [HW.out], rfl⟩
        ·have k1 : decide ((j : Int) + 1 < (u.size : Int)) = false := decide_eq_false (by omega)
         have HW : Hid (en = false) := by show _ = _; rw [HEN.out]; unfold expNeg; exact decide_eq_false (fun h => c1 h.1)
         go_wp2_with fail
         go_meet
         case rel => exact ⟨by rw [HW.out], rfl⟩
       case rest =>
        obtain ⟨rfl, rfl⟩ := hcut
        obtain ⟨sg, hsg⟩ : ∃ sg, sg = decide (j + 1 < u.size ∧ (bt u (j + 1) = 43 ∨ bt u (j + 1) = 45)) := ⟨_, rfl⟩
        have HSG := Lib.hid hsg
        clear hsg
        go_upto_region 40 with fail
        go_cut [171] from 156 to 171 (fun s171 wx => s171 = .bool sg ∧ wx = wc)
        case first =>
         by_cases c1 : j + 1 < u.size
         ·have k1 : decide ((j : Int) + 1 < (u.size : Int)) = true := decide_eq_true (by omega)
          by_cases c2 : bt u (j + 1) = 43
          ·have k2 : (bt u (j + 1) == 43) = true := beq_iff_eq.2 c2
           have HW : Hid (sg = true) := by show _ = _; rw [HSG.out]; exact decide_eq_true ⟨c1, Or.inl c2⟩
           clear c2
           go_wp2_with fail
           go_meet
           case rel => exact ⟨by rw [HW.out], rfl⟩
          ·have k2 : (bt u (j + 1) == 43) = false := beq_eq_false_iff_ne.2 c2
           by_cases c3 : bt u (j + 1) = 45
           ·have k3 : (bt u (j + 1) == 45) = true := beq_iff_eq.2 c3
            have HW : Hid (sg = true) := by show _ = _; rw [HSG.out]; exact decide_eq_true ⟨c1, Or.inr c3⟩
            clear c2 c3
            go_wp2_with fail
            go_meet
            case rel => exact ⟨by rw [HW.out], rfl⟩
           ·have k3 : (bt u (j + 1) == 45) = false := beq_eq_false_iff_ne.2 c3
            have HW : Hid (sg = false) := by show _ = _; rw [HSG.out]; exact decide_eq_false (fun h => h.2.elim c2 c3)
            clear c2 c3
            go_wp2_with fail
            go_meet
            case rel => exact ⟨by rw [HW.out], rfl⟩
         ·have k1 : decide ((j : Int) + 1 < (u.size : Int)) = false := decide_eq_false (by omega)
          have HW : Hid (sg = false) := by show _ = _; rw [HSG.out]; exact decide_eq_false (fun h => c1 h.1)
          go_wp2_with fail
          go_meet
          case rel => exact ⟨by rw [HW.out], rfl⟩
        case rest =>
         obtain ⟨rfl, rfl⟩ := hcut
         go_upto_if 171 with fail
         go_cut [11] from 171 to 173 (fun s11 wx => s11 = .int .i64 (j2 : Nat) ∧ wx = wc)
         case first =>
          cases sg with
          | true =>
           have HW : Hid (j2 = j + 2) := by show _ = _; rw [HJ2.out]; unfold expFromAt; exact if_pos (of_decide_eq_true HSG.out.symm)
           go_wp2_with fail
           go_meet
           case rel => exact ⟨by rw [HW.out]; go_num, rfl⟩
          | false =>
           have HW : Hid (j2 = j + 1) := by show _ = _; rw [HJ2.out]; unfold expFromAt; exact if_neg (of_decide_eq_false HSG.out.symm)
           go_wp2_with fail
           go_meet
           case rel => exact ⟨by rw [HW.out]; go_num, rfl⟩
         case rest =>
          obtain ⟨rfl, rfl⟩ := hcut
          obtain ⟨nd, hnd⟩ : ∃ nd, nd = decide (¬ (j2 < u.size ∧ 48 ≤ bt u j2 ∧ bt u j2 ≤ 57)) := ⟨_, rfl⟩
          have HND := Lib.hid hnd
          clear hnd
          go_upto_region 42 with fail
          go_cut [189] from 174 to 189 (fun s189 wx => s189 = .bool nd ∧ wx = wc)
          case first =>
           by_cases c2 : j2 < u.size
           ·have k2 : decide ((u.size : Int) ≤ (j2 : Int)) = false := decide_eq_false (by omega)
            have k2' : decide (u.size ≤ j2) = false := decide_eq_false (by omega)
            by_cases c3 : bt u j2 < 48
            ·have k3 : decide (bt u j2 < 48) = true := decide_eq_true c3
             have HW : Hid (nd = true) := by show _ = _; rw [HND.out]; exact decide_eq_true (by omega)
             clear c3
             go_wp2_with fail
             go_meet
             case rel => exact ⟨by rw [HW.out], rfl⟩
            ·have k3 : decide (bt u j2 < 48) = false := decide_eq_false c3
             by_cases c4 : 57 < bt u j2
             ·have k4 : decide (57 < bt u j2) = true := decide_eq_true c4
              have HW : Hid (nd = true) := by show _ = _; rw [HND.out]; exact decide_eq_true (by omega)
              clear c3 c4
              go_wp2_with fail
              go_meet
              case rel => exact ⟨by rw [HW.out], rfl⟩
             ·have k4 : decide (57 < bt u j2) = false := decide_eq_false c4
              have HW : Hid (nd = false) := by show _ = _; rw [HND.out]; exact decide_eq_false (by omega)
              clear c3 c4
              go_wp2_with fail
              go_meet
              case rel => exact ⟨by rw [HW.out], rfl⟩
           ·have k2 : decide ((u.size : Int) ≤ (j2 : Int)) = true := decide_eq_true (by omega)
            have k2' : decide (u.size ≤ j2) = true := decide_eq_true (by omega)
            have HW : Hid (nd = true) := by show _ = _; rw [HND.out]; exact decide_eq_true (by omega)
            go_wp2_with fail
            go_meet
            case rel => exact ⟨by rw [HW.out], rfl⟩
          case rest =>
           obtain ⟨rfl, rfl⟩ := hcut
           cases nd with
           | true =>
            have HB : Hid (readU true u = none) := by show _ = _; rw [readU_tail HE2.out HSM.out, tail_bad HV.out (by rw [← HJ2.out]; exact of_decide_eq_true HND.out.symm)]
            go_wp2_with fail
            go_ret2
            exact lread_none HB.out HBEL.out
           | false =>
            have HG := Lib.hid (show j2 < u.size ∧ 48 ≤ bt u j2 ∧ bt u j2 ≤ 57 from Classical.not_not.1 (of_decide_eq_false (p := ¬ (j2 < u.size ∧ 48 ≤ bt u j2 ∧ bt u j2 ≤ 57)) HND.out.symm))
            obtain ⟨F, hF⟩ : ∃ F, F = expAt u j2 0 st.us := ⟨_, rfl⟩
            have HF := Lib.hid hF
            clear hF
            go_upto_block 4 with fail
            go_cut [11, 15] from 190 to 229 (fun s11 s15 wx => (∃ (j3 e : Nat) (us3 : Bool), s11 = .int .i64 (j3 : Nat) ∧ s15 = .int .i64 (e : Nat) ∧ j3 ≤ u.size ∧ j ≤ j3 ∧ e ≤ 99999 ∧ F = (j3, e, us3)) ∧ wx = wc)
            case first =>
             go_wp2_with fail
             go_loop [11, 15] (fun v11 v15 => ∃ (i e : Nat) (us : Bool), v11 = .int .i64 (i : Nat) ∧ v15 = .int .i64 (e : Nat) ∧ i ≤ u.size ∧ j ≤ i ∧ e ≤ 99999 ∧ expAt u i e us = F) (fun v _ => u.size - (intOf v).toNat)
             case atStart => exact ⟨j2, 0, st.us, rfl, rfl, hj2b, by omega, by omega, HF.out.symm⟩
             case round =>
              obtain ⟨i, e, us, rfl, rfl, hi1, hi2, hi3, hF⟩ := hrel
              have HFF := Lib.hid hF
              clear hF
              by_cases hlt : i < u.size
              ·have k1 : decide ((i : Int) < (u.size : Int)) = true := decide_eq_true (by omega)
               by_cases c2 : 48 ≤ bt u i ∧ bt u i ≤ 57
               ·have k2 : decide (48 ≤ bt u i) = true := decide_eq_true c2.1
                have k3 : decide (bt u i ≤ 57) = true := decide_eq_true c2.2
                have k4 : (bt u i == 95) = false := beq_eq_false_iff_ne.2 (by omega)
                have k4' : (bt u i != 95) = true := by simp; omega
                obtain ⟨d, hd⟩ : ∃ d, d = (bt u i - 48).toNat := ⟨_, rfl⟩
                have eb : bt u i = (d : Int) + 48 := by omega
                have hd9 : d ≤ 9 := by omega
                have HN : Hid (expAt u (i + 1) (if e < 10000 then e * 10 + d else e) us = F) := by show _ = _; rw [hd, ← expAt_digit hlt c2]; exact HFF.out
                have k5 : bt u i ≤ 57 := c2.2
                have k6 : 48 ≤ bt u i := c2.1
                have HEB := Lib.hid eb
                clear c2 hd eb
                by_cases hb10 : e < 10000
                ·have k7 : decide ((e : Int) < 10000) = true := decide_eq_true (by omega)
                 go_wp2_with fail
                 go_round
                 case rel => exact ⟨i + 1, e * 10 + d, us, by go_num, by rw [HEB.out]; go_num, by omega, by omega, by omega, by have := HN.out; rwa [if_pos hb10] at this⟩
                 case measure => simp [intOf]; omega
                ·have k7 : decide ((e : Int) < 10000) = false := decide_eq_false (by omega)
                 go_wp2_with fail
                 go_round
                 case rel => exact ⟨i + 1, e, us, by go_num, rfl, by omega, by omega, by omega, by have := HN.out; rwa [if_neg hb10] at this⟩
                 case measure => simp [intOf]; omega
               ·have hcs : (decide (48 ≤ bt u i) = false ∧ True) ∨ (decide (48 ≤ bt u i) = true ∧ decide (bt u i ≤ 57) = false) := by
                 by_cases e : 48 ≤ bt u i
                 ·exact Or.inr ⟨decide_eq_true e, decide_eq_false (fun e2 => c2 ⟨e, e2⟩)⟩
                 ·exact Or.inl ⟨decide_eq_false e, trivial⟩
                by_cases c3 : bt u i = 95
                ·have k4 : (bt u i == 95) = true := beq_iff_eq.2 c3
                 have k4' : (bt u i != 95) = false := by simp [c3]
                 have HN : Hid (expAt u (i + 1) e true = F) := by show _ = _; rw [← expAt_under (us := us) hlt c3]; exact HFF.out
                 clear c2 c3
                 rcases hcs with ⟨k2, k3⟩ | ⟨k2, k3⟩
                 all_goals
                  go_wp2_with fail
                  go_round
                  case rel => exact ⟨i + 1, e, true, by go_num, rfl, by omega, by omega, by omega, HN.out⟩
                  case measure => simp [intOf]; omega
                ·have k4 : (bt u i == 95) = false := beq_eq_false_iff_ne.2 c3
                 have HN : Hid (F = (i, e, us)) := by show _ = _; rw [← HFF.out]; exact expAt_stop c2 c3
                 clear c2 c3
                 rcases hcs with ⟨k2, k3⟩ | ⟨k2, k3⟩
                 all_goals
                  go_wp2_with fail
                  go_meet
                  case rel => exact ⟨⟨i, e, us, rfl, rfl, hi1, hi2, hi3, HN.out⟩, rfl⟩
              ·have k1 : decide ((i : Int) < (u.size : Int)) = false := decide_eq_false (by omega)
               have HN : Hid (F = (i, e, us)) := by show _ = _; rw [← HFF.out]; exact expAt_end (by omega)
               go_wp2_with fail
               go_meet
               case rel => exact ⟨⟨i, e, us, rfl, rfl, hi1, hi2, hi3, HN.out⟩, rfl⟩
            case rest =>
             obtain ⟨⟨j3, e, us3, rfl, rfl, q1, q2, q3, hF2⟩, rfl⟩ := hcut
             have HTL : Hid (TailIs true u j st.us j3 (if en then -(e : Int) else e) us3) :=
              ⟨by rw [HEN.out]; exact tail_good HV.out (by rw [← HJ2.out]; exact HG.out) (by rw [← HJ2.out, ← HF.out]; exact hF2), q2, q1, by split <;> omega, by split <;> omega⟩
             clear hF2
             cases en
             ·go_wp2_with fail
              go_meet
              case rel => exact ⟨⟨j3, _, us3, rfl, by go_num, HTL.out⟩, rfl⟩
             ·go_wp2_with fail
              go_meet
              case rel => exact ⟨⟨j3, _, us3, rfl, by go_num, HTL.out⟩, rfl⟩
     case rest =>
      obtain ⟨⟨j', ex, us', rfl, rfl, htl⟩, rfl⟩ := hcut
      have HTL := Lib.hid htl
      have q1 := htl.lo
      have q2 := htl.hi
      have q3 := htl.e1
      have q4 := htl.e2
      clear htl
      by_cases hend : j' = u.size
      ·have HR : Hid (readU true u = some (st, ex)) := by show _ = _; rw [readU_tail HE2.out HSM.out, HTL.out.eq]; exact if_pos hend
       have k9 : decide ((j' : Int) < (u.size : Int)) = false := decide_eq_false (by omega)
       have hm64 := HML.out.1
       have KN := Lib.hid (fun w => new_decimal mm w hm64)
       obtain ⟨xs, hxs⟩ : ∃ xs : Int, xs = x10 + ex := ⟨_, rfl⟩
       have HXS := Lib.hid hxs
       rw [← hxs]
       have hxs1 : -200000 ≤ xs := by omega
       have hxs2 : xs ≤ 200000 := by omega
       clear hxs hm64
       by_cases hm0 : mm = 0
       ·have km : ((mm : Int) == 0) = true := by simp; omega
        have HM0 : Hid (hexMs st.ds = 0) := by show _ = _; rw [← HMM.out]; exact hm0
        clear hm0
        go_wp2_with (go_at_call 171; (with_reducible refine (KN.out _).mono ?_); rintro e w5 ⟨b5, es5, ep5, rfl, t1, t2, t3, t4, t5, hb5⟩; have H5 := Lib.hid (And.intro t1 (And.intro t2 hb5)); clear t1 t2 t3 t4 t5 hb5)
        go_ret2
        exact lread_some HR.out (dec_nil w5 (by have := H5.out.2.2.size; have := HBEL.out.size; omega)) (by simp) (by omega) (by omega) (Or.inl ⟨rfl, Or.inl HM0.out⟩) ((HBEL.out.trans (H5.out.2.2.mono HBEL.out.size)).alloc (by have := H5.out.2.2.size; have := HBEL.out.size; omega) _)
       ·have km : ((mm : Int) == 0) = false := by simp; omega
        have HM0 : Hid (0 < hexMs st.ds) := by show _ < _; rw [← HMM.out]; omega
        by_cases hlow : xs < -1300
        ·have kx : decide (xs < -1300) = true := decide_eq_true hlow
         have HLW : Hid (hexX st + ex < -1300) := by show _ < _; rw [← HX10.out, ← HXS.out]; exact hlow
         clear hlow hm0
         go_wp2_with (go_at_call 171; (with_reducible refine (KN.out _).mono ?_); rintro e w5 ⟨b5, es5, ep5, rfl, t1, t2, t3, t4, t5, hb5⟩; have H5 := Lib.hid (And.intro t1 (And.intro t2 hb5)); clear t1 t2 t3 t4 t5 hb5)
         go_ret2
         exact lread_some HR.out (dec_nil w5 (by have := H5.out.2.2.size; have := HBEL.out.size; omega)) (by simp) (by omega) (by omega) (Or.inl ⟨rfl, Or.inr HLW.out⟩) ((HBEL.out.trans (H5.out.2.2.mono HBEL.out.size)).alloc (by have := H5.out.2.2.size; have := HBEL.out.size; omega) _)
        ·have kx : decide (xs < -1300) = false := decide_eq_false hlow
         obtain ⟨xk, hxk⟩ : ∃ xk : Int, xk = min xs 1100 := ⟨_, rfl⟩
         have HXK : Hid (xk = min (hexX st + ex) 1100) := by show _ = _; rw [hxk, HXS.out, HX10.out]
         have hk1 : -1300 ≤ xk := by omega
         have hk2 : xk ≤ 1100 := by omega
         have HLO : Hid (-1300 ≤ hexX st + ex) := by show _ ≤ _; rw [← HX10.out, ← HXS.out]; omega
         have KS : Hid (∀ (w5 : World) (b5 : Nat) (es5 : List Nat) (ep5 : Int), DecAt w5 wc.heap.size b5 es5 ep5 → (es5 = [] ∧ mm = 0 ∨ Canon es5 ∧ Same es5 ep5 mm 1 ∧ 0 < mm) → es5.length ≤ 20 → 0 ≤ ep5 → ep5 ≤ 20 → wc.heap.size ≤ b5 →
           Calls Tryz.prog 172 #[.pointer (some ⟨b5, 0, none⟩), .int .i64 xk] w5 (fun e w' => e = .returned (.tuple #[]) ∧ (∃ es ep, DecAt w' w.heap.size b5 es ep ∧ es.length ≤ 2000 ∧ -1000000 ≤ ep ∧ ep ≤ 1000000 ∧ FitHex st ex es ep) ∧ Only b5 w5 w')) :=
          fun w5 b5 es5 ep5 hd hf hl he1 he2 hb5 => by
           have hmm0 : 0 < mm := by omega
           rcases hf with ⟨_, h0⟩ | ⟨hcan, hsame, _⟩
           ·omega
           ·have hd' := hd.wider (base' := w.heap.size) HBEL.out.size
            exact hex_shift hd' hcan hsame hl he1 he2 hk1 hk2 HXK.out (by rw [← HMM.out]) HM0.out HLO.out HML.out.1
         have hways : (decide (1100 < xs) = true ∧ xk = 1100) ∨ (decide (1100 < xs) = false ∧ xs = xk) := by
          by_cases h : 1100 < xs
          ·exact Or.inl ⟨decide_eq_true h, by omega⟩
          ·exact Or.inr ⟨decide_eq_false h, by omega⟩
         clear hxk hlow hm0
         rcases hways with ⟨kw, hq⟩ | ⟨kw, hq⟩
         ·subst hq
          go_wp2_with (first
           | (go_at_call 171; (with_reducible refine (KN.out _).mono ?_); rintro e w5 ⟨b5, es5, ep5, rfl, t1, t2, t3, t4, t5, hb5⟩; have H5 := Lib.hid (And.intro t1 hb5); have HKS := Lib.hid (KS.out w5 b5 es5 ep5 t1 t2 t3 t4 t5 t1.lo); clear t1 t2 t3 t4 t5 hb5)
           | (go_at_call 172; (with_reducible refine HKS.out.mono ?_); rintro e w6 ⟨rfl, ⟨es, ep, s1, s2, s3, s4, s5⟩, ho⟩; have H6 := Lib.hid (And.intro s1 (And.intro s2 (And.intro s3 (And.intro s4 (And.intro s5 ho))))); clear s1 s2 s3 s4 s5 ho))
          go_ret2
          obtain ⟨s1, s2, s3, s4, s5, ho⟩ := H6.out
          exact lread_some HR.out s1 s2 s3 s4 s5 ((HBEL.out.trans (H5.out.2.mono HBEL.out.size)).trans (ho.toBelow (by have := H5.out.1.lo; have := HBEL.out.size; omega) H5.out.1.lt))
         ·subst hq
          go_wp2_with (first
           | (go_at_call 171; (with_reducible refine (KN.out _).mono ?_); rintro e w5 ⟨b5, es5, ep5, rfl, t1, t2, t3, t4, t5, hb5⟩; have H5 := Lib.hid (And.intro t1 hb5); have HKS := Lib.hid (KS.out w5 b5 es5 ep5 t1 t2 t3 t4 t5 t1.lo); clear t1 t2 t3 t4 t5 hb5)
           | (go_at_call 172; (with_reducible refine HKS.out.mono ?_); rintro e w6 ⟨rfl, ⟨es, ep, s1, s2, s3, s4, s5⟩, ho⟩; have H6 := Lib.hid (And.intro s1 (And.intro s2 (And.intro s3 (And.intro s4 (And.intro s5 ho))))); clear s1 s2 s3 s4 s5 ho))
          go_ret2
          obtain ⟨s1, s2, s3, s4, s5, ho⟩ := H6.out
          exact lread_some HR.out s1 s2 s3 s4 s5 ((HBEL.out.trans (H5.out.2.mono HBEL.out.size)).trans (ho.toBelow (by have := H5.out.1.lo; have := HBEL.out.size; omega) H5.out.1.lt))

      ·have HB : Hid (readU true u = none) := by show _ = _; rw [readU_tail HE2.out HSM.out, HTL.out.eq]; exact if_neg hend
       have k9 : decide ((j' : Int) < (u.size : Int)) = true := decide_eq_true (by omega)
       go_wp2_with fail
       go_ret2
       exact lread_none HB.out HBEL.out

end Go.Proofs.YtgolhmiocjpohaaGreatDoor
