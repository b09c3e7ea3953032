/- The light reading's decimal as the bits of the float that the text tells (148). No condition beyond those of what was read. -/
import Derived.Test.YtgolhmiocjpohaaGreatDoorLRd2
set_option linter.unusedVariables false
set_option linter.unusedSimpArgs false
namespace Go.Proofs.YtgolhmiocjpohaaGreatDoor
open Go.RowKit Go.PlainAid

/-- What was read, as one. -/
def readR (hx : Bool) (st : Sc) (ex : Int) (n : Nat) (us : Bool) : Read := ⟨hx, st, n, ex, us⟩

/-- The fit of the decimal that was read, of either kind. -/
def FitOf (hx : Bool) (st : Sc) (ex : Int) (es : List Nat) (ep : Int) : Prop := if hx then FitHex st ex es ep else FitDec st ex es ep

theorem hexMs_zero {st : Sc} (h : ScOk true st) : mantOf true st.ds = 0 ↔ hexMs st.ds = 0 := by
 constructor
 ·intro h0
  by_cases hl : st.ds.length < 16
  ·rw [hexMs_short (by omega)]; exact h0
  ·have := hex_lo h (by omega)
   omega
 ·intro h0
  unfold hexMs at h0
  split at h0
  ·have : 1 ≤ mantOf true st.ds ||| 1 := Nat.right_le_or
   omega
  ·exact h0

theorem exp_hex {st : Sc} {ex : Int} {n : Nat} {us : Bool} (h : ScOk true st) (h0 : 0 < hexMs st.ds) : expOfRead (readR true st ex n us) = hexX st + ex := by
 have hm : mantOf true st.ds ≠ 0 := fun h1 => by have := (hexMs_zero h).1 h1; omega
 unfold expOfRead
 rw [if_neg (show ¬ mantOf (readR true st ex n us).hex (readR true st ex n us).st.ds = 0 from hm)]
 show st.dp * (if true = true then 4 else 1) + ex - ((min st.ds.length (cap true) : Nat) : Int) * (if true = true then 4 else 1) = _
 unfold hexX cap
 simp only [if_true]
 omega

theorem two_1300 : ∀ K M : Nat, K = 1300 → M = 1074 → 2 ^ 64 * 2 ^ (M + 1) < 2 ^ K := by
 rintro _ _ rfl rfl
 decide +kernel

theorem bits_read_any (w : World) (base b n : Nat) (es : List Nat) (ep ex : Int) (hx us : Bool) (st : Sc) (h : DecAt w base b es ep) (hok : ScOk hx st) (hl : es.length ≤ 2000) (h1 : -1000000 ≤ ep) (h2 : ep ≤ 1000000) (hf : FitOf hx st ex es ep) :
  Calls Tryz.prog 148 #[.pointer (some ⟨b, 0, none⟩), form64] w fun e w' => e = .returned (.tuple #[.int .u64 (cutRung (rungOf (readR hx st ex n us)) : Nat), .bool (overRung (rungOf (readR hx st ex n us)))]) ∧ Only b w w' := by
 have nil : es = [] → rungOf (readR hx st ex n us) = 0 → Calls Tryz.prog 148 #[.pointer (some ⟨b, 0, none⟩), form64] w fun e w' => e = .returned (.tuple #[.int .u64 (cutRung (rungOf (readR hx st ex n us)) : Nat), .bool (overRung (rungOf (readR hx st ex n us)))]) ∧ Only b w w' := fun he hr => by
  rw [hr]
  rw [he] at h
  exact bits_zero w base b ep h
 cases hx with
 | false =>
  rcases hf with ⟨he, hd⟩ | ⟨hc, ht, hep⟩
  ·refine nil he (dec_zero rfl hok ?_)
   show mantOf false st.ds = 0
   rw [hd]
   exact mantOf_nil false
  ·have hs := (same_num (R := readR false st ex n us) rfl).trim ht
   have hA : 0 < numA (readR false st ex n us) := by
    show 0 < dval st.ds * 10 ^ (st.dp + ex).toNat
    have h3 := ht.dval.2
    rw [h3]
    exact Nat.mul_pos (Nat.mul_pos hc.dval_pos (ten_pos _)) (ten_pos _)
   subst hep
   exact bits_gen w base b es (st.dp + ex) _ _ _ h hc hs hA (numB_pos _) (rungOf_is _) hl h1 h2
 | true =>
  have hA1 : numA (readR true st ex n us) = twoA (hexMs st.ds) (expOfRead (readR true st ex n us)) := rfl
  have hB1 : numB (readR true st ex n us) = twoB (expOfRead (readR true st ex n us)) := rfl
  have hml := hexMs_lt hok
  rcases hf with ⟨he, hd⟩ | ⟨hc, hm, hlo, hs⟩
  ·refine nil he ?_
   by_cases hz : hexMs st.ds = 0
   ·have hr := rungOf_is (readR true st ex n us)
    rw [hA1, hz] at hr
    unfold twoA at hr
    rw [Nat.zero_mul] at hr
    rcases hr with ⟨_, h3⟩ | ⟨h3, _⟩
    ·exact h3
    ·omega
   ·have hd' : hexX st + ex < -1300 := hd.resolve_left hz
    have hr := rungOf_is (readR true st ex n us)
    rw [hA1, hB1, exp_hex hok (by omega)] at hr
    obtain ⟨K, hK, hKl⟩ : ∃ K : Nat, K = 1300 ∧ K ≤ (-(hexX st + ex)).toNat := ⟨1300, rfl, by omega⟩
    obtain ⟨M, hM⟩ : ∃ M : Nat, M = 1074 := ⟨_, rfl⟩
    have ht0 : (hexX st + ex).toNat = 0 := by omega
    have hpos : 0 < twoA (hexMs st.ds) (hexX st + ex) := Nat.mul_pos (by omega) (two_pos _)
    have hlt : hexMs st.ds ≤ 2 ^ 64 := by omega
    obtain ⟨E, hE⟩ := IsLog.exists hpos (twoB_pos (hexX st + ex))
    refine hr.unique (Rung.none_at hM (twoB_pos _) hpos ?_ hE)
    unfold twoA twoB
    rw [ht0, Nat.pow_zero, Nat.mul_one]
    exact Nat.lt_of_le_of_lt (Nat.mul_le_mul_right _ hlt) (Nat.lt_of_lt_of_le (two_1300 K M hK hM) (two_mono hKl))
  ·have hr := rungOf_is (readR true st ex n us)
   rw [hA1, hB1, exp_hex hok hm] at hr
   by_cases hbig : hexX st + ex ≤ 1100
   ·rw [show min (hexX st + ex) 1100 = hexX st + ex by omega] at hs
    exact bits_gen w base b es ep _ _ _ h hc hs (Nat.mul_pos hm (two_pos _)) (two_pos _) hr hl h1 h2
   ·rw [show min (hexX st + ex) 1100 = 1100 by omega] at hs
    obtain ⟨K, hK⟩ : ∃ K : Int, K = 1100 := ⟨_, rfl⟩
    rw [← hK] at hs
    obtain ⟨r', hr'⟩ := Rung.exists (hexMs st.ds * 2 ^ K.toNat) (two_pos (-K).toNat)
    obtain ⟨N, hN, hN1, hN2⟩ : ∃ N : Nat, N = 1024 ∧ N ≤ K.toNat ∧ N ≤ (hexX st + ex).toNat := ⟨1024, rfl, by omega, by omega⟩
    have z1 : (-K).toNat = 0 := by omega
    have z2 : (-(hexX st + ex)).toNat = 0 := by omega
    have o1 := hr'.over_at hN (two_pos _) (by
     rw [z1, Nat.pow_zero, Nat.one_mul]
     exact Nat.le_trans (two_mono hN1) (Nat.le_mul_of_pos_left _ hm))
    have o2 := hr.over_at hN (twoB_pos _) (by
     unfold twoA twoB
     rw [z2, Nat.pow_zero, Nat.one_mul]
     exact Nat.le_trans (two_mono hN2) (Nat.le_mul_of_pos_left _ hm))
    have e : 2047 * 2 ^ 52 = 9218868437227405312 := by decide
    rw [e] at o1 o2
    have K2 := bits_gen w base b es ep _ _ r' h hc hs (Nat.mul_pos hm (two_pos _)) (two_pos _) hr' hl h1 h2
    rw [show cutRung r' = cutRung (rungOf (readR true st ex n us)) by unfold cutRung; rw [if_pos o1, if_pos o2], show overRung r' = overRung (rungOf (readR true st ex n us)) by unfold overRung; rw [decide_eq_true o1, decide_eq_true o2]] at K2
    exact K2

/-- The text behind sign and mark. -/
def behindT (t : ByteArray) : ByteArray := if hexL t then t.extract 2 t.size else t

/-- What reads behind the sign. -/
def LReadAny (t : ByteArray) (w : World) (e : Ending) (w' : World) : Prop := LRead (hexL t) (behindT t) (FitOf (hexL t)) w e w'

theorem light_read_any (t : ByteArray) (w : World) (hs : t.size ≤ 400) : Calls Tryz.prog 145 #[.string t] w (LReadAny t w) := by
 unfold LReadAny behindT FitOf
 cases hx : hexL t with
 | false => exact light_read_dec t w hs hx
 | true => exact light_read_hex t _ w hs hx rfl

/-- What the two readings read, of a text with its sign. -/
theorem read_light {s : ByteArray} :
  (∀ st ex, readU (hexL (bodyT s)) (behindT (bodyT s)) = some (st, ex) → ∃ us, readOf s = some (readR (hexL (bodyT s)) st ex s.size us)) ∧
  (readU (hexL (bodyT s)) (behindT (bodyT s)) = none → ∀ R, readOf s = some R → R.stop ≠ s.size) := by
 have hz := bodyT_size s
 have hsl := sign_le s
 by_cases hx : hexAt s = true
 ·obtain ⟨q1, q2, q3⟩ := hex_sizes hx
  have hl : hexL (bodyT s) = true := by
   unfold hexL
   refine decide_eq_true ⟨by omega, ?_, ?_⟩
   ·rw [bodyT_at (by omega), Nat.add_zero]; exact q2
   ·rw [bodyT_at (by omega)]; exact q3
  have hd : digFrom s = signLen s + 2 := by unfold digFrom; rw [hx]; rfl
  have hB : Behind s (behindT (bodyT s)) (digFrom s) := by
   unfold behindT
   rw [hl, if_pos rfl]
   refine ⟨fun i hi => ?_, by simp; omega⟩
   have hi' : 2 + i < (bodyT s).size := by simp at hi; omega
   rw [bt_cut (bodyT s) 2 i hi', bodyT_at hi', hd]
   congr 1
   omega
  have := read_both hB
  rw [hl]
  rw [hx] at this
  exact this
 ·have hx' : hexAt s = false := by simpa using hx
  have hd : digFrom s = signLen s := by unfold digFrom; rw [hx']; rfl
  by_cases hl : hexL (bodyT s) = true
  ·-- the mark alone
   have hm := of_decide_eq_true (show decide (2 ≤ (bodyT s).size ∧ bt (bodyT s) 0 = 48 ∧ lowB (bt (bodyT s) 1) = 120) = true from hl)
   have hsz : (bodyT s).size = 2 := by
    apply Classical.byContradiction
    intro hne
    apply hx
    unfold hexAt
    refine decide_eq_true ⟨by omega, ?_, ?_⟩
    ·have := hm.2.1
     rw [bodyT_at (by omega), Nat.add_zero] at this
     exact this
    ·have := hm.2.2
     rw [bodyT_at (by omega)] at this
     exact this
   have hu : (behindT (bodyT s)).size = 0 := by unfold behindT; rw [hl, if_pos rfl]; simp [hsz]
   have hn : readU (hexL (bodyT s)) (behindT (bodyT s)) = none := readU_sm (scanAt_end (by omega)) rfl
   refine ⟨fun st ex h => by rw [hn] at h; simp at h, fun _ R hR hst => ?_⟩
   -- Go's own reading stops at the mark
   have hB : Behind s (bodyT s) (digFrom s) := ⟨fun i hi => by rw [bodyT_at hi, hd], by omega⟩
   obtain ⟨r1, r2⟩ := read_both hB
   rw [hx'] at r1 r2
   have hc0 : bt (bodyT s) 0 = 48 := hm.2.1
   have hc1 : lowB (bt (bodyT s) 1) = 120 := hm.2.2
   have hs0 : stepC false sc0 (bt (bodyT s) 0) = some (addD sc0 0) := by
    have := stepC_digit (hex := false) (st := sc0) (c := bt (bodyT s) 0) (d := 0) (by omega) (by omega) (by rw [hc0]; rfl)
    exact this
   have hnd : bt (bodyT s) 1 ≠ 95 ∧ bt (bodyT s) 1 ≠ 46 ∧ ¬ (48 ≤ bt (bodyT s) 1 ∧ bt (bodyT s) 1 ≤ 57) := by
    refine ⟨fun e => by rw [e] at hc1; revert hc1; decide, fun e => by rw [e] at hc1; revert hc1; decide, fun e => ?_⟩
    have := or32 e
    unfold lowB at hc1
    omega
   have hs1 : stepC false (addD sc0 0) (bt (bodyT s) 1) = none := stop_other hnd.1 hnd.2.1 hnd.2.2 (fun h => by simp at h)
   have hsc : scanAt false (bodyT s) 0 sc0 = (1, addD sc0 0) := by
    rw [scanAt_step (by omega) hs0]
    exact scanAt_stop hs1
   have hno : readU false (bodyT s) = none := by
    rw [readU_tail hsc rfl, tail_none (fun h => by have := h.2; rw [hc1] at this; simp at this)]
    simp only [Bool.false_eq_true, if_false]
    rw [if_neg (by omega)]
   exact r2 hno R hR hst
  ·have hl' : hexL (bodyT s) = false := by simpa using hl
   have hB : Behind s (behindT (bodyT s)) (digFrom s) := by
    unfold behindT
    rw [hl', if_neg (by simp)]
    exact ⟨fun i hi => by rw [bodyT_at hi, hd], by omega⟩
   have := read_both hB
   rw [hl']
   rw [hx'] at this
   exact this

end Go.Proofs.YtgolhmiocjpohaaGreatDoor
