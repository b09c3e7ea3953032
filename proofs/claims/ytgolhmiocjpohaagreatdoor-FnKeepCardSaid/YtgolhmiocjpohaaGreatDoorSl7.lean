/- The table of left cheats: what it tells of a power of five; how many digits a decimal has behind a shift left. Plain. No condition: the given table is looked through by the kernel. Whether a slow decimal begins below a power of five's digits (206). No condition beyond that on the block. Go's slow decimal shifted left (199). No condition beyond those on the block, on the table of left cheats and on sizes. Go's slow decimal shifted either way (192), with what it stands for. No condition beyond those on the block, on the table of left cheats and on sizes. Rounding a slow decimal whose digits may have been cut: the nearest whole number of what it stands for. Plain. No condition. -/
import GoSem.PinnedTables
import Derived.PlainAid
import Derived.Test.YtgolhmiocjpohaaGreatDoorGen6
import Derived.Test.YtgolhmiocjpohaaGreatDoorSl1
import Derived.Test.YtgolhmiocjpohaaGreatDoorSl5
set_option linter.unusedVariables false
set_option linter.unusedSimpArgs false
namespace Go.Proofs.YtgolhmiocjpohaaGreatDoor
open Go.PlainAid

theorem pre_le_dval (xs : List Nat) {j : Nat} (h : j ≤ xs.length) : pre xs j * 10 ^ (xs.length - j) ≤ dval xs := by
 induction hn : xs.length - j generalizing j with
 | zero => unfold dval; rw [show xs.length = j by omega]; simp
 | succ m ih =>
  have h1 := ih (j := j + 1) (by omega) (by omega)
  have e : pre xs (j + 1) = pre xs j * 10 + dAt xs j := rfl
  have h2 : pre xs j * 10 * 10 ^ m ≤ pre xs (j + 1) * 10 ^ m := Nat.mul_le_mul_right _ (by omega)
  rw [Nat.pow_succ, Nat.mul_comm (10 ^ m) 10, ← Nat.mul_assoc]
  omega

theorem dval_lt_pre {xs : List Nat} (hd : Digits xs) {j : Nat} (h : j ≤ xs.length) : dval xs < (pre xs j + 1) * 10 ^ (xs.length - j) := by
 induction hn : xs.length - j generalizing j with
 | zero => unfold dval; rw [show xs.length = j by omega]; simp
 | succ m ih =>
  have h1 := ih (j := j + 1) (by omega) (by omega)
  have e : pre xs (j + 1) = pre xs j * 10 + dAt xs j := rfl
  have h9 := hd.all j
  have h2 : (pre xs (j + 1) + 1) * 10 ^ m ≤ ((pre xs j + 1) * 10) * 10 ^ m := Nat.mul_le_mul_right _ (by omega)
  rw [Nat.pow_succ, Nat.mul_comm (10 ^ m) 10, ← Nat.mul_assoc]
  omega

theorem lex_lt {xs ys : List Nat} (hd : Digits xs) {j : Nat} (hx : j ≤ xs.length) (hy : j ≤ ys.length) (h : pre xs j < pre ys j) : dval xs * 10 ^ ys.length < dval ys * 10 ^ xs.length := by
 have h1 := dval_lt_pre hd hx
 have h2 := pre_le_dval ys hy
 have h3 : (pre xs j + 1) * 10 ^ (xs.length - j) ≤ pre ys j * 10 ^ (xs.length - j) := Nat.mul_le_mul_right _ h
 have h4 : dval xs * 10 ^ ys.length < pre ys j * 10 ^ (xs.length - j) * 10 ^ ys.length := Nat.mul_lt_mul_of_pos_right (Nat.lt_of_lt_of_le h1 h3) (Nat.pow_pos (by omega))
 have h5 : pre ys j * 10 ^ (ys.length - j) * 10 ^ xs.length ≤ dval ys * 10 ^ xs.length := Nat.mul_le_mul_right _ h2
 rw [Nat.mul_assoc, ← Nat.pow_add] at h4 h5
 rw [show xs.length - j + ys.length = ys.length - j + xs.length by omega] at h4
 omega

theorem lex_eq {xs ys : List Nat} (hy : ys.length ≤ xs.length) (h : pre xs ys.length = pre ys ys.length) : dval ys * 10 ^ xs.length ≤ dval xs * 10 ^ ys.length := by
 have h1 := pre_le_dval xs hy
 rw [h] at h1
 have h2 : dval ys * 10 ^ (xs.length - ys.length) * 10 ^ ys.length ≤ dval xs * 10 ^ ys.length := Nat.mul_le_mul_right _ h1
 rwa [Nat.mul_assoc, ← Nat.pow_add, show xs.length - ys.length + ys.length = xs.length by omega] at h2

theorem lex_short {xs ys : List Nat} (hy : xs.length < ys.length) (h : pre xs xs.length = pre ys xs.length) (hl : dAt ys (ys.length - 1) ≠ 0) (hd : Digits ys) : dval xs * 10 ^ ys.length < dval ys * 10 ^ xs.length := by
 have h1 := pre_le_dval ys (Nat.le_of_lt hy)
 rw [← h] at h1
 have h3 : dval xs * 10 ^ (ys.length - xs.length) ≠ dval ys := by
  intro e
  have e2 : dval ys = pre ys (ys.length - 1) * 10 + dAt ys (ys.length - 1) := by
   unfold dval
   rw [show ys.length = (ys.length - 1) + 1 by omega]
   rfl
  rw [show ys.length - xs.length = (ys.length - xs.length - 1) + 1 by omega, Nat.pow_succ, ← Nat.mul_assoc] at e
  have := hd.all (ys.length - 1)
  omega
 have h4 : dval xs * 10 ^ (ys.length - xs.length) < dval ys := by unfold dval at *; omega
 have h2 : dval xs * 10 ^ (ys.length - xs.length) * 10 ^ xs.length < dval ys * 10 ^ xs.length := Nat.mul_lt_mul_of_pos_right h4 (Nat.pow_pos (by omega))
 rwa [Nat.mul_assoc, ← Nat.pow_add, show ys.length - xs.length + xs.length = ys.length by omega] at h2

/-- Row k of the table of left cheats: how many digits more, and the digits of a power of five. -/
def cheatN (k : Nat) : Nat := (Go.Pinned.cheatRows.getD k (0, [])).1
def cheatB (k : Nat) : List UInt8 := (Go.Pinned.cheatRows.getD k (0, [])).2
def cheatS (k : Nat) : ByteArray := ⟨(cheatB k).toArray⟩
def cheatD (k : Nat) : List Nat := (cheatB k).map fun x => x.toNat - 48

def cheatOk (k : Nat) : Bool :=
 decide (dval (cheatD k) = 5 ^ k) && decide (1 ≤ cheatN k) && decide ((cheatD k).length + cheatN k = k + 1) && decide (10 ^ (cheatN k - 1) ≤ 2 ^ k) && decide (2 ^ k < 10 ^ cheatN k) &&
 decide (dAt (cheatD k) ((cheatD k).length - 1) ≠ 0) && (cheatB k).all (fun x => decide (48 ≤ x.toNat) && decide (x.toNat < 58)) && decide ((cheatB k).length ≤ 60) && decide (cheatN k ≤ 20)

set_option maxRecDepth 100000 in
theorem cheats_all : (List.range 60).all (fun k => cheatOk (k + 1)) = true := by decide +kernel

theorem cheat_ok {k : Nat} (h0 : 0 < k) (h : k ≤ 60) : cheatOk k = true := by
 have h1 := List.all_eq_true.1 cheats_all (k - 1) (List.mem_range.2 (by omega))
 rwa [show k - 1 + 1 = k by omega] at h1

structure Cheat (k : Nat) : Prop where
 five : dval (cheatD k) = 5 ^ k
 one : 1 ≤ cheatN k
 len : (cheatD k).length + cheatN k = k + 1
 lo : 10 ^ (cheatN k - 1) ≤ 2 ^ k
 hi : 2 ^ k < 10 ^ cheatN k
 last : dAt (cheatD k) ((cheatD k).length - 1) ≠ 0
 dig : Digits (cheatD k)
 size : (cheatS k).size = (cheatD k).length
 short : (cheatD k).length ≤ 60
 small : cheatN k ≤ 20
 byte : ∀ i, i < (cheatD k).length → bt (cheatS k) i = 48 + (dAt (cheatD k) i : Nat)

theorem cheat {k : Nat} (h0 : 0 < k) (h : k ≤ 60) : Cheat k := by
 have hc := cheat_ok h0 h
 unfold cheatOk at hc
 simp only [Bool.and_eq_true, decide_eq_true_eq] at hc
 obtain ⟨⟨⟨⟨⟨⟨⟨⟨h1, h2⟩, h3⟩, h4⟩, h5⟩, h6⟩, h7⟩, h8⟩, h9⟩ := hc
 have hall : ∀ x, x ∈ cheatB k → 48 ≤ x.toNat ∧ x.toNat < 58 := by
  intro x hx
  have := List.all_eq_true.1 h7 x hx
  simpa using this
 have hlen : (cheatD k).length = (cheatB k).length := by simp [cheatD]
 have hget : ∀ i (hi : i < (cheatB k).length), dAt (cheatD k) i = ((cheatB k)[i]).toNat - 48 := by
  intro i hi
  unfold dAt cheatD
  rw [List.getD_eq_getElem?_getD, List.getElem?_map, List.getElem?_eq_getElem hi]
  rfl
 refine ⟨h1, h2, h3, h4, h5, h6, fun i hi => ?_, ?_, by omega, h9, fun i hi => ?_⟩
 ·rw [hget i (by omega)]
  have := hall _ (List.getElem_mem (l := cheatB k) (n := i) (by omega))
  omega
 ·rw [hlen]; show (cheatB k).toArray.size = _; simp
 ·have hi' : i < (cheatB k).length := by omega
  have hs : i < (cheatS k).size := by show i < (cheatB k).toArray.size; simpa using hi'
  have hb := get_bt (cheatS k) i hs
  rw [← hb, hget i hi']
  have h10 := hall _ (List.getElem_mem (l := cheatB k) (n := i) hi')
  have e : (cheatS k)[i] = (cheatB k)[i] := by
   exact List.getElem_toArray (xs := cheatB k) (i := i) (h := by simpa using hi')
  rw [e]
  omega

/-- Whether a decimal begins below a power of five's digits. -/
def below5 (ds : List Nat) (k : Nat) : Bool := decide (dval ds * 10 ^ (cheatD k).length < dval (cheatD k) * 10 ^ ds.length)

/-- How many digits more. -/
def moreD (ds : List Nat) (k : Nat) : Nat := if below5 ds k then cheatN k - 1 else cheatN k

theorem dval_lo {ds : List Nat} (hd : Digits ds) (hp : 0 < ds.length) (hf : dAt ds 0 ≠ 0) : 10 ^ (ds.length - 1) ≤ dval ds := by
 have h1 := (pre_head hd (ds.length - 1)).1
 rw [show ds.length - 1 + 1 = ds.length by omega] at h1
 have h2 : 1 * 10 ^ (ds.length - 1) ≤ dAt ds 0 * 10 ^ (ds.length - 1) := Nat.mul_le_mul_right _ (by omega)
 unfold dval
 omega

theorem dval_hi {ds : List Nat} (hd : Digits ds) : dval ds < 10 ^ ds.length := by
 have h := dval_lt_pre hd (Nat.zero_le _)
 simpa [pre] using h

theorem more_bounds {ds : List Nat} (hc : Headed ds) {k : Nat} (h0 : 0 < k) (hk : k ≤ 60) : 10 ^ (ds.length + moreD ds k - 1) ≤ dval ds * 2 ^ k ∧ dval ds * 2 ^ k < 10 ^ (ds.length + moreD ds k) := by
 have C := cheat h0 hk
 have h1 := dval_lo hc.digits hc.pos hc.first
 have h2 := dval_hi hc.digits
 have hp := hc.pos
 have h10 : ∀ n : Nat, 0 < 10 ^ n := fun n => Nat.pow_pos (by omega)
 -- what lies below, times ten to k
 have e5 : ∀ x : Nat, 5 ^ k * 2 ^ k = 10 ^ k := fun _ => by rw [← Nat.mul_pow]
 have key : ∀ L d : Nat, L + d = k + 1 → 1 ≤ d → 10 ^ L * 10 ^ (d - 1) = 5 ^ k * 2 ^ k := by
  intro L d h3 h4
  rw [e5 0, ← Nat.pow_add, show L + (d - 1) = k by omega]
 have hk' := key _ _ C.len C.one
 unfold moreD
 by_cases hb : below5 ds k = true
 ·rw [if_pos hb]
  have hb' := of_decide_eq_true hb
  rw [C.five] at hb'
  constructor
  ·have h3 : 10 ^ (ds.length - 1) * 10 ^ (cheatN k - 1) ≤ dval ds * 2 ^ k := Nat.mul_le_mul h1 C.lo
   rwa [← Nat.pow_add, show ds.length - 1 + (cheatN k - 1) = ds.length + (cheatN k - 1) - 1 by omega] at h3
  ·have h3 : dval ds * 10 ^ (cheatD k).length * 10 ^ (cheatN k - 1) < 5 ^ k * 10 ^ ds.length * 10 ^ (cheatN k - 1) := Nat.mul_lt_mul_of_pos_right hb' (h10 _)
   rw [Nat.mul_assoc, hk', Nat.mul_assoc (5 ^ k), ← Nat.pow_add, show dval ds * (5 ^ k * 2 ^ k) = 5 ^ k * (dval ds * 2 ^ k) by ac_rfl] at h3
   exact Nat.lt_of_mul_lt_mul_left h3
 ·rw [if_neg hb]
  have hb' : 5 ^ k * 10 ^ ds.length ≤ dval ds * 10 ^ (cheatD k).length := by
   unfold below5 at hb
   rw [C.five] at hb
   simp only [decide_eq_true_eq] at hb
   exact Nat.not_lt.1 hb
  constructor
  ·have h3 : 5 ^ k * 10 ^ ds.length * 10 ^ (cheatN k - 1) ≤ dval ds * 10 ^ (cheatD k).length * 10 ^ (cheatN k - 1) := Nat.mul_le_mul_right _ hb'
   rw [Nat.mul_assoc (dval ds), hk', Nat.mul_assoc (5 ^ k), ← Nat.pow_add, show dval ds * (5 ^ k * 2 ^ k) = 5 ^ k * (dval ds * 2 ^ k) by ac_rfl] at h3
   have h4 := Nat.le_of_mul_le_mul_left h3 (Nat.pow_pos (n := k) (by omega : 0 < 5))
   rwa [show ds.length + (cheatN k - 1) = ds.length + cheatN k - 1 by have := C.one; omega] at h4
  ·rw [Nat.pow_add]
   exact Nat.mul_lt_mul_of_lt_of_lt h2 C.hi

theorem ten_lt {a b : Nat} (h : 10 ^ a < 10 ^ b) : a < b := (Nat.pow_lt_pow_iff_right (by omega)).1 h

/-- How many digits a decimal shifted left has. -/
theorem more_len {ds out : List Nat} (hc : Headed ds) {k : Nat} (h0 : 0 < k) (hk : k ≤ 60) (hd : Digits out) (hp : 0 < out.length) (hf : dAt out 0 ≠ 0) (he : dval out = dval ds * 2 ^ k) : out.length = ds.length + moreD ds k := by
 obtain ⟨h1, h2⟩ := more_bounds hc h0 hk
 have h3 := dval_lo hd hp hf
 have h4 := dval_hi hd
 rw [he] at h3 h4
 have h5 := ten_lt (Nat.lt_of_le_of_lt h1 h4)
 have h6 := ten_lt (Nat.lt_of_le_of_lt h3 h2)
 omega

/-- While something is carried, there is room. -/
theorem Doubling.room {ds out : List Nat} {k n : Nat} (h : Doubling ds k out n) (hc : Headed ds) (h0 : 0 < k) (hk : k ≤ 60) (hn : 0 < n) (hl : ds.length ≤ out.length) : out.length < ds.length + moreD ds k := by
 have h1 := h.eq
 rw [show ds.length - out.length = 0 by omega, suf_zero] at h1
 have h2 := (more_bounds hc h0 hk).2
 have h3 : 1 * 10 ^ out.length ≤ n * 10 ^ out.length := Nat.mul_le_mul_right _ hn
 exact ten_lt (by omega)

theorem more_small (ds : List Nat) {k : Nat} (h0 : 0 < k) (hk : k ≤ 60) : moreD ds k ≤ 20 := by
 have := (cheat h0 hk).small
 unfold moreD
 split <;> omega

end Go.Proofs.YtgolhmiocjpohaaGreatDoor

namespace Go.Proofs.YtgolhmiocjpohaaGreatDoor
open Go.RowKit Go.PlainAid

set_option maxHeartbeats 1600000 in
set_option maxRecDepth 100000 in
theorem slow_below (w : World) (b cap : Nat) (ds : List Nat) (k : Nat) (hd : Digits ds) (hl : ds.length ≤ 800) (h0 : 0 < k) (hk : k ≤ 60) (hcap : ds.length ≤ cap)
  (hc : ∀ i, i < ds.length → w.cell? ⟨b, i, none⟩ = some (.int .u8 (48 + dAt ds i : Nat))) :
  Calls Tryz.prog 206 #[.slice (some ⟨b, 0, none⟩) ds.length cap, .string (cheatS k)] w fun e w' => e = .returned (.bool (below5 ds k)) ∧ ∃ m, w' = w.drewN m := by
 have C := cheat h0 hk
 obtain ⟨cl, hcl⟩ : ∃ cl, cl = cheatD k := ⟨_, rfl⟩
 obtain ⟨s, hs⟩ : ∃ s, s = cheatS k := ⟨_, rfl⟩
 obtain ⟨R, hR⟩ : ∃ R, R = below5 ds k := ⟨_, rfl⟩
 have hb := get_bt s
 have hsz : s.size = cl.length := by rw [hs, hcl]; exact C.size
 have hby : ∀ i, i < cl.length → bt s i = 48 + (dAt cl i : Nat) := by rw [hs, hcl]; exact C.byte
 have HB := Lib.hid hby
 have HC := Lib.hid hc
 have HCL : Hid (Digits cl ∧ cl.length ≤ 60 ∧ dAt cl (cl.length - 1) ≠ 0) := by rw [hcl]; exact ⟨C.dig, C.short, C.last⟩
 have HR : Hid (R = decide (dval ds * 10 ^ cl.length < dval cl * 10 ^ ds.length)) := by show _ = _; rw [hR, hcl]; rfl
 have HS := Lib.hid hs
 have HD := Lib.hid hd
 rw [← hs, ← hR]
 clear hcl hR hc hby C hs hd
 go_enter Tryz.func206, Tryz.ntmps206
 go_wp2_with fail
 go_loopw [5] (fun s5 wr => ∃ i : Nat, s5 = .int .i64 (i : Int) ∧ i ≤ cl.length ∧ i ≤ ds.length ∧ pre ds i = pre cl i ∧ ∃ m, wr = w.drewN m) (fun s5 _ => 100 - (intOf s5).toNat)
 case atStart => exact ⟨0, rfl, by omega, by omega, rfl, 0, rfl⟩
 case round =>
  obtain ⟨i, rfl, hi1, hi2, hp, hm⟩ := hrel
  have HM := Lib.hid hm
  clear hm
  have HP := Lib.hid hp
  have h60 := HCL.out.2.1
  clear hp
  by_cases hi : i < cl.length
  ·have h1 : (i : Int) < (s.size : Int) := by omega
   by_cases hn : i < ds.length
   ·have h2 : ¬ (ds.length : Int) ≤ (i : Int) := by omega
    have hci : wr.cell? ⟨b, i, none⟩ = some (.int .u8 (48 + dAt ds i : Nat)) := by
     obtain ⟨m, hm⟩ := HM.out
     rw [hm, cell_heap_eq (heap_drewN _ _)]; exact HC.out i hn
    have hbi := HB.out i hi
    have hx9 := HD.out.all i
    have hy9 := HCL.out.1.all i
    obtain ⟨x, hx⟩ : ∃ x, x = dAt ds i := ⟨_, rfl⟩
    obtain ⟨y, hy⟩ : ∃ y, y = dAt cl i := ⟨_, rfl⟩
    have HX := Lib.hid hx
    have HY := Lib.hid hy
    rw [← hx] at hci hx9
    rw [← hy] at hbi hy9
    clear hx hy
    by_cases e : x = y
    ·subst e
     go_wp2_with fail
     go_quiet (fail)
     go_wp2_with fail
     go_roundw
     case rel =>
      refine ⟨i + 1, by go_num, by omega, by omega, ?_, ?_⟩
      ·show pre ds i * 10 + dAt ds i = pre cl i * 10 + dAt cl i
       rw [HP.out, ← HX.out, ← HY.out]
      ·obtain ⟨m, hm⟩ := HM.out
       exact ⟨m + nq, by rw [hm, World.drewN_drewN]⟩
     case measure => simp [intOf]; omega
    ·have hne : ((48 + x : Nat) : Int) ≠ 48 + (y : Int) := by omega
     have hne1 : (((48 + x : Nat) : Int) == 48 + (y : Int)) = false := by simpa using hne
     have hne2 : (((48 : Int) + (x : Int)) == 48 + (y : Int)) = false := by simp; omega
     obtain ⟨t, ht⟩ : ∃ t, t = decide (x < y) := ⟨_, rfl⟩
     have HT : Hid (R = t) := by
      show R = t
      rw [HR.out, ht]
      have e1 : pre ds (i + 1) = pre ds i * 10 + x := by rw [HX.out]; rfl
      have e2 : pre cl (i + 1) = pre cl i * 10 + y := by rw [HY.out]; rfl
      have hp := HP.out
      by_cases hxy : x < y
      ·have := lex_lt HD.out (xs := ds) (ys := cl) (j := i + 1) (by omega) (by omega) (by omega)
       rw [decide_eq_true this, decide_eq_true (by omega)]
      ·have := lex_lt HCL.out.1 (xs := cl) (ys := ds) (j := i + 1) (by omega) (by omega) (by omega)
       rw [decide_eq_false (by omega), decide_eq_false (by omega)]
     clear hne
     go_wp2_with fail
     go_quiet (fail)
     go_wp2_with fail
     go_quiet (fail)
     go_wp2_with fail
     go_ret
     obtain ⟨m, hm⟩ := HM.out
     exact ⟨by rw [HT.out]; first | rfl | (rw [ht]; rfl), _, by rw [hm, World.drewN_drewN, World.drewN_drewN]⟩
   ·have h2 : (ds.length : Int) ≤ (i : Int) := by omega
    have HT : Hid (R = true) := by
     show R = true
     rw [HR.out]
     have e : i = ds.length := by omega
     have h3 := HP.out
     rw [e] at h3
     exact decide_eq_true (lex_short (by omega) h3 HCL.out.2.2 HCL.out.1)
    go_wp2_with fail
    go_ret
    obtain ⟨m, hm⟩ := HM.out
    exact ⟨by rw [HT.out]; rfl, m, hm⟩
  ·have h1 : ¬ (i : Int) < (s.size : Int) := by omega
   have HT : Hid (R = false) := by
    show R = false
    rw [HR.out]
    have e : i = cl.length := by omega
    have h3 := HP.out
    rw [e] at h3
    have := lex_eq (xs := ds) (ys := cl) (by omega) h3
    exact decide_eq_false (by omega)
   go_wp2_with fail
   go_ret
   obtain ⟨m, hm⟩ := HM.out
   exact ⟨by rw [HT.out]; rfl, m, hm⟩

end Go.Proofs.YtgolhmiocjpohaaGreatDoor

namespace Go.Proofs.YtgolhmiocjpohaaGreatDoor
open Go.RowKit Go.PlainAid

/-- What the walks read of the table of left cheats. -/
def CheatAt (base : Nat) (w : World) : Prop := ∃ B o cap, B < base ∧ 16 < base ∧ 61 ≤ cap ∧ w.cell? ⟨16, 0, none⟩ = some (.slice (some ⟨B, o, none⟩) 61 cap) ∧
 ∀ i, i < 61 → w.cell? ⟨B, o + i * 2, none⟩ = some (.int .i64 (cheatN i : Nat)) ∧ w.cell? ⟨B, o + i * 2 + 1, none⟩ = some (.string (cheatS i))

theorem CheatAt.only {base b : Nat} {w w' : World} (h : CheatAt base w) (ho : Only b w w') (hb : base ≤ b) (hs : base ≤ w.heap.size) : CheatAt base w' := by
 obtain ⟨B, o, cap, h1, h2, h3, h4, h5⟩ := h
 refine ⟨B, o, cap, h1, h2, h3, ?_, fun i hi => ⟨?_, ?_⟩⟩
 ·rw [ho.cell (by omega) (by omega)]; exact h4
 ·rw [ho.cell (by omega) (by omega)]; exact (h5 i hi).1
 ·rw [ho.cell (by omega) (by omega)]; exact (h5 i hi).2

theorem CheatAt.heap_eq {base : Nat} {w w' : World} (h : CheatAt base w) (he : w'.heap = w.heap) : CheatAt base w' := by
 obtain ⟨B, o, cap, h1, h2, h3, h4, h5⟩ := h
 refine ⟨B, o, cap, h1, h2, h3, by rw [cell_heap_eq he]; exact h4, fun i hi => ⟨by rw [cell_heap_eq he]; exact (h5 i hi).1, by rw [cell_heap_eq he]; exact (h5 i hi).2⟩⟩

/-- Whether digits beyond the 800th hold something: from the last digit on. -/
def hiAny (out : List Nat) (W : Nat) : Bool := (out.take (W - 800)).any fun d => decide (d ≠ 0)

theorem hiAny_snoc {out : List Nat} {q W : Nat} : (W - 800 ≤ out.length → hiAny (out ++ [q]) W = hiAny out W) ∧ (out.length < W - 800 → hiAny (out ++ [q]) W = (hiAny out W || decide (q ≠ 0))) := by
 unfold hiAny
 refine ⟨fun h => ?_, fun h => ?_⟩
 ·rw [List.take_append_of_le_length h]
 ·rw [List.take_of_length_le (by simp; omega), List.take_of_length_le (by omega), List.any_append]
  simp

theorem hiAny_end {out : List Nat} {W : Nat} (h : out.length = W) : hiAny out W = cutTr out.reverse := by
 unfold hiAny cutTr
 rw [List.drop_reverse, List.any_reverse, h]

/-- What is written of the digits of a shift left. -/
def PutL (b : Nat) (ds : List Nat) (dp : Int) (neg tr : Bool) (w wr : World) (out : List Nat) (W : Nat) : Prop :=
 ∃ g, RDec wr b g (ds.length : Nat) dp neg (tr || hiAny out W) ∧ (∀ t, t + out.length < ds.length → g t = 48 + dAt ds t) ∧ (∀ j, j < out.length → W - 1 - j < 800 → g (W - 1 - j) = 48 + dAt out j) ∧ Only b w wr

theorem PutL.step {b : Nat} {ds : List Nat} {dp : Int} {neg tr : Bool} {w wr : World} {out : List Nat} {W v q : Nat} (h : PutL b ds dp neg tr w wr out W) (hv : v + 1 + out.length = W) (hW : ds.length ≤ W) (hq : q < 10) (h8 : v < 800) :
  PutL b ds dp neg tr w (wr.setCell ⟨b, v, none⟩ (.int .u8 ((q : Int) + 48))) (out ++ [q]) W := by
 obtain ⟨g, h1, h2, h3, h4⟩ := h
 refine ⟨fun t => if t = v then q + 48 else g t, ?_, fun t h5 => ?_, fun j h5 h6 => ?_, h4.set _ _⟩
 ·have h7 := h1.setD (i := v) (v := q + 48) h8 (by omega)
  rw [hiAny_snoc.1 (by omega)]
  exact h7
 ·simp only [List.length_append, List.length_singleton] at h5
  show (if t = v then q + 48 else g t) = _
  rw [if_neg (by omega)]
  exact h2 t (by omega)
 ·simp only [List.length_append, List.length_singleton] at h5
  show (if W - 1 - j = v then q + 48 else g (W - 1 - j)) = _
  rw [dAt_snoc]
  by_cases e : j = out.length
  ·rw [if_pos (by omega), if_neg (by omega), if_pos e]
   omega
  ·rw [if_neg (by omega), if_pos (by omega)]
   exact h3 j (by omega) h6

theorem PutL.stepHigh {b : Nat} {ds : List Nat} {dp : Int} {neg tr : Bool} {w wr : World} {out : List Nat} {W v q : Nat} (h : PutL b ds dp neg tr w wr out W) (hv : v + 1 + out.length = W) (h8 : 800 ≤ v) :
  (q ≠ 0 → PutL b ds dp neg tr w (wr.setCell ⟨b, 803, none⟩ (.bool true)) (out ++ [q]) W) ∧ (q = 0 → PutL b ds dp neg tr w wr (out ++ [q]) W) := by
 obtain ⟨g, h1, h2, h3, h4⟩ := h
 have h5 : ∀ j, j < (out ++ [q]).length → W - 1 - j < 800 → g (W - 1 - j) = 48 + dAt (out ++ [q]) j := by
  intro j h5 h6
  simp only [List.length_append, List.length_singleton] at h5
  omega
 have h6 : ∀ t, t + (out ++ [q]).length < ds.length → g t = 48 + dAt ds t := by
  intro t h7
  simp only [List.length_append, List.length_singleton] at h7
  exact h2 t (by omega)
 refine ⟨fun hq => ⟨g, ?_, h6, h5, h4.set _ _⟩, fun hq => ⟨g, ?_, h6, h5, h4⟩⟩
 ·rw [hiAny_snoc.2 (by omega)]
  have e : (tr || (hiAny out W || decide (q ≠ 0))) = true := by simp [hq]
  rw [e]
  exact h1.setT true
 ·rw [hiAny_snoc.2 (by omega)]
  have e : (hiAny out W || decide (q ≠ 0)) = hiAny out W := by simp [hq]
  rw [e]
  exact h1

set_option maxHeartbeats 1600000 in
set_option maxRecDepth 100000 in
theorem slow_left (w : World) (base b : Nat) (ds : List Nat) (dp : Int) (neg tr : Bool) (k : Nat) (h : SDec w b ds dp neg tr) (hch : CheatAt base w) (hc : Headed ds) (hdp : -1000000 ≤ dp ∧ dp ≤ 1000000) (hk1 : 0 < k) (hk : k ≤ 59) :
  Calls Tryz.prog 199 #[.pointer (some ⟨b, 0, none⟩), .int .u64 (k : Int)] w (SShift b ds dp neg tr (2 ^ k) 1 20 0 w) := by
 obtain ⟨hd, hl, g, hr, hg⟩ := h
 obtain ⟨B, o, cap, _, _, hcap, hsl, hrow⟩ := hch
 obtain ⟨hc0, hc1⟩ := hrow k (by omega)
 have HC := Lib.hid hc
 have HR := Lib.hid hr
 have HG := Lib.hid hg
 have HL := Lib.hid hl
 have HK1 := Lib.hid hk1
 have c0 := hr.cn
 have f0 := hr.fr
 have hkI : (k : Int) < 61 := by omega
 have hlI : (ds.length : Int) ≤ 800 := by omega
 have hB := Lib.hid (fun n => slow_below (w.drewN n) b 800 ds k hd hl hk1 (by omega) (by omega) (fun i hi => by rw [cell_heap_eq (heap_drewN _ _), hr.cd (by omega), hg i hi]))
 clear hr hg hc hd hrow
 have C := Lib.hid (cheat hk1 (show k ≤ 60 by omega))
 obtain ⟨R, hR⟩ : ∃ R, R = below5 ds k := ⟨_, rfl⟩
 obtain ⟨N, hN⟩ : ∃ N, N = cheatN k := ⟨_, rfl⟩
 have hM : Hid (moreD ds k = if R then N - 1 else N) := by show _ = _; rw [hR, hN]; rfl
 have h1 := C.out.one
 have h2 := C.out.small
 rw [← hR] at hB
 rw [← hN] at h1 h2 hc0
 clear C hR hN
 go_enter Tryz.func199, Tryz.ntmps199
 go_upto_region 1 with fail
 go_cut [30] from 12 to 30 (fun s30 wx => s30 = .bool R ∧ ∃ m, wx = w.drewN m)
 case first =>
  go_quiet ((go_at_call 206; exact Calls.quiet_of (hB.out _)))
  go_wp2_with fail
  go_meet
  case rel => exact ⟨rfl, _, rfl⟩
 case rest =>
 obtain ⟨rfl, m1, rfl⟩ := hcut
 go_upto_if 30 with fail
 go_cut [4] from 12 to 32 (fun s4 wx => s4 = .int .i64 (moreD ds k : Nat) ∧ wx = w.drewN m1)
 case first =>
  clear hc0
  cases R with
  | true =>
   go_wp2_with fail
   go_meet
   case rel => exact ⟨by rw [hM.out]; simp; omega, rfl⟩
  | false =>
   go_wp2_with fail
   go_meet
   case rel => exact ⟨by rw [hM.out]; simp, rfl⟩
 case rest =>
  obtain ⟨rfl, rfl⟩ := hcut
  clear hM h1 h2
  have HM20 := more_small ds HK1.out (show k ≤ 60 by omega)
  have HROOM : Hid (∀ out n, Doubling ds k out n → 0 < n → ds.length ≤ out.length → out.length < ds.length + moreD ds k) := fun out n h1 h2 h3 => h1.room HC.out HK1.out (by omega) h2 h3
  have HLEN : Hid (∀ out, Digits out → 0 < out.length → dAt out 0 ≠ 0 → dval out = dval ds * 2 ^ k → out.length = ds.length + moreD ds k) := fun out h1 h2 h3 h4 => more_len HC.out HK1.out (by omega) h1 h2 h3 h4
  obtain ⟨M, hM⟩ : ∃ M, M = moreD ds k := ⟨_, rfl⟩
  rw [← hM] at HM20 HROOM HLEN ⊢
  have HR0 : Hid (RDec (w.drewN m1) b g (ds.length : Nat) dp neg tr) := HR.out.drewN _
  have HO0 : Hid (Only b w (w.drewN m1)) := (Only.refl _ _).drewN _
  clear hM hc0 hc1 hsl hcap hB HR HK1 c0 f0
  generalize w.drewN m1 = w0 at *
  have c0 := HR0.out.cn
  have c1 := HR0.out.cp
  have f0 := HR0.out.fr
  obtain ⟨P, hP⟩ : ∃ P : Nat, P = 2 ^ k := ⟨_, rfl⟩
  have hPi : (2 : Int) ^ k = (P : Int) := by rw [hP]; simp
  have HP := Lib.hid hP
  have HPP : Hid (0 < P ∧ P ≤ 576460752303423488) := by rw [hP]; exact ⟨Nat.pow_pos (by omega), two_pow_59 hk⟩
  clear hP
  obtain ⟨W, hW⟩ : ∃ W, W = ds.length + M := ⟨_, rfl⟩
  have HW := Lib.hid hW
  have HP0 : Hid (PutL b ds dp neg tr w w0 [] W) := by
   refine ⟨g, ?_, fun t ht => HG.out t (by simpa using ht), fun j hj => by simp at hj, HO0.out⟩
   rw [show hiAny [] W = false from by simp [hiAny], Bool.or_false]
   exact HR0.out
  rw [← hW] at HROOM HLEN
  have HM1 := Lib.hid HM20
  clear hW
  go_wp2_with fail
  clear c0 c1 f0 HR0 HO0 HG HM20
  go_loopg [5, 6, 7] (ds.length + 1) (fun gk s5 s6 s7 wr => ∃ (out : List Nat) (n v : Nat) (x : Int), s5 = .int .i64 x ∧ x = (ds.length : Int) - 1 - (out.length : Int) ∧ s6 = .int .i64 (v : Nat) ∧ v + out.length = W ∧ s7 = .int .u64 (n : Nat) ∧ gk + out.length = ds.length + 1 ∧ Doubling ds k out n ∧ PutL b ds dp neg tr w wr out W)
  case atStart => exact ⟨[], 0, W, _, rfl, by simp, by have := HW.out; simp; omega, by simp, rfl, by simp, Doubling.start ds k, HP0.out⟩
  case round =>
   clear HP0
   obtain ⟨out, n, v, x, rfl, hx, rfl, hvW, rfl, hgk, hD, hP⟩ := hrel
   have HX := Lib.hid (And.intro hvW hgk)
   have HD := Lib.hid hD
   have HPUT := Lib.hid hP
   clear hD hgk
   by_cases hl : out.length < ds.length
   ·obtain ⟨j, hj⟩ : ∃ j, ds.length = out.length + 1 + j := ⟨ds.length - 1 - out.length, by omega⟩
    obtain ⟨v, rfl⟩ : ∃ v', v = v' + 1 := ⟨v - 1, by have := HW.out; omega⟩
    have ej : x = (j : Int) := by omega
    subst ej
    clear hx
    obtain ⟨g', hrd, hgd, _, _⟩ := hP
    have hj8 : (j : Int) < 800 := by have := HL.out; omega
    have hcj := hrd.cd (i := j) (by have := HL.out; omega)
    rw [hgd j (by omega)] at hcj
    have f0 := hrd.fr
    obtain ⟨d, hd⟩ : ∃ d, d = dAt ds j := ⟨_, rfl⟩
    rw [← hd] at hcj
    obtain ⟨q, hq⟩ : ∃ q, q = d * P := ⟨_, rfl⟩
    obtain ⟨n1, hn1⟩ : ∃ n1, n1 = n + q := ⟨_, rfl⟩
    have hst := HD.out.step HC.out.digits HC.out.first hl n1 (by rw [hn1, hq, HP.out, hd, show ds.length - 1 - out.length = j by omega])
    have hd10 : d < 10 := by rw [hd]; exact HC.out.digits.all j
    have hqb : q ≤ 9 * 576460752303423488 := by
     rw [hq]
     exact Nat.mul_le_mul (by omega) HPP.out.2
    have hnb : n ≤ 576460752303423488 := by have := HD.out.lt; have := HPP.out.2; rw [HP.out] at this; omega
    have HST := Lib.hid hst.2
    clear hst
    have eq1 : ((48 : Int) + (d : Int) - 48) * (P : Int) = (q : Int) := by rw [hq, show (48 : Int) + (d : Int) - 48 = (d : Int) by omega]; simp
    have eq2 : (n : Int) + (q : Int) = (n1 : Int) := by rw [hn1]; simp
    have hn1b : n1 ≤ 10 * 576460752303423488 := by omega
    have HJ := Lib.hid hj
    clear hd hq hn1 hj
    obtain ⟨r, hr⟩ : ∃ r, r = n1 % 10 := ⟨_, rfl⟩
    obtain ⟨m, hm⟩ : ∃ m, m = n1 / 10 := ⟨_, rfl⟩
    have eq3 : (n1 : Int) - 10 * (m : Int) = (r : Int) := by omega
    have eq4 : (n1 : Int) / 10 = (m : Int) := by omega
    have hr10 : (r : Int) < 10 := by omega
    have hr10' : r < 10 := by omega
    have hmb : m ≤ 5764607523034234880 := by omega
    rw [← hr, ← hm] at HST
    clear hr hm
    by_cases hv8 : v < 800
    ·have hvI : (v : Int) < 800 := by omega
     have hcv := hrd.cd hv8
     have fv := f0 v
     have HS := Lib.hid (HPUT.out.step (v := v) (q := r) (by have := HX.out.1; omega) (by have := HW.out; omega) hr10' hv8)
     clear hrd hgd f0 hl hvW
     go_wp2_with fail
     go_roundg (ds.length - out.length)
     case measure => have := HX.out.2; have := HJ.out; omega
     case rel => exact ⟨out ++ [r], m, v, _, rfl, by have := HJ.out; simp; omega, rfl, by have := HX.out.1; simp; omega, rfl, by have := HJ.out; simp; omega, HST.out, HS.out⟩
    ·have hvI : ¬ (v : Int) < 800 := by omega
     have hvb : v ≤ 820 := by have := HX.out.1; have := HW.out; have := HM1.out; omega
     have hct := hrd.ct
     have ft := f0 803
     have HS := Lib.hid (HPUT.out.stepHigh (v := v) (q := r) (by have := HX.out.1; omega) (by omega))
     clear hrd hgd f0 hl hvW
     by_cases hr0 : r = 0
     ·subst hr0
      have eq3' : (n1 : Int) - 10 * (m : Int) = 0 := eq3
      clear eq3
      go_wp2_with fail
      go_roundg (ds.length - out.length)
      case measure => have := HX.out.2; have := HJ.out; omega
      case rel => exact ⟨out ++ [0], m, v, _, rfl, by have := HJ.out; simp; omega, rfl, by have := HX.out.1; simp; omega, rfl, by have := HJ.out; simp; omega, HST.out, HS.out.2 (by first | trivial | rfl)⟩
     ·have hr0b : ((r : Int) == 0) = false := by simp [hr0]
      have HR0 := Lib.hid hr0
      clear hr0
      go_wp2_with fail
      go_roundg (ds.length - out.length)
      case measure => have := HX.out.2; have := HJ.out; omega
      case rel => exact ⟨out ++ [r], m, v, _, rfl, by have := HJ.out; simp; omega, rfl, by have := HX.out.1; simp; omega, rfl, by have := HJ.out; simp; omega, HST.out, HS.out.1 HR0.out⟩
   ·have hx0 : ¬ 0 ≤ x := by omega
    have HGE : Hid (ds.length ≤ out.length) := Nat.not_lt.1 hl
    clear hx hl hP hvW
    have hHL := HL.out
    have hHW := HW.out
    have hHM := HM1.out
    go_wp2_with fail
    have HX0 : Hid (v + out.length = W) := HX.out.1
    clear HX hHL hHW hHM hx0
    go_loopg [6, 7] (W + 1 - out.length) (fun gk s6 s7 wr => ∃ (out : List Nat) (n v : Nat), s6 = .int .i64 (v : Nat) ∧ v + out.length = W ∧ s7 = .int .u64 (n : Nat) ∧ gk + out.length = W + 1 ∧ ds.length ≤ out.length ∧ Doubling ds k out n ∧ PutL b ds dp neg tr w wr out W)
    case atStart => exact ⟨out, n, v, rfl, HX0.out, rfl, by have := HX0.out; omega, HGE.out, HD.out, HPUT.out⟩
    case round =>
     clear HX0 HGE HD HPUT
     obtain ⟨out, n, v, rfl, hvW, rfl, hgk, hge, hD, hP⟩ := hrel
     have HX := Lib.hid (And.intro hvW (And.intro hgk hge))
     have HD := Lib.hid hD
     have HPUT := Lib.hid hP
     have hnb : n ≤ 576460752303423488 := by have := HD.out.lt; have := HPP.out.2; rw [HP.out] at this; omega
     clear hD hgk
     by_cases hn : n = 0
     ·subst hn
      obtain ⟨he, hdg, hf1⟩ := HD.out.end hge HC.out.pos
      have hlenW : out.length = W := by
       have := HLEN.out out.reverse hdg (by rw [List.length_reverse]; have := HC.out.pos; omega) hf1 he
       rwa [List.length_reverse] at this
      have HE := Lib.hid (And.intro he (And.intro hdg (And.intro hf1 hlenW)))
      obtain ⟨g', hrd, _, hgo, ho⟩ := hP
      rw [hiAny_end hlenW] at hrd
      have c0 := hrd.cn
      have c1 := hrd.cp
      have f0 := hrd.fr
      have hLL := HL.out
      have hWM := HW.out
      have hMM := HM1.out
      have hb1 : -1000000 ≤ dp := hdp.1
      have hb2 : dp ≤ 1000000 := hdp.2
      have HSD : ∀ (w1 : World), RDec w1 b g' ((min W 800 : Nat) : Int) (dp + (M : Int)) neg (tr || cutTr out.reverse) → SDec w1 b (out.reverse.take 800) (dp + (M : Int)) neg (tr || cutTr out.reverse) := by
       intro w1 h1
       have hlen : (out.reverse.take 800).length = min W 800 := by rw [List.length_take, List.length_reverse, hlenW]; omega
       refine ⟨fun t ht => ?_, by omega, g', by rw [hlen]; exact h1, fun t ht => ?_⟩
       ·rw [dAt_take]
        split
        ·exact hdg.all t
        ·omega
       ·rw [dAt_take, if_pos (by omega), dAt_reverse _ _ (by omega), ← hgo (out.length - 1 - t) (by omega) (by omega)]
        congr 1
        omega
      have HSDH := Lib.hid HSD
      have HEND : Hid (∀ (w1 w9 : World) (es : List Nat), Only b w w1 → Trimmed (out.reverse.take 800) es → SDec w9 b es (if es = [] then 0 else dp + (M : Int)) neg (tr || cutTr out.reverse) → Only b w1 w9 → SShift b ds dp neg tr (2 ^ k) 1 20 0 w (.returned (.tuple #[])) w9) := by
       intro w1 w9 es q1 t1 t2 t3
       obtain ⟨he, hdg, hf1, hlenW⟩ := HE.out
       have hpos := HC.out.pos
       have hne : ¬ es = [] := by
        intro e
        have h5 : dAt (out.reverse.take 800) 0 ≠ 0 := by rw [dAt_take, if_pos (by omega)]; exact hf1
        have h6 : Digits (out.reverse.take 800) := fun t ht => by rw [dAt_take]; split; (· exact hdg.all t); (· omega)
        have := (t1.canon h6 h5 (by rw [List.length_take, List.length_reverse]; omega)).pos
        rw [e] at this
        simp at this
       rw [if_neg hne] at t2
       refine ⟨rfl, out.reverse, _, es, ⟨hdg, by rw [List.length_reverse]; omega, hf1, fun A B hs => ?_, by rw [List.length_reverse]; omega, by rw [List.length_reverse]; omega, ⟨by omega, fun _ => by omega⟩, ⟨by omega, fun e => absurd rfl e⟩⟩, t1, t2, q1.trans t3⟩
       rw [Nat.mul_one]
       exact hs.double he (by rw [List.length_reverse]; omega)
      have HO := Lib.hid ho
      have HRD := Lib.hid hrd
      clear HSD hrd hgo ho he hdg hf1 hlenW hvW hge
      by_cases h8 : W < 800
      ·have h8I : (W : Int) < 800 := by omega
       have HRR : Hid (RDec ((wr.setCell ⟨b, 800, none⟩ (.int .i64 ((ds.length : Int) + (M : Int)))).setCell ⟨b, 801, none⟩ (.int .i64 (dp + (M : Int)))) b g' ((min W 800 : Nat) : Int) (dp + (M : Int)) neg (tr || cutTr out.reverse)) := by
        have h1 := (HRD.out.setN ((ds.length : Int) + (M : Int))).setP (dp + (M : Int))
        rwa [show ((ds.length : Int) + (M : Int)) = ((min W 800 : Nat) : Int) by omega] at h1 ⊢
       have HOO : Hid (Only b w ((wr.setCell ⟨b, 800, none⟩ (.int .i64 ((ds.length : Int) + (M : Int)))).setCell ⟨b, 801, none⟩ (.int .i64 (dp + (M : Int))))) := (HO.out.set _ _).set _ _
       have HTR := Lib.hid (slow_trim _ b _ _ neg _ (HSDH.out _ HRR.out))
       have hcmp : ¬ (800 : Int) ≤ (ds.length : Int) + (M : Int) := by omega
       go_wp2_with (go_at_call 207; (with_reducible refine HTR.out.mono ?_); rintro e w9 ⟨rfl, es, t1, t2, t3⟩; have H9 := Lib.hid (And.intro t1 (And.intro t2 t3)); clear t1 t2 t3)
       go_end0
       obtain ⟨t1, t2, t3⟩ := H9.out
       exact HEND.out _ _ _ HOO.out t1 t2 t3
      ·have h8I : ¬ (W : Int) < 800 := by omega
       have HRR : Hid (RDec (((wr.setCell ⟨b, 800, none⟩ (.int .i64 ((ds.length : Int) + (M : Int)))).setCell ⟨b, 800, none⟩ (.int .i64 800)).setCell ⟨b, 801, none⟩ (.int .i64 (dp + (M : Int)))) b g' ((min W 800 : Nat) : Int) (dp + (M : Int)) neg (tr || cutTr out.reverse)) := by
        have h1 := ((HRD.out.setN ((ds.length : Int) + (M : Int))).setN 800).setP (dp + (M : Int))
        rw [show ((min W 800 : Nat) : Int) = 800 by omega]
        exact h1
       have HOO : Hid (Only b w (((wr.setCell ⟨b, 800, none⟩ (.int .i64 ((ds.length : Int) + (M : Int)))).setCell ⟨b, 800, none⟩ (.int .i64 800)).setCell ⟨b, 801, none⟩ (.int .i64 (dp + (M : Int))))) := ((HO.out.set _ _).set _ _).set _ _
       have HTR := Lib.hid (slow_trim _ b _ _ neg _ (HSDH.out _ HRR.out))
       have hcmp : (800 : Int) ≤ (ds.length : Int) + (M : Int) := by omega
       go_wp2_with (go_at_call 207; (with_reducible refine HTR.out.mono ?_); rintro e w9 ⟨rfl, es, t1, t2, t3⟩; have H9 := Lib.hid (And.intro t1 (And.intro t2 t3)); clear t1 t2 t3)
       go_end0
       obtain ⟨t1, t2, t3⟩ := H9.out
       exact HEND.out _ _ _ HOO.out t1 t2 t3
     ·have hn' : (0 : Int) < (n : Int) := by omega
      have hroom := HROOM.out out n HD.out (by omega) hge
      have HRM := Lib.hid hroom
      obtain ⟨v, rfl⟩ : ∃ v', v = v' + 1 := ⟨v - 1, by omega⟩
      have HST := Lib.hid (HD.out.carry hk hge (by omega))
      obtain ⟨g', hrd, hgd, _, _⟩ := hP
      have f0 := hrd.fr
      obtain ⟨r, hr⟩ : ∃ r, r = n % 10 := ⟨_, rfl⟩
      obtain ⟨m, hm⟩ : ∃ m, m = n / 10 := ⟨_, rfl⟩
      have eq3 : (n : Int) - 10 * (m : Int) = (r : Int) := by omega
      have eq4 : (n : Int) / 10 = (m : Int) := by omega
      have hr10 : (r : Int) < 10 := by omega
      have hr10' : r < 10 := by omega
      have hmb : m ≤ 5764607523034234880 := by omega
      rw [← hr, ← hm] at HST
      have hvb : v ≤ 820 := by have := HX.out.1; have := HW.out; have := HM1.out; have := HL.out; omega
      clear hr hm hn
      by_cases hv8 : v < 800
      ·have hvI : (v : Int) < 800 := by omega
       have hcv := hrd.cd hv8
       have fv := f0 v
       have HS := Lib.hid (HPUT.out.step (v := v) (q := r) (by have := HX.out.1; omega) (by have := HW.out; omega) hr10' hv8)
       clear hrd hgd f0 hvW hge hroom
       go_wp2_with fail
       go_roundg (W - out.length)
       case measure => have := HX.out.2; have := HRM.out; omega
       case rel => exact ⟨out ++ [r], m, v, rfl, by have := HX.out.1; simp; omega, rfl, by have := HRM.out; simp; omega, by have := HX.out.2.2; simp; omega, HST.out, HS.out⟩
      ·have hvI : ¬ (v : Int) < 800 := by omega
       have hct := hrd.ct
       have ft := f0 803
       have HS := Lib.hid (HPUT.out.stepHigh (v := v) (q := r) (by have := HX.out.1; omega) (by omega))
       clear hrd hgd f0 hvW hge hroom
       by_cases hr0 : r = 0
       ·subst hr0
        have eq3' : (n : Int) - 10 * (m : Int) = 0 := eq3
        clear eq3
        go_wp2_with fail
        go_roundg (W - out.length)
        case measure => have := HX.out.2; have := HRM.out; omega
        case rel => exact ⟨out ++ [0], m, v, rfl, by have := HX.out.1; simp; omega, rfl, by have := HRM.out; simp; omega, by have := HX.out.2.2; simp; omega, HST.out, HS.out.2 (by first | trivial | rfl)⟩
       ·have hr0b : ((r : Int) == 0) = false := by simp [hr0]
        have HR0 := Lib.hid hr0
        clear hr0
        go_wp2_with fail
        go_roundg (W - out.length)
        case measure => have := HX.out.2; have := HRM.out; omega
        case rel => exact ⟨out ++ [r], m, v, rfl, by have := HX.out.1; simp; omega, rfl, by have := HRM.out; simp; omega, by have := HX.out.2.2; simp; omega, HST.out, HS.out.1 HR0.out⟩

end Go.Proofs.YtgolhmiocjpohaaGreatDoor

namespace Go.Proofs.YtgolhmiocjpohaaGreatDoor
open Go.RowKit Go.PlainAid

/-- What a slow decimal stands for: A through B, shifted by p down and by q up. -/
structure Slow (A B : Nat) (E : Int) (p q : Nat) (es : List Nat) (ep : Int) (tr : Bool) : Prop where
 headed : Headed es
 val : ∃ A2 B2, Same es ep (A2 * 2 ^ q) (B2 * 2 ^ p) ∧ Near A B A2 B2 E tr
 len : es.length ≤ 800
 room : -300 ≤ ep ∨ (es.length : Int) ≤ ep + 730

theorem Slow.step {A B p q p' q' P Q more sp : Nat} {E ep op : Int} {es out es' : List Nat} {tr : Bool} (h : Slow A B E p q es ep tr) (hB : 0 < B) (hE : IsLog A B E) (hs : ShiftTo es ep P Q more sp out op)
  (hP : ∀ x, x * 2 ^ q * P = x * 2 ^ q') (hQ : ∀ x, x * 2 ^ p * Q = x * 2 ^ p') (ht : Trimmed (out.take 800) es') (hlo : sp = 0 ∨ -281 ≤ ep) (hhi : ep ≤ 680) :
  Slow A B E p' q' es' op (tr || cutTr out) ∧ Canon es' := by
 obtain ⟨A2, B2, h1, h2⟩ := h.val
 have h3 := hs.same _ _ h1
 rw [hP, hQ] at h3
 have hp1 := hs.pt
 have hp2 := hs.lo
 have hp3 := hs.hi.1
 have hr := h.room
 have hc : out.length ≤ 800 ∨ -300 ≤ op := by
  rcases hlo with e | e
  ·have := hp2.2 e
   subst e
   rcases hr with hr | hr
   ·right; omega
   ·by_cases e2 : -300 ≤ op
    ·right; exact e2
    ·left; omega
  ·right; omega
 obtain ⟨A3, B3, q1, q2, q3⟩ := h2.cut hB hE hs.dig hs.pos hs.first h3 ht hc (by omega)
 have hle : es'.length ≤ (out.take 800).length := ht.dval.1
 rw [List.length_take] at hle
 refine ⟨⟨q1.headed, ⟨A3, B3, q2, q3⟩, by omega, ?_⟩, q1⟩
 rcases hlo with e | e
 ·have := hp2.2 e
  subst e
  rcases hr with hr | hr
  ·left; omega
  ·right; omega
 ·left; omega

/-- A post of Shift. -/
def Shifts (b : Nat) (neg : Bool) (A B : Nat) (E : Int) (p q : Nat) (lo hi : Int) (w : World) (e : Ending) (w' : World) : Prop :=
 e = .returned (.tuple #[]) ∧ ∃ es ep tr, SDec w' b es ep neg tr ∧ Slow A B E p q es ep tr ∧ Canon es ∧ lo ≤ ep ∧ ep ≤ hi ∧ Only b w w'

theorem Slow.ne {A B p q : Nat} {E ep : Int} {es : List Nat} {tr : Bool} (h : Slow A B E p q es ep tr) : (((es.length : Nat) : Int) == 0) = false := by
 have := h.headed.pos
 simp
 intro e
 rw [e] at this
 simp at this

set_option maxHeartbeats 1600000 in
set_option maxRecDepth 100000 in
theorem slow_up (w : World) (base b : Nat) (es : List Nat) (ep : Int) (neg tr : Bool) (A B p q k : Nat) (E : Int) (h : SDec w b es ep neg tr) (hs : Slow A B E p q es ep tr) (hB : 0 < B) (hE : IsLog A B E) (hch : CheatAt base w)
  (h1 : -100000 ≤ ep) (h2 : ep ≤ 680) (hk1 : 0 < k) (hk : k ≤ 59) :
  Calls Tryz.prog 192 #[.pointer (some ⟨b, 0, none⟩), .int .i64 (k : Int)] w (Shifts b neg A B E p (q + k) ep (ep + 20) w) := by
 have HH := Lib.hid (slow_left w base b es ep neg tr k h hch hs.headed (by omega) hk1 hk)
 have HS := Lib.hid hs
 have c0 : w.cell? ⟨b, 800, none⟩ = some (.int .i64 (es.length : Nat)) := by obtain ⟨g, hr, _⟩ := h.row; exact hr.cn
 have hne := hs.ne
 have hkI : (0 : Int) < (k : Int) := by omega
 have hkI2 : ¬ (60 : Int) < (k : Int) := by omega
 clear h hs hch
 go_enter Tryz.func192, Tryz.ntmps192
 go_wp2_with fail
 refine wp_loop_rounds 1 ?_
 rw [rounds_succ]
 go_wp2_with (go_at_call 199; (with_reducible refine HH.out.mono ?_); rintro e w9 ⟨rfl, out, op, es', t1, t2, t3, t4⟩; have H9 := Lib.hid (And.intro t1 (And.intro t2 (And.intro t3 t4))); clear t1 t2 t3 t4)
 go_end0
 obtain ⟨t1, t2, t3, t4⟩ := H9.out
 obtain ⟨q1, q2⟩ := HS.out.step hB hE t1 (p' := p) (q' := q + k) (fun x => by rw [Nat.pow_add, Nat.mul_assoc]) (fun x => by rw [Nat.mul_one]) t2 (Or.inl rfl) h2
 exact ⟨rfl, es', op, _, t3, q1, q2, t1.lo.2 rfl, t1.hi.1, t4⟩

set_option maxHeartbeats 1600000 in
set_option maxRecDepth 100000 in
theorem slow_down (w : World) (b : Nat) (es : List Nat) (ep : Int) (neg tr : Bool) (A B p q k : Nat) (E : Int) (h : SDec w b es ep neg tr) (hs : Slow A B E p q es ep tr) (hB : 0 < B) (hE : IsLog A B E)
  (h1 : -200 ≤ ep) (h2 : ep ≤ 600) (hk1 : 0 < k) (hk : k ≤ 180) :
  Calls Tryz.prog 192 #[.pointer (some ⟨b, 0, none⟩), .int .i64 (-(k : Int))] w (Shifts b neg A B E (p + k) q (ep - 57) ep w) := by
 have H0 := Lib.hid (And.intro h hs)
 have c0 : w.cell? ⟨b, 800, none⟩ = some (.int .i64 (es.length : Nat)) := by obtain ⟨g, hr, _⟩ := h.row; exact hr.cn
 have hne := hs.ne
 have hkI : ¬ (0 : Int) < -(k : Int) := by omega
 have hkI2 : -(k : Int) < 0 := by omega
 clear h hs
 go_enter Tryz.func192, Tryz.ntmps192
 go_wp2_with fail
 go_loopw [1] (fun v wr => ∃ (m j : Nat) (fs : List Nat) (fp : Int) (tr2 : Bool), v = .int .i64 (-(m : Int)) ∧ 0 < m ∧ m + 60 * j = k ∧ j ≤ 2 ∧ SDec wr b fs fp neg tr2 ∧ Slow A B E (p + 60 * j) q fs fp tr2 ∧ ep - 19 * (j : Int) ≤ fp ∧ fp ≤ ep ∧ Only b w wr) (fun v _ => (-(intOf v)).toNat)
 case atStart => exact ⟨k, 0, es, ep, tr, rfl, hk1, by omega, by omega, H0.out.1, H0.out.2, by omega, by omega, Only.refl _ _⟩
 case round =>
  clear H0 c0 hne hkI hkI2
  obtain ⟨m, j, fs, fp, tr2, rfl, hm0, hmj, hj, hd, hs, hlo, hhi, ho⟩ := hrel
  have HS := Lib.hid hs
  have HO := Lib.hid ho
  by_cases hm : 60 < m
  ·have hm' : -(m : Int) < -60 := by omega
   have HH := Lib.hid (show Calls Tryz.prog 200 #[.pointer (some ⟨b, 0, none⟩), .int .u64 60] wr (SShift b fs fp neg tr2 1 (2 ^ 60) 60 60 wr) from slow_right wr b fs fp neg tr2 60 hd hs.headed (by omega) (by omega) (by omega))
   clear hd hs ho
   go_wp2_with (go_at_call 200; (with_reducible refine HH.out.mono ?_); rintro e w9 ⟨rfl, out, op, es', t1, t2, t3, t4⟩; have H9 := Lib.hid (And.intro t1 (And.intro t2 (And.intro t3 t4))); clear t1 t2 t3 t4)
   go_roundw
   case rel =>
    obtain ⟨t1, t2, t3, t4⟩ := H9.out
    obtain ⟨q1, q2⟩ := HS.out.step hB hE t1 (p' := p + 60 * j + 60) (q' := q) (fun x => by rw [Nat.mul_one]) (fun x => by rw [Nat.mul_assoc, ← Nat.pow_add]) t2 (Or.inr (by omega)) (by omega)
    refine ⟨m - 60, j + 1, es', op, _, by first | (go_num; done) | (go_num; omega), by omega, by omega, by omega, t3, ?_, by have := t1.lo.1; omega, by have := t1.hi.2 (by omega); omega, HO.out.trans t4⟩
    rwa [show p + 60 * (j + 1) = p + 60 * j + 60 by omega]
   case measure => simp [intOf]; omega
  ·have hm' : ¬ -(m : Int) < -60 := by omega
   have hnn : - -(m : Int) = (m : Int) := by omega
   have HH := Lib.hid (slow_right wr b fs fp neg tr2 m hd hs.headed (by omega) (by omega) (by omega))
   clear hd hs ho
   go_wp2_with (go_at_call 200; (with_reducible refine HH.out.mono ?_); rintro e w9 ⟨rfl, out, op, es', t1, t2, t3, t4⟩; have H9 := Lib.hid (And.intro t1 (And.intro t2 (And.intro t3 t4))); clear t1 t2 t3 t4)
   go_end0
   obtain ⟨t1, t2, t3, t4⟩ := H9.out
   obtain ⟨q1, q2⟩ := HS.out.step hB hE t1 (p' := p + k) (q' := q) (fun x => by rw [Nat.mul_one]) (fun x => by rw [← hmj, show p + (m + 60 * j) = p + 60 * j + m by omega, Nat.pow_add 2 _ m, Nat.mul_assoc]) t2 (Or.inr (by omega)) (by omega)
   exact ⟨rfl, es', op, _, t3, q1, q2, by have := t1.lo.1; omega, by have := t1.hi.2 (by omega); omega, HO.out.trans t4⟩

end Go.Proofs.YtgolhmiocjpohaaGreatDoor

set_option maxRecDepth 20000
namespace Go.Proofs.YtgolhmiocjpohaaGreatDoor

/-- Whether a slow decimal is rounded up behind n digits. -/
def upT (ds : List Nat) (n : Nat) (tr : Bool) : Bool :=
 if ds.length ≤ n then false
 else if dAt ds n = 5 ∧ n + 1 = ds.length then tr || (decide (0 < n) && decide (dAt ds (n - 1) % 2 ≠ 0))
 else decide (5 ≤ dAt ds n)

theorem upT_false (ds : List Nat) (n : Nat) : upT ds n false = upAt ds n := by
 unfold upT upAt
 simp

/-- Half numbers count. -/
theorem Near.half {A B A2 B2 p q : Nat} {E : Int} {tr : Bool} (h : Near A B A2 B2 E tr) (he : E - 53 + q - p ≤ -1) (m : Nat) (hm : m * (B * 2 ^ p) ≤ 2 * (A * 2 ^ q)) : m * (B2 * 2 ^ p) ≤ 2 * (A2 * 2 ^ q) := by
 obtain ⟨d, hd⟩ : ∃ d : Nat, (d : Int) = -1 - (E - 53 + q - p) := ⟨(-1 - (E - 53 + q - p)).toNat, by omega⟩
 have h1 := h.point (m * 2 ^ d) p (q + 1 + d) (by omega) (by
  have h2 : m * (B * 2 ^ p) * 2 ^ d ≤ 2 * (A * 2 ^ q) * 2 ^ d := Nat.mul_le_mul_right _ hm
  have e1 : m * 2 ^ d * 2 ^ p * B = m * (B * 2 ^ p) * 2 ^ d := by ac_rfl
  have e2 : A * 2 ^ (q + 1 + d) = 2 * (A * 2 ^ q) * 2 ^ d := by rw [Nat.pow_add, Nat.pow_succ]; ac_rfl
  rw [e1, e2]
  exact h2)
 have e1 : m * 2 ^ d * 2 ^ p * B2 = m * (B2 * 2 ^ p) * 2 ^ d := by ac_rfl
 have e2 : A2 * 2 ^ (q + 1 + d) = 2 * (A2 * 2 ^ q) * 2 ^ d := by rw [Nat.pow_add, Nat.pow_succ]; ac_rfl
 rw [e1, e2] at h1
 exact Nat.le_of_mul_le_mul_right h1 (two_pos d)

/-- What the digits tell of the whole part, and of the half. -/
theorem Same.parts {ds : List Nat} {X Y n : Nat} (h : Same ds n X Y) (hd : Digits ds) (hY : 0 < Y) :
  pre ds n * Y ≤ X ∧ X < (pre ds n + 1) * Y ∧ ((2 * pre ds n + 1) * Y ≤ 2 * X ↔ (n < ds.length ∧ 5 ≤ dAt ds n)) := by
 by_cases hn : n < ds.length
 ·have h1 := h 0 (ds.length - n) (by omega)
  rw [Nat.pow_zero, Nat.mul_one] at h1
  have h2 := pre_le_dval ds (Nat.le_of_lt hn)
  have h3 := dval_lt_pre hd (Nat.le_of_lt hn)
  have h4 := pre_le_dval ds hn
  have h5 := dval_lt_pre hd hn
  have e : pre ds (n + 1) = pre ds n * 10 + dAt ds n := rfl
  rw [e] at h4 h5
  have hT : (10 : Nat) ^ (ds.length - n) = 10 * 10 ^ (ds.length - (n + 1)) := by rw [show ds.length - n = (ds.length - (n + 1)) + 1 by omega, Nat.pow_succ, Nat.mul_comm]
  have hp := ten_pos (ds.length - n)
  have hp1 := ten_pos (ds.length - (n + 1))
  generalize hN : pre ds n = N at *
  generalize hDv : dval ds = D at *
  generalize hdn : dAt ds n = d at *
  generalize 10 ^ (ds.length - (n + 1)) = t at *
  generalize 10 ^ (ds.length - n) = T at *
  subst hT
  refine ⟨?_, ?_, ?_⟩
  ·have h6 : N * (10 * t) * Y ≤ D * Y := Nat.mul_le_mul_right _ h2
   rw [h1, show N * (10 * t) * Y = N * Y * (10 * t) by ac_rfl] at h6
   exact Nat.le_of_mul_le_mul_right h6 hp
  ·have h6 : D * Y < (N + 1) * (10 * t) * Y := Nat.mul_lt_mul_of_pos_right h3 hY
   rw [h1, show (N + 1) * (10 * t) * Y = (N + 1) * Y * (10 * t) by ac_rfl] at h6
   exact Nat.lt_of_mul_lt_mul_right h6
  ·have key : ∀ c : Nat, c * t ≤ D → 2 * c * t * Y ≤ 2 * X * (10 * t) := by
    intro c hc
    have h6 : c * t * Y ≤ D * Y := Nat.mul_le_mul_right _ hc
    rw [h1] at h6
    have e1 : 2 * c * t * Y = 2 * (c * t * Y) := by ac_rfl
    have e2 : 2 * X * (10 * t) = 2 * (X * (10 * t)) := by ac_rfl
    omega
   have key2 : ∀ c : Nat, D < c * t → 2 * X * (10 * t) < 2 * c * t * Y := by
    intro c hc
    have h6 : D * Y < c * t * Y := Nat.mul_lt_mul_of_pos_right hc hY
    rw [h1] at h6
    have e1 : 2 * c * t * Y = 2 * (c * t * Y) := by ac_rfl
    have e2 : 2 * X * (10 * t) = 2 * (X * (10 * t)) := by ac_rfl
    omega
   have e5 : 2 * (N * 10 + 5) * t * Y = (2 * N + 1) * Y * (10 * t) := by
    rw [show 2 * (N * 10 + 5) = (2 * N + 1) * 10 by omega]
    ac_rfl
   constructor
   ·intro hle
    refine ⟨hn, ?_⟩
    apply Classical.byContradiction
    intro hd5
    have h6 : (N * 10 + d + 1) * t ≤ (N * 10 + 5) * t := Nat.mul_le_mul_right _ (by omega)
    have h7 := key2 (N * 10 + 5) (Nat.lt_of_lt_of_le h5 h6)
    rw [e5] at h7
    have := Nat.lt_of_mul_lt_mul_right h7
    omega
   ·rintro ⟨_, hd5⟩
    have h6 : (N * 10 + 5) * t ≤ (N * 10 + d) * t := Nat.mul_le_mul_right _ (by omega)
    have h7 := key (N * 10 + 5) (Nat.le_trans h6 h4)
    rw [e5] at h7
    exact Nat.le_of_mul_le_mul_right h7 hp
 ·have h1 := h (n - ds.length) 0 (by omega)
  rw [Nat.pow_zero, Nat.mul_one, ← pre_ge (by omega)] at h1
  rw [← h1]
  refine ⟨Nat.le_refl _, by rw [Nat.add_mul]; omega, ⟨fun hle => ?_, fun hh => absurd hh.1 hn⟩⟩
  rw [Nat.add_mul, Nat.mul_assoc] at hle
  omega

theorem rnd_down {X Y N : Nat} (h1 : N * Y ≤ X) (h2 : 2 * X < (2 * N + 1) * Y) : rnd X Y = N := by
 rw [Nat.add_mul, Nat.mul_assoc] at h2
 rw [rnd_eq (q := N) (r := X - N * Y) (by omega) (by omega), if_pos (by omega)]

theorem rnd_upper {X Y N : Nat} (h1 : (2 * N + 1) * Y < 2 * X) (h2 : X < (N + 1) * Y) : rnd X Y = N + 1 := by
 rw [Nat.add_mul, Nat.mul_assoc] at h1
 rw [Nat.add_mul] at h2
 rw [rnd_eq (q := N) (r := X - N * Y) (by omega) (by omega), if_neg (by omega), if_pos (by omega)]

/-- A slow decimal is rounded as what it stands for. -/
theorem round_slow {A B p q n : Nat} {E : Int} {es : List Nat} {tr : Bool} (hs : Slow A B E p q es n tr) (hc : Canon es) (hB : 0 < B) (he : E - 53 + q - p ≤ -1) :
  rnd (A * 2 ^ q) (B * 2 ^ p) = pre es n + (if upT es n tr then 1 else 0) := by
 obtain ⟨A2, B2, h1, h2⟩ := hs.val
 have hB2 := h2.posB
 cases tr with
 | false =>
  rw [upT_false, ← round_digits h1 hc (Nat.mul_pos hB2 (two_pos p))]
  refine rnd_congr (Nat.mul_pos hB (two_pos p)) (Nat.mul_pos hB2 (two_pos p)) ?_
  have := h2.same rfl
  calc A * 2 ^ q * (B2 * 2 ^ p) = A * B2 * (2 ^ q * 2 ^ p) := by ac_rfl
   _ = A2 * B * (2 ^ q * 2 ^ p) := by rw [this]
   _ = A2 * 2 ^ q * (B * 2 ^ p) := by ac_rfl
 | true =>
  have hb := h2.below rfl
  obtain ⟨k1, k2, k3⟩ := h1.parts hc.digits (Nat.mul_pos hB2 (two_pos p))
  have hhalf := h2.half (p := p) (q := q) he
  -- the true value is above
  have hlt : A2 * 2 ^ q * (B * 2 ^ p) < A * 2 ^ q * (B2 * 2 ^ p) := by
   have h3 : A2 * B * (2 ^ q * 2 ^ p) < A * B2 * (2 ^ q * 2 ^ p) := Nat.mul_lt_mul_of_pos_right hb (Nat.mul_pos (two_pos _) (two_pos _))
   have e1 : A2 * 2 ^ q * (B * 2 ^ p) = A2 * B * (2 ^ q * 2 ^ p) := by ac_rfl
   have e2 : A * 2 ^ q * (B2 * 2 ^ p) = A * B2 * (2 ^ q * 2 ^ p) := by ac_rfl
   rw [e1, e2]
   exact h3
  have hY2 : 0 < B2 * 2 ^ p := Nat.mul_pos hB2 (two_pos p)
  have hY : 0 < B * 2 ^ p := Nat.mul_pos hB (two_pos p)
  generalize A * 2 ^ q = X at *
  generalize B * 2 ^ p = Y at *
  generalize A2 * 2 ^ q = X2 at *
  generalize B2 * 2 ^ p = Y2 at *
  generalize hN : pre es n = N at *
  -- m through two: not above the cut value, so not above the true one
  have hup : ∀ m, 2 * X2 < m * Y2 → 2 * X < m * Y := by
   intro m hm
   apply Classical.byContradiction
   intro hno
   have := hhalf m (by omega)
   omega
  have hdn : ∀ m, m * Y2 ≤ 2 * X2 → m * Y < 2 * X := by
   intro m hm
   have h3 : m * Y2 * Y ≤ 2 * X2 * Y := Nat.mul_le_mul_right _ hm
   have h4 : 2 * X2 * Y < 2 * (X * Y2) := by rw [Nat.mul_assoc]; omega
   have e1 : m * Y2 * Y = Y2 * (m * Y) := by ac_rfl
   have e2 : 2 * (X * Y2) = Y2 * (2 * X) := by ac_rfl
   rw [e1] at h3
   rw [e2] at h4
   exact Nat.lt_of_mul_lt_mul_left (Nat.lt_of_le_of_lt h3 h4)
  have hUT : upT es n true = decide (n < es.length ∧ 5 ≤ dAt es n) := by
   unfold upT
   by_cases hl : es.length ≤ n
   ·rw [if_pos hl]
    exact (decide_eq_false (by omega)).symm
   ·rw [if_neg hl]
    by_cases h5 : dAt es n = 5 ∧ n + 1 = es.length
    ·rw [if_pos h5]
     simp only [Bool.true_or]
     exact (decide_eq_true (by omega)).symm
    ·rw [if_neg h5]
     exact decide_eq_decide.2 ⟨fun h => ⟨by omega, h⟩, fun h => h.2⟩
  rw [hUT]
  by_cases hu : n < es.length ∧ 5 ≤ dAt es n
  ·rw [decide_eq_true hu, if_pos rfl]
   have h3 := hdn _ (k3.2 hu)
   have h4 := hup (2 * (N + 1)) (by rw [Nat.mul_assoc]; omega)
   exact rnd_upper h3 (by rw [Nat.mul_assoc] at h4; omega)
  ·rw [decide_eq_false hu, if_neg (by simp), Nat.add_zero]
   have h3 := hup (2 * N + 1) (by
    apply Classical.byContradiction
    intro hno
    exact hu (k3.1 (by omega)))
   have h4 := hdn (2 * N) (by rw [Nat.mul_assoc]; omega)
   exact rnd_down (by rw [Nat.mul_assoc] at h4; omega) h3

end Go.Proofs.YtgolhmiocjpohaaGreatDoor
