/- Go's slow decimal in memory (a block of 804 cells), and its trim (207). No condition beyond that on the block. The light decimal of a whole number, as the bits of a float: shift (172) and bits (148). No condition beyond those on the block and on the size of the number. The light decimal rounded (nearUp 197, whole 176), whatever its point; shifted by any number of places (172). No condition beyond those on the block and on sizes. The light decimal shifted by any number of places, up or down (172). No condition beyond those on the block and on sizes. The nearest float of a quotient, by its place among all floats: plain. No condition. A decimal on its way to the bits of a float: what is known of its value. Plain. No condition. The light decimal of a whole number, as the bits of a float (148). No condition beyond those on the block and on the size of the number. The light decimal, as the bits of the nearest float (148). No condition beyond those on the block and on the decimal's length. -/
import Derived.Deep.OwnRows
import Derived.Test.YtgolhmiocjpohaaGreatDoorDec5
import Derived.Test.YtgolhmiocjpohaaGreatDoorGen1
set_option linter.unusedVariables false
set_option linter.unusedSimpArgs false
namespace Go.Proofs.YtgolhmiocjpohaaGreatDoor
open Go.RowKit

/-- Digits of which the first is no zero. -/
structure Headed (ds : List Nat) : Prop where
 digits : Digits ds
 pos : 0 < ds.length
 first : dAt ds 0 ≠ 0

theorem Canon.headed {ds : List Nat} (h : Canon ds) : Headed ds := ⟨h.digits, h.pos, h.first⟩

theorem Headed.dval_pos {ds : List Nat} (h : Headed ds) : 0 < dval ds := by
 have h1 := (pre_head h.digits (ds.length - 1)).1
 have hp := h.pos
 rw [show ds.length - 1 + 1 = ds.length by omega] at h1
 have h2 : 1 * 10 ^ (ds.length - 1) ≤ dAt ds 0 * 10 ^ (ds.length - 1) := Nat.mul_le_mul_right _ (by have := h.first; omega)
 have h3 : 0 < 10 ^ (ds.length - 1) := Nat.pow_pos (by omega)
 unfold dval
 omega

/-- What lies in the cells of a slow decimal. -/
def DRow (g : Nat → Nat) (nd dp : Int) (neg tr : Bool) (i : Nat) : Value :=
 if i < 800 then .int .u8 (g i : Nat) else if i = 800 then .int .i64 nd else if i = 801 then .int .i64 dp else if i = 802 then .bool neg else .bool tr

/-- A slow decimal in block b, its bytes as they are. -/
structure RDec (w : World) (b : Nat) (g : Nat → Nat) (nd dp : Int) (neg tr : Bool) : Prop where
 byte : ∀ i, g i < 256
 row : w.rowIs b 253 804 (DRow g nd dp neg tr)

section
variable {w : World} {b : Nat} {g : Nat → Nat} {nd dp : Int} {neg tr : Bool}

theorem RDec.cd (h : RDec w b g nd dp neg tr) {i : Nat} (hi : i < 800) : w.cell? ⟨b, i, none⟩ = some (.int .u8 (g i : Nat)) := by
 rw [h.row.cell (by omega)]
 simp [DRow, hi]
theorem RDec.cn (h : RDec w b g nd dp neg tr) : w.cell? ⟨b, 800, none⟩ = some (.int .i64 nd) := by
 rw [h.row.cell (by omega)]
 simp [DRow]
theorem RDec.cp (h : RDec w b g nd dp neg tr) : w.cell? ⟨b, 801, none⟩ = some (.int .i64 dp) := by
 rw [h.row.cell (by omega)]
 simp [DRow]
theorem RDec.cs (h : RDec w b g nd dp neg tr) : w.cell? ⟨b, 802, none⟩ = some (.bool neg) := by
 rw [h.row.cell (by omega)]
 simp [DRow]
theorem RDec.ct (h : RDec w b g nd dp neg tr) : w.cell? ⟨b, 803, none⟩ = some (.bool tr) := by
 rw [h.row.cell (by omega)]
 simp [DRow]
theorem RDec.fr (h : RDec w b g nd dp neg tr) (i : Nat) : w.frozen? ⟨b, i, none⟩ = false := h.row.frozen i
theorem RDec.setD (h : RDec w b g nd dp neg tr) {i v : Nat} (hi : i < 800) (hv : v < 256) : RDec (w.setCell ⟨b, i, none⟩ (.int .u8 (v : Nat))) b (fun j => if j = i then v else g j) nd dp neg tr := by
 refine ⟨fun j => ?_, (h.row.set i _).congr fun j hj => ?_⟩
 ·by_cases e : j = i
  ·simp [e, hv]
  ·simp [e, h.byte j]
 ·unfold DRow
  by_cases e : j = i
  ·subst e; simp [hi]
  ·simp [e]
theorem RDec.setN (h : RDec w b g nd dp neg tr) (n : Int) : RDec (w.setCell ⟨b, 800, none⟩ (.int .i64 n)) b g n dp neg tr := by
 refine ⟨h.byte, (h.row.set 800 _).congr fun j hj => ?_⟩
 unfold DRow
 by_cases e : j = 800
 ·subst e; simp
 ·simp [e]
theorem RDec.setP (h : RDec w b g nd dp neg tr) (n : Int) : RDec (w.setCell ⟨b, 801, none⟩ (.int .i64 n)) b g nd n neg tr := by
 refine ⟨h.byte, (h.row.set 801 _).congr fun j hj => ?_⟩
 unfold DRow
 by_cases e : j = 801
 ·subst e; simp
 ·simp [e]
theorem RDec.setS (h : RDec w b g nd dp neg tr) (n : Bool) : RDec (w.setCell ⟨b, 802, none⟩ (.bool n)) b g nd dp n tr := by
 refine ⟨h.byte, (h.row.set 802 _).congr fun j hj => ?_⟩
 unfold DRow
 by_cases e : j = 802
 ·subst e; simp
 ·simp [e]
theorem RDec.setT (h : RDec w b g nd dp neg tr) (n : Bool) : RDec (w.setCell ⟨b, 803, none⟩ (.bool n)) b g nd dp neg n := by
 refine ⟨h.byte, (h.row.set 803 _).congr fun j hj => ?_⟩
 unfold DRow
 by_cases e : j = 803
 ·subst e; simp
 ·simp only [e, if_false]
  have h1 : ¬ j < 800 ∨ j < 800 := by omega
  rcases h1 with h1 | h1
  ·have h2 : j = 800 ∨ j = 801 ∨ j = 802 := by omega
   rcases h2 with rfl | rfl | rfl <;> simp
  ·simp [h1]
theorem RDec.heap_eq {w' : World} (h : RDec w b g nd dp neg tr) (he : w'.heap = w.heap) : RDec w' b g nd dp neg tr := ⟨h.byte, h.row.of_block (by rw [he])⟩
theorem RDec.drewN (h : RDec w b g nd dp neg tr) (n : Nat) : RDec (w.drewN n) b g nd dp neg tr := h.heap_eq (heap_drewN _ _)
end

/-- A slow decimal in block b. -/
structure SDec (w : World) (b : Nat) (ds : List Nat) (dp : Int) (neg tr : Bool) : Prop where
 dig : Digits ds
 len : ds.length ≤ 800
 row : ∃ g, RDec w b g (ds.length : Nat) dp neg tr ∧ ∀ i, i < ds.length → g i = 48 + dAt ds i

theorem SDec.heap_eq {w w' : World} {b : Nat} {ds : List Nat} {dp : Int} {neg tr : Bool} (h : SDec w b ds dp neg tr) (he : w'.heap = w.heap) : SDec w' b ds dp neg tr := by
 obtain ⟨g, h1, h2⟩ := h.row
 exact ⟨h.dig, h.len, g, h1.heap_eq he, h2⟩
theorem SDec.drewN {w : World} {b : Nat} {ds : List Nat} {dp : Int} {neg tr : Bool} (h : SDec w b ds dp neg tr) (n : Nat) : SDec (w.drewN n) b ds dp neg tr := h.heap_eq (heap_drewN _ _)

/-- A post of trim: the digits gs of a decimal, of which the last are zeros. -/
def STrim (b : Nat) (ds : List Nat) (dp : Int) (neg tr : Bool) (w : World) (e : Ending) (w' : World) : Prop :=
 e = .returned (.tuple #[]) ∧ ∃ es, Trimmed ds es ∧ SDec w' b es (if es = [] then 0 else dp) neg tr ∧ Only b w w'

/-- The number of digits that a slow decimal tells. -/
def ndOf (w : World) (b : Nat) : Nat := match w.cell? ⟨b, 800, none⟩ with | some (.int _ n) => n.toNat | _ => 0

theorem RDec.ndOf {w : World} {b : Nat} {g : Nat → Nat} {nd dp : Int} {neg tr : Bool} (h : RDec w b g nd dp neg tr) : ndOf w b = nd.toNat := by
 simp [YtgolhmiocjpohaaGreatDoor.ndOf, h.cn]

theorem sdec_take {w : World} {b : Nat} {ds : List Nat} {g : Nat → Nat} {dp : Int} {neg tr : Bool} {k : Nat} (hd : Digits ds) (hl : ds.length ≤ 800) (hg : ∀ i, i < ds.length → g i = 48 + dAt ds i) (hk : k ≤ ds.length)
  (h : RDec w b g (k : Nat) dp neg tr) : SDec w b (ds.take k) dp neg tr := by
 have hlen : (ds.take k).length = k := by simp; omega
 refine ⟨fun i hi => ?_, by omega, g, by rw [hlen]; exact h, fun i hi => ?_⟩
 ·rw [dAt_take, if_pos (by omega)]
  exact hd.all i
 ·rw [dAt_take, if_pos (by omega)]
  exact hg i (by omega)

set_option maxHeartbeats 1600000 in
set_option maxRecDepth 100000 in
theorem slow_trim (w : World) (b : Nat) (ds : List Nat) (dp : Int) (neg tr : Bool) (h : SDec w b ds dp neg tr) :
  Calls Tryz.prog 207 #[.pointer (some ⟨b, 0, none⟩)] w (STrim b ds dp neg tr w) := by
 obtain ⟨hd, hl, g, hr, hg⟩ := h
 have HZ := Lib.hid (And.intro hd (And.intro hl hg))
 have HR := Lib.hid hr
 clear hd hl hg hr
 go_enter Tryz.func207, Tryz.ntmps207
 go_wp2_with fail
 go_loopw [2] (fun _ wr => ∃ m : Nat, m ≤ ds.length ∧ (∀ i, m ≤ i → i < ds.length → dAt ds i = 0) ∧ RDec wr b g (m : Nat) dp neg tr ∧ Only b w wr) (fun _ wr => ndOf wr b)
 case atStart => exact ⟨ds.length, Nat.le_refl _, fun i h1 h2 => by omega, HR.out, Only.refl _ _⟩
 case round =>
  clear HR
  obtain ⟨m, hm, hz, hr, ho⟩ := hrel
  have c0 := hr.cn
  have c1 := hr.cp
  have f0 := hr.fr 800
  have f1 := hr.fr 801
  have HH := Lib.hid (And.intro hz (And.intro hr ho))
  clear hz ho
  have hlen := HZ.out.2.1
  cases m with
  | zero =>
   clear hr
   go_wp2_with fail
   go_quiet (fail)
   go_wp2_with fail
   go_end0
   obtain ⟨hz, hr, ho⟩ := HH.out
   obtain ⟨hd, hl, hg⟩ := HZ.out
   refine ⟨rfl, [], ⟨0, Nat.zero_le _, rfl, fun i _ hi => hz i (Nat.zero_le _) hi, Or.inl rfl⟩, ?_, (ho.drewN _).set _ _⟩
   have h1 := sdec_take hd hl hg (Nat.zero_le _) ((hr.drewN nq).setP 0)
   exact h1
  | succ k =>
   have hck := hr.cd (i := k) (by omega)
   have hgk := HZ.out.2.2 k (by omega)
   rw [hgk] at hck
   clear hr hgk
   by_cases hd : dAt ds k = 0
   ·rw [hd] at hck
    go_wp2_with fail
    go_quiet (fail)
    go_wp2_with fail
    go_roundw
    case rel =>
     obtain ⟨hz, hr, ho⟩ := HH.out
     refine ⟨k, by omega, fun i h1 h2 => ?_, (hr.drewN nq).setN _, (ho.drewN _).set _ _⟩
     by_cases e : i = k
     ·rw [e]; exact hd
     ·exact hz i (by omega) h2
    case measure =>
     obtain ⟨hz, hr, ho⟩ := HH.out
     rw [hr.ndOf, ((hr.drewN nq).setN _).ndOf]
     omega
   ·have HD := Lib.hid hd
    have hd1 : ((48 + dAt ds k : Nat) == 48) = false := by simp [hd]
    clear hd
    go_wp2_with fail
    go_quiet (fail)
    go_wp2_with fail
    go_end0
    obtain ⟨hz, hr, ho⟩ := HH.out
    obtain ⟨hd, hl, hg⟩ := HZ.out
    have hlk : (ds.take (k + 1)).length = k + 1 := by simp; omega
    have hne : ds.take (k + 1) ≠ [] := by intro h; rw [h] at hlk; simp at hlk
    refine ⟨rfl, ds.take (k + 1), ⟨k + 1, hm, rfl, hz, Or.inr (by simpa using HD.out)⟩, ?_, ho.drewN _⟩
    rw [if_neg hne]
    exact sdec_take hd hl hg hm (hr.drewN nq)

end Go.Proofs.YtgolhmiocjpohaaGreatDoor

namespace Go.Proofs.YtgolhmiocjpohaaGreatDoor
open Go.RowKit

/-- The form of a float of 64 bits, as a value. -/
abbrev form64 : Value := .agg #[.int .i64 52, .int .i64 11, .int .i64 (-1023)]

end Go.Proofs.YtgolhmiocjpohaaGreatDoor

namespace Go.Proofs.YtgolhmiocjpohaaGreatDoor
open Go.RowKit

theorem upAt_no {ds : List Nat} {n : Nat} (h : ds.length ≤ n) : upAt ds n = false := by unfold upAt; rw [if_pos h]

set_option maxHeartbeats 800000 in
set_option maxRecDepth 100000 in
theorem nearUp (w : World) (base b : Nat) (ds : List Nat) (dp : Int) (h : DecAt w base b ds dp) (hc : Canon ds) (n : Nat) (hlen : ds.length ≤ 1000000) (hi : n ≤ 2147483647) :
  Calls Tryz.prog 197 #[.pointer (some ⟨b, 0, none⟩), .int .i64 (n : Int)] w fun e w' => e = .returned (.bool (upAt ds n)) ∧ w = w' := by
 by_cases hle : ds.length ≤ n
 ·rw [upAt_no hle]
  exact nearUp_no w base b ds dp h n hle hi
 ·obtain ⟨v, hobj, hdig⟩ := h.obj
  rcases hdig with ⟨rfl, rfl⟩ | ⟨g, cap, rfl, hcap, hbg, hgb, hgs, hcells⟩
  ·simp at hle
  obtain ⟨c0, c1, f0, f1⟩ := obj_cells hobj
  have hi0 : ¬ (n : Int) < 0 := by omega
  have hi1 : (0 : Int) ≤ (n : Int) := by omega
  have hge : ¬ (ds.length : Int) ≤ (n : Int) := by omega
  have hlt : (n : Int) < (ds.length : Int) := by omega
  have hcn := hcells n (by omega)
  have hd9 := hc.digits.all n
  have HUP : Hid (upAt ds n = if dAt ds n = 5 ∧ n + 1 = ds.length then decide (0 < n) && decide (dAt ds (n - 1) % 2 ≠ 0) else decide (5 ≤ dAt ds n)) := by
   show _ = _
   unfold upAt
   rw [if_neg hle]
  obtain ⟨d, hd⟩ : ∃ d, d = dAt ds n := ⟨_, rfl⟩
  rw [← hd] at hcn hd9 HUP
  by_cases h5 : d = 5
  ·have k1 : ((d : Int) == 5) = true := by simp [h5]
   by_cases hl : n + 1 = ds.length
   ·have k2 : ((n : Int) + 1 == (ds.length : Int)) = true := by simp; omega
    rw [if_pos ⟨h5, hl⟩] at HUP
    by_cases h0 : 0 < n
    ·obtain ⟨k, rfl⟩ : ∃ k, n = k + 1 := ⟨n - 1, by omega⟩
     have hck := hcells k (by omega)
     rw [Nat.add_sub_cancel] at HUP
     have hk9 := hc.digits.all k
     obtain ⟨d1, hd1⟩ : ∃ d1, d1 = dAt ds k := ⟨_, rfl⟩
     rw [← hd1] at hck HUP hk9
     have hk0 : (0 : Int) ≤ (k : Int) := by omega
     have hkl : (k : Int) < (ds.length : Int) := by omega
     have HD1 := Lib.hid hd1
     have h5' := Lib.hid h5
     clear hcells hobj h hd hd1 h5 hl hle hc
     by_cases ho : d1 % 2 = 0
     ·have k3 : ((d1 : Int) % 2 != 0) = false := by simp; omega
      have HO := Lib.hid ho
      clear ho
      go_enter Tryz.func197, Tryz.ntmps197
      go_wp2
      go_ret
      exact ⟨by rw [HUP.out, HO.out]; simp, rfl⟩
     ·have k3 : ((d1 : Int) % 2 != 0) = true := by simp; omega
      have HO := Lib.hid ho
      clear ho
      go_enter Tryz.func197, Tryz.ntmps197
      go_wp2
      go_ret
      exact ⟨by rw [HUP.out]; simp [HO.out], rfl⟩
    ·have hn0 : n = 0 := by omega
     subst hn0
     have h5' := Lib.hid h5
     have hl0 : ¬ (ds.length : Int) ≤ 0 := by omega
     have hl1 : (0 : Int) < (ds.length : Int) := by omega
     have hl2 : 0 < ds.length := by omega
     have hl3 : ¬ ds.length = 0 := by omega
     have hl4 : (1 == (ds.length : Int)) = true := by simp; omega
     have HUPF : Hid (upAt ds 0 = false) := by show _ = _; rw [HUP]; simp
     clear hcells hobj h hd h5 hl hle hc k2 hge hlt hi0 hi1 HUP
     go_enter Tryz.func197, Tryz.ntmps197
     go_wp2
     go_ret
     exact ⟨by rw [HUPF.out]; rfl, rfl⟩
   ·have k2 : ((n : Int) + 1 == (ds.length : Int)) = false := by simp; omega
    rw [if_neg (fun h => hl h.2)] at HUP
    have k3 : (5 : Int) ≤ (d : Int) := by omega
    have h5' := Lib.hid h5
    have K3 : Hid (5 ≤ d) := by show _ ≤ _; omega
    clear hcells hobj h hd h5 hl hle hc
    go_enter Tryz.func197, Tryz.ntmps197
    go_wp2
    go_ret
    exact ⟨by rw [HUP.out, decide_eq_true K3.out]; rfl, rfl⟩
  ·have k1 : ((d : Int) == 5) = false := by simp; omega
   rw [if_neg (fun h => h5 h.1)] at HUP
   by_cases h6 : 5 ≤ d
   ·have k3 : (5 : Int) ≤ (d : Int) := by omega
    have K3 := Lib.hid h6
    clear hcells hobj h hd h5 hle hc h6
    go_enter Tryz.func197, Tryz.ntmps197
    go_wp2
    go_ret
    exact ⟨by rw [HUP.out, decide_eq_true K3.out]; rfl, rfl⟩
   ·have k3 : ¬ (5 : Int) ≤ (d : Int) := by omega
    have K3 := Lib.hid h6
    clear hcells hobj h hd h5 hle hc h6
    go_enter Tryz.func197, Tryz.ntmps197
    go_wp2
    go_ret
    exact ⟨by rw [HUP.out, decide_eq_false K3.out]; rfl, rfl⟩

set_option maxHeartbeats 400000 in
theorem nearUp_neg (w : World) (b : Nat) (n : Int) (hn : n < 0) (hb : -2147483648 ≤ n) :
  Calls Tryz.prog 197 #[.pointer (some ⟨b, 0, none⟩), .int .i64 n] w fun e w' => e = .returned (.bool false) ∧ w = w' := by
 go_enter Tryz.func197, Tryz.ntmps197
 go_wp2
 go_ret
 exact ⟨rfl, rfl⟩

set_option maxHeartbeats 800000 in
set_option maxRecDepth 100000 in
/-- A decimal, rounded to the nearest whole number. -/
theorem whole_near (w : World) (base b : Nat) (ds : List Nat) (n A B : Nat) (h : DecAt w base b ds n) (hc : Canon ds) (hs : Same ds n A B) (hB : 0 < B) (hlen : ds.length ≤ 1000000) (hn : n ≤ 2147483647) (hM : rnd A B ≤ 9223372036854775807) :
  Calls Tryz.prog 176 #[.pointer (some ⟨b, 0, none⟩)] w fun e w' => e = .returned (.int .u64 (rnd A B : Nat)) ∧ w = w' := by
 have hrd := round_digits hs hc hB
 have HN := Lib.hid (nearUp w base b ds n h hc n hlen hn)
 have HG := Lib.hid (digit w base b ds n h (by omega))
 obtain ⟨v, hobj, hdig⟩ := h.obj
 obtain ⟨c0, c1, f0, f1⟩ := obj_cells hobj
 have hpM : pre ds n ≤ 9223372036854775807 := by omega
 have HB : Hid (∀ k, k < n → pre ds (k + 1) = pre ds k * 10 + dAt ds k ∧ pre ds (k + 1) ≤ 9223372036854775807 ∧ dAt ds k < 10) := fun k hk => ⟨rfl, by
  have h1 := pre_le (ds := ds) (i := k + 1) n (by omega)
  have h2 : 0 < 10 ^ (n - (k + 1)) := Nat.pow_pos (by omega)
  have h3 : pre ds (k + 1) * 1 ≤ pre ds (k + 1) * 10 ^ (n - (k + 1)) := Nat.mul_le_mul_left _ h2
  omega, hc.digits.all k⟩
 have HM := Lib.hid (And.intro hM hrd)
 cases hup : upAt ds n
 all_goals
  rw [hup] at HN HM
  clear hobj hdig h hM hc hrd hs hup
  go_enter Tryz.func176, Tryz.ntmps176
  go_wp2_with fail
  go_loop [3, 4] (fun u v => ∃ k : Nat, u = .int .u64 (pre ds k : Nat) ∧ v = .int .i64 (k : Int) ∧ k ≤ n) (fun _ v => n - (intOf v).toNat)
  case atStart => exact ⟨0, rfl, rfl, by omega⟩
  case round =>
   obtain ⟨k, rfl, rfl, hk⟩ := hrel
   by_cases hlt : k < n
   ·obtain ⟨e1, e2, e3⟩ := HB.out k hlt
    have E1 := Lib.hid e1
    have hk2 : (k : Int) < (n : Int) := by omega
    have b1 : ((pre ds k : Nat) : Int) * 10 ≤ 9223372036854775807 := by omega
    have b2 : ((pre ds k : Nat) : Int) * 10 + ((dAt ds k : Nat) : Int) ≤ 9223372036854775807 := by omega
    have b3 : ((dAt ds k : Nat) : Int) < 10 := by omega
    clear e1 e2 e3
    go_wp2_with (go_at_call 196; (with_reducible refine (HG.out k (by omega)).mono ?_); rintro e w1 ⟨rfl, rfl⟩)
    go_round
    case rel => exact ⟨k + 1, by rw [E1.out]; go_num, by go_num, by omega⟩
    case measure => simp [intOf]; omega
   ·have hkn : k = n := by omega
    subst hkn
    have hk2 : ¬ (k : Int) < (k : Int) := by omega
    go_wp2_with (go_at_call 197; (with_reducible refine HN.out.mono ?_); rintro e w1 ⟨rfl, rfl⟩)
    go_ret
    exact ⟨by rw [HM.out.2]; simp, rfl⟩

set_option maxHeartbeats 400000 in
set_option maxRecDepth 100000 in
theorem whole_small (w : World) (base b : Nat) (ds : List Nat) (dp : Int) (h : DecAt w base b ds dp) (hdp : dp < 0) (hd2 : -2147483648 ≤ dp) :
  Calls Tryz.prog 176 #[.pointer (some ⟨b, 0, none⟩)] w fun e w' => e = .returned (.int .u64 0) ∧ w = w' := by
 have HN := Lib.hid (nearUp_neg w b dp hdp hd2)
 obtain ⟨v, hobj, hdig⟩ := h.obj
 obtain ⟨c0, c1, f0, f1⟩ := obj_cells hobj
 have hno : ¬ 0 < dp := by omega
 clear hobj hdig h
 go_enter Tryz.func176, Tryz.ntmps176
 go_wp2_with fail
 refine wp_loop_rounds 1 ?_
 rw [rounds_succ]
 go_wp2_with (go_at_call 197; (with_reducible refine HN.out.mono ?_); rintro e w1 ⟨rfl, rfl⟩)
 go_ret
 exact ⟨rfl, rfl⟩

/-- At least 10 to the power dp - 1. -/
theorem Same.ge' {ds : List Nat} {dp : Int} {A B : Nat} (h : Same ds dp A B) (hc : Canon ds) {n m : Nat} (hn : dp = (n : Int) - m + 1) : 10 ^ n * B ≤ A * 10 ^ m := by
 have h1 := h n (ds.length - 1 + m) (by have := hc.pos; omega)
 have h2 := hc.dval_ge
 rw [Nat.pow_add] at h1
 have h3 : 10 ^ (ds.length - 1) * (10 ^ n * B) ≤ 10 ^ (ds.length - 1) * (A * 10 ^ m) := by
  have e1 : 10 ^ (ds.length - 1) * (A * 10 ^ m) = dval ds * (10 ^ n * B) := by
   calc 10 ^ (ds.length - 1) * (A * 10 ^ m) = A * (10 ^ (ds.length - 1) * 10 ^ m) := by ac_rfl
    _ = dval ds * 10 ^ n * B := h1.symm
    _ = dval ds * (10 ^ n * B) := by ac_rfl
  rw [e1]
  exact Nat.mul_le_mul_right _ h2
 exact Nat.le_of_mul_le_mul_left h3 (ten_pos _)

/-- A decimal is a quotient. -/
theorem Same.self (ds : List Nat) (dp : Int) : Same ds dp (dval ds * 10 ^ dp.toNat) (10 ^ (ds.length + (-dp).toNat)) := by
 refine Same.of dp.toNat (ds.length + (-dp).toNat) (by omega) ?_
 ac_rfl

/-- How far the point moves. -/
theorem point_moves {ds es : List Nat} {dp ep : Int} {P Q : Nat} (hc : Canon ds) (hc' : Canon es) (h : ∀ A B, Same ds dp A B → Same es ep (A * P) (B * Q)) (hP : P ≤ 10 ^ 18) (hQ : Q ≤ 10 ^ 18) (hP0 : 0 < P) (hQ0 : 0 < Q) :
  dp - 18 ≤ ep ∧ ep ≤ dp + 18 := by
 have hs := Same.self ds dp
 have hB : 0 < 10 ^ (ds.length + (-dp).toNat) := ten_pos _
 generalize dval ds * 10 ^ dp.toNat = A at *
 generalize 10 ^ (ds.length + (-dp).toNat) = B at *
 have hs' := h A B hs
 constructor
 ·apply Classical.byContradiction
  intro hno
  obtain ⟨m, hm⟩ : ∃ m : Nat, (m : Int) = 40 + dp.natAbs + ep.natAbs := ⟨40 + dp.natAbs + ep.natAbs, by omega⟩
  -- value below 10^ep, at least 10^(dp - 1) through 10^18
  obtain ⟨n1, h1⟩ : ∃ n1 : Nat, dp = (n1 : Int) - m + 1 := ⟨(dp + m - 1).toNat, by omega⟩
  obtain ⟨n2, h2⟩ : ∃ n2 : Nat, ep = (n2 : Int) - m := ⟨(ep + m).toNat, by omega⟩
  have g1 := hs.ge' hc h1
  have g2 := hs'.lt hc'.digits (Nat.mul_pos hB hQ0) h2
  have h12 : n2 + 18 ≤ n1 := by omega
  have g3 : 10 ^ (n2 + 18) ≤ 10 ^ n1 := Nat.pow_le_pow_right (by omega) h12
  rw [Nat.pow_add] at g3
  -- A·P·10^m < 10^n2·B·Q ≤ 10^n2·B·10^18 ≤ 10^n1·B ≤ A·10^m
  have g4 : 10 ^ n2 * (B * Q) ≤ 10 ^ n2 * (B * 10 ^ 18) := Nat.mul_le_mul_left _ (Nat.mul_le_mul_left _ hQ)
  have g5 : 10 ^ n2 * (B * 10 ^ 18) = (10 ^ n2 * 10 ^ 18) * B := by ac_rfl
  have g6 : (10 ^ n2 * 10 ^ 18) * B ≤ 10 ^ n1 * B := Nat.mul_le_mul_right _ g3
  have g7 : A * 10 ^ m ≤ A * P * 10 ^ m := Nat.mul_le_mul_right _ (Nat.le_mul_of_pos_right _ hP0)
  omega
 ·apply Classical.byContradiction
  intro hno
  obtain ⟨m, hm⟩ : ∃ m : Nat, (m : Int) = 40 + dp.natAbs + ep.natAbs := ⟨40 + dp.natAbs + ep.natAbs, by omega⟩
  obtain ⟨n1, h1⟩ : ∃ n1 : Nat, ep = (n1 : Int) - m + 1 := ⟨(ep + m - 1).toNat, by omega⟩
  obtain ⟨n2, h2⟩ : ∃ n2 : Nat, dp = (n2 : Int) - m := ⟨(dp + m).toNat, by omega⟩
  have g1 := hs'.ge' hc' h1
  have g2 := hs.lt hc.digits hB h2
  have h12 : n2 + 18 ≤ n1 := by omega
  have g3 : 10 ^ (n2 + 18) ≤ 10 ^ n1 := Nat.pow_le_pow_right (by omega) h12
  rw [Nat.pow_add] at g3
  have g4 : (A * P) * 10 ^ m ≤ (A * 10 ^ 18) * 10 ^ m := Nat.mul_le_mul_right _ (Nat.mul_le_mul_left _ hP)
  have g5 : (A * 10 ^ 18) * 10 ^ m = (A * 10 ^ m) * 10 ^ 18 := by ac_rfl
  have g6 : (A * 10 ^ m) * 10 ^ 18 < (10 ^ n2 * B) * 10 ^ 18 := Nat.mul_lt_mul_of_pos_right g2 (ten_pos _)
  have g7 : (10 ^ n2 * B) * 10 ^ 18 = (10 ^ n2 * 10 ^ 18) * B := by ac_rfl
  have g8 : (10 ^ n2 * 10 ^ 18) * B ≤ 10 ^ n1 * B := Nat.mul_le_mul_right _ g3
  have g9 : 10 ^ n1 * B ≤ 10 ^ n1 * (B * Q) := Nat.mul_le_mul_left _ (Nat.le_mul_of_pos_right _ hQ0)
  omega

end Go.Proofs.YtgolhmiocjpohaaGreatDoor

namespace Go.Proofs.YtgolhmiocjpohaaGreatDoor
open Go.RowKit

/-- What holds of a decimal behind j steps. -/
structure Moved10 (w : World) (base b : Nat) (ds : List Nat) (dp : Int) (P Q j grow : Nat) (wr : World) (es : List Nat) (ep : Int) : Prop where
 canon : Canon es
 dec : DecAt wr base b es ep
 same : ∀ A B, Same ds dp A B → Same es ep (A * P) (B * Q)
 len : es.length ≤ ds.length + grow
 lo : dp - 18 * (j : Int) ≤ ep
 hi : ep ≤ dp + 18 * (j : Int)
 only : Only b w wr

theorem Moved10.start {w : World} {base b : Nat} {ds : List Nat} {dp : Int} (h : DecAt w base b ds dp) (hc : Canon ds) : Moved10 w base b ds dp 1 1 0 0 w ds dp :=
 ⟨hc, h, fun A B hs => by rw [Nat.mul_one, Nat.mul_one]; exact hs, by omega, by omega, by omega, Only.refl _ _⟩

/-- One step more. -/
theorem Moved10.step {w wr w' : World} {base b : Nat} {ds es fs : List Nat} {dp ep fp : Int} {P Q P' Q' j grow more : Nat} (h : Moved10 w base b ds dp P Q j grow wr es ep)
  (h1 : Canon fs) (h2 : DecAt w' base b fs fp) (h3 : ∀ A B, Same es ep A B → Same fs fp (A * P') (B * Q')) (h4 : fs.length ≤ es.length + more) (h5 : Only b wr w')
  (hP : P' ≤ 10 ^ 18) (hQ : Q' ≤ 10 ^ 18) (hP0 : 0 < P') (hQ0 : 0 < Q') : Moved10 w base b ds dp (P * P') (Q * Q') (j + 1) (grow + more) w' fs fp := by
 have hm := point_moves h.canon h1 h3 hP hQ hP0 hQ0
 have := h.lo
 have := h.hi
 have := h.len
 exact ⟨h1, h2, fun A B hs => by have := h3 _ _ (h.same A B hs); rwa [Nat.mul_assoc, Nat.mul_assoc] at this, by omega, by omega, by omega, h.only.trans h5⟩

theorem two59 : 2 ^ 59 ≤ 10 ^ 18 := by decide
theorem two_le {k : Nat} (h : k ≤ 59) : 2 ^ k ≤ 10 ^ 18 := Nat.le_trans (Nat.pow_le_pow_right (by omega) h) two59

set_option maxHeartbeats 1600000 in
set_option maxRecDepth 100000 in
theorem shift_many (w : World) (base b : Nat) (ds : List Nat) (dp : Int) (k : Nat) (h : DecAt w base b ds dp) (hc : Canon ds) (hlen : ds.length ≤ 100000) (hdp : -100000 ≤ dp ∧ dp ≤ 100000) (hk : k ≤ 1200) :
  Calls Tryz.prog 172 #[.pointer (some ⟨b, 0, none⟩), .int .i64 (k : Int)] w (ShiftIs base b ds dp (2 ^ k) 1 500 w) := by
 have H0 := Lib.hid (Moved10.start h hc)
 clear h hc
 go_enter Tryz.func172, Tryz.ntmps172
 go_wp2_with fail
 go_loopw [1] (fun v wr => ∃ (m j : Nat) (es : List Nat) (ep : Int), v = .int .i64 (m : Int) ∧ m + 59 * j = k ∧ Moved10 w base b ds dp (2 ^ (59 * j)) 1 j (18 * j) wr es ep) (fun v _ => (intOf v).toNat)
 case atStart => exact ⟨k, 0, ds, dp, rfl, by omega, H0.out⟩
 case round =>
  clear H0
  obtain ⟨m, j, es, ep, rfl, hmj, hM⟩ := hrel
  have HM := Lib.hid hM
  have h1 := hM.len
  have h2 := hM.lo
  have h3 := hM.hi
  clear hM
  by_cases hm : 59 < m
  ·have hm' : (59 : Int) < (m : Int) := by omega
   have HH := Lib.hid (show Calls Tryz.prog 175 #[.pointer (some ⟨b, 0, none⟩), .int .i64 59] wr (ShiftIs base b es ep (2 ^ 59) 1 18 wr) from double wr base b es ep 59 HM.out.dec HM.out.canon (by omega) (by omega) (by omega))
   go_wp2_with (go_at_call 175; (with_reducible refine HH.out.mono ?_); rintro e9 w9 ⟨rfl, t1⟩; have H9 := Lib.hid t1; clear t1)
   go_roundw
   case rel =>
    obtain ⟨es2, ep2, t1, t2, t3, t4, t5⟩ := H9.out
    have := HM.out.step t1 t2 t3 t4 t5 two59 (by decide) (by decide) (by decide)
    refine ⟨m - 59, j + 1, es2, ep2, by first | (go_num; done) | (go_num; omega), by omega, ?_⟩
    rw [show 59 * (j + 1) = 59 * j + 59 by omega, Nat.pow_add, show 18 * (j + 1) = 18 * j + 18 by omega]
    exact this
   case measure => simp [intOf]; omega
  ·have hm' : ¬ (59 : Int) < (m : Int) := by omega
   have hm2 : ¬ (m : Int) < -59 := by omega
   have hj20 : j ≤ 20 := by omega
   by_cases hm0 : 0 < m
   ·have hm3 : (0 : Int) < (m : Int) := by omega
    have HH := Lib.hid (double wr base b es ep m HM.out.dec HM.out.canon (by omega) (by omega) (by omega))
    go_wp2_with fail
    refine wp_loop_rounds 1 ?_
    rw [rounds_succ]
    go_wp2_with (go_at_call 175; (with_reducible refine HH.out.mono ?_); rintro e9 w9 ⟨rfl, t1⟩; have H9 := Lib.hid t1; clear t1)
    go_end0
    obtain ⟨es2, ep2, t1, t2, t3, t4, t5⟩ := H9.out
    have hs := HM.out.step t1 t2 t3 t4 t5 (two_le (by omega)) (by decide) (Nat.pow_pos (by omega)) (by decide)
    rw [← Nat.pow_add, show 59 * j + m = k by omega] at hs
    exact ⟨rfl, es2, ep2, hs.canon, hs.dec, hs.same, by have := hs.len; omega, hs.only⟩
   ·have hm3 : ¬ (0 : Int) < (m : Int) := by omega
    have hm4 : ¬ (m : Int) < 0 := by omega
    go_wp2_with fail
    refine wp_loop_rounds 1 ?_
    rw [rounds_succ]
    go_wp2_with fail
    go_end0
    have hs := HM.out
    rw [show 59 * j = k by omega] at hs
    exact ⟨rfl, es, ep, hs.canon, hs.dec, hs.same, by have := hs.len; omega, hs.only⟩

set_option maxHeartbeats 1600000 in
set_option maxRecDepth 100000 in
theorem shift_down (w : World) (base b : Nat) (ds : List Nat) (dp : Int) (k : Nat) (h : DecAt w base b ds dp) (hc : Canon ds) (hlen : ds.length ≤ 100000) (hdp : -100000 ≤ dp ∧ dp ≤ 100000) (hk0 : 0 < k) (hk : k ≤ 2000) :
  Calls Tryz.prog 172 #[.pointer (some ⟨b, 0, none⟩), .int .i64 (-(k : Int))] w (ShiftIs base b ds dp 1 (2 ^ k) k w) := by
 have H0 := Lib.hid (Moved10.start h hc)
 clear h hc
 have hn : ¬ (59 : Int) < -(k : Int) := by omega
 go_enter Tryz.func172, Tryz.ntmps172
 go_wp2_with fail
 refine wp_loop_rounds 1 ?_
 rw [rounds_succ]
 go_wp2_with fail
 go_loopw [1] (fun v wr => ∃ (m j : Nat) (es : List Nat) (ep : Int), v = .int .i64 (-(m : Int)) ∧ 0 < m ∧ m + 59 * j = k ∧ Moved10 w base b ds dp 1 (2 ^ (59 * j)) j (59 * j) wr es ep) (fun v _ => (-(intOf v)).toNat)
 case atStart => exact ⟨k, 0, ds, dp, rfl, hk0, by omega, H0.out⟩
 case round =>
  clear H0 hn
  obtain ⟨m, j, es, ep, rfl, hm1, hmj, hM⟩ := hrel
  have HM := Lib.hid hM
  have h1 := hM.len
  have h2 := hM.lo
  have h3 := hM.hi
  clear hM
  by_cases hm : 59 < m
  ·have hm' : -(m : Int) < -59 := by omega
   have HH := Lib.hid (show Calls Tryz.prog 174 #[.pointer (some ⟨b, 0, none⟩), .int .i64 59] wr (ShiftIs base b es ep 1 (2 ^ 59) 59 wr) from half wr base b es ep 59 HM.out.dec HM.out.canon (by omega) (by omega) (by omega) (by omega))
   go_wp2_with (go_at_call 174; (with_reducible refine HH.out.mono ?_); rintro e9 w9 ⟨rfl, t1⟩; have H9 := Lib.hid t1; clear t1)
   go_roundw
   case rel =>
    obtain ⟨es2, ep2, t1, t2, t3, t4, t5⟩ := H9.out
    have := HM.out.step t1 t2 t3 t4 t5 (by decide) two59 (by decide) (by decide)
    refine ⟨m - 59, j + 1, es2, ep2, by first | (go_num; done) | (go_num; omega), by omega, by omega, ?_⟩
    rw [show 59 * (j + 1) = 59 * j + 59 by omega, Nat.pow_add]
    exact this
   case measure => simp [intOf]; omega
  ·have hm' : ¬ -(m : Int) < -59 := by omega
   have hm3 : ¬ (0 : Int) < -(m : Int) := by omega
   have hm4 : -(m : Int) < 0 := by omega
   have hneg : - -(m : Int) = (m : Int) := by omega
   have HH := Lib.hid (half wr base b es ep m HM.out.dec HM.out.canon (by omega) (by omega) hm1 (by omega))
   go_wp2_with (go_at_call 174; (with_reducible refine HH.out.mono ?_); rintro e9 w9 ⟨rfl, t1⟩; have H9 := Lib.hid t1; clear t1)
   go_end0
   obtain ⟨es2, ep2, t1, t2, t3, t4, t5⟩ := H9.out
   have hs := HM.out.step t1 t2 t3 t4 t5 (by decide) (two_le (by omega)) (by decide) (Nat.pow_pos (by omega))
   rw [← Nat.pow_add, show 59 * j + m = k by omega] at hs
   exact ⟨rfl, es2, ep2, hs.canon, hs.dec, hs.same, by have := hs.len; omega, hs.only⟩

end Go.Proofs.YtgolhmiocjpohaaGreatDoor

namespace Go.Proofs.YtgolhmiocjpohaaGreatDoor

theorem two_pos (n : Nat) : 0 < 2 ^ n := Nat.pow_pos (by omega)
theorem two_mono {a b : Nat} (h : a ≤ b) : 2 ^ a ≤ 2 ^ b := Nat.pow_le_pow_right (by omega) h
theorem mul_two_mono (A : Nat) {a b : Nat} (h : a ≤ b) : A * 2 ^ a ≤ A * 2 ^ b := Nat.mul_le_mul_left _ (two_mono h)

/-- 2 to the power E is at most A through B, and twice that is above it. -/
def IsLog (A B : Nat) (E : Int) : Prop := ∀ p q : Nat, (p : Int) - q = E → B * 2 ^ p ≤ A * 2 ^ q ∧ A * 2 ^ q < 2 * (B * 2 ^ p)

theorem IsLog.of {A B : Nat} {E : Int} (p q : Nat) (h : (p : Int) - q = E) (h1 : B * 2 ^ p ≤ A * 2 ^ q) (h2 : A * 2 ^ q < 2 * (B * 2 ^ p)) : IsLog A B E := by
 intro p' q' h'
 by_cases hp : p ≤ p'
 ·obtain ⟨c, rfl⟩ : ∃ c, p' = p + c := ⟨p' - p, by omega⟩
  have : q' = q + c := by omega
  subst this
  rw [Nat.pow_add, Nat.pow_add, ← Nat.mul_assoc, ← Nat.mul_assoc]
  refine ⟨Nat.mul_le_mul_right _ h1, ?_⟩
  have h3 := Nat.mul_lt_mul_of_pos_right h2 (two_pos c)
  rwa [Nat.mul_assoc 2] at h3
 ·obtain ⟨c, rfl⟩ : ∃ c, p = p' + c := ⟨p - p', by omega⟩
  have : q = q' + c := by omega
  subst this
  rw [Nat.pow_add, Nat.pow_add, ← Nat.mul_assoc, ← Nat.mul_assoc] at h1
  rw [Nat.pow_add, Nat.pow_add, ← Nat.mul_assoc, show 2 * (B * (2 ^ p' * 2 ^ c)) = 2 * (B * 2 ^ p') * 2 ^ c by ac_rfl] at h2
  exact ⟨Nat.le_of_mul_le_mul_right h1 (two_pos c), Nat.lt_of_mul_lt_mul_right h2⟩

theorem IsLog.unique {A B : Nat} {E F : Int} (h : IsLog A B E) (k : IsLog A B F) : E = F := by
 have key : ∀ {E F : Int}, IsLog A B E → IsLog A B F → ¬ E < F := by
  intro E F h k hlt
  obtain ⟨q, hq⟩ : ∃ q : Nat, (q : Int) = E.natAbs + F.natAbs := ⟨_, rfl⟩
  obtain ⟨p, hp⟩ : ∃ p : Nat, (p : Int) = q + E := ⟨(q + E).toNat, by omega⟩
  obtain ⟨c, hc⟩ : ∃ c : Nat, (c : Int) = F - E - 1 := ⟨(F - E - 1).toNat, by omega⟩
  have h1 := (h p q (by omega)).2
  have h2 := (k (p + 1 + c) q (by omega)).1
  rw [Nat.pow_add, Nat.pow_succ] at h2
  have h3 : 1 * (2 * (B * 2 ^ p)) ≤ 2 ^ c * (2 * (B * 2 ^ p)) := Nat.mul_le_mul_right _ (two_pos c)
  have h4 : B * (2 ^ p * 2 * 2 ^ c) = 2 ^ c * (2 * (B * 2 ^ p)) := by ac_rfl
  omega
 have := key h k
 have := key k h
 omega

theorem IsLog.congr {A B A' B' : Nat} {E : Int} (h : IsLog A B E) (hB : 0 < B) (hB' : 0 < B') (he : A * B' = A' * B) : IsLog A' B' E := by
 intro p q hpq
 obtain ⟨h1, h2⟩ := h p q hpq
 constructor
 ·have h3 : B * 2 ^ p * B' ≤ A * 2 ^ q * B' := Nat.mul_le_mul_right _ h1
  have e1 : B * 2 ^ p * B' = B * (B' * 2 ^ p) := by ac_rfl
  have e2 : A * 2 ^ q * B' = B * (A' * 2 ^ q) := by
   calc A * 2 ^ q * B' = A * B' * 2 ^ q := by ac_rfl
    _ = A' * B * 2 ^ q := by rw [he]
    _ = B * (A' * 2 ^ q) := by ac_rfl
  rw [e1, e2] at h3
  exact Nat.le_of_mul_le_mul_left h3 hB
 ·have h3 : A * 2 ^ q * B' < 2 * (B * 2 ^ p) * B' := Nat.mul_lt_mul_of_pos_right h2 hB'
  have e1 : 2 * (B * 2 ^ p) * B' = B * (2 * (B' * 2 ^ p)) := by ac_rfl
  have e2 : A * 2 ^ q * B' = B * (A' * 2 ^ q) := by
   calc A * 2 ^ q * B' = A * B' * 2 ^ q := by ac_rfl
    _ = A' * B * 2 ^ q := by rw [he]
    _ = B * (A' * 2 ^ q) := by ac_rfl
  rw [e1, e2] at h3
  exact Nat.lt_of_mul_lt_mul_left h3

theorem rnd_pow {A B u v u' v' : Nat} (hB : 0 < B) (h : (u : Int) - v = (u' : Int) - v') : rnd (A * 2 ^ u) (B * 2 ^ v) = rnd (A * 2 ^ u') (B * 2 ^ v') := by
 refine rnd_congr (Nat.mul_pos hB (two_pos _)) (Nat.mul_pos hB (two_pos _)) ?_
 have e : (2 : Nat) ^ u * 2 ^ v' = 2 ^ u' * 2 ^ v := by
  rw [← Nat.pow_add, ← Nat.pow_add]
  congr 1
  omega
 calc A * 2 ^ u * (B * 2 ^ v') = A * B * (2 ^ u * 2 ^ v') := by ac_rfl
  _ = A * B * (2 ^ u' * 2 ^ v) := by rw [e]
  _ = A * 2 ^ u' * (B * 2 ^ v) := by ac_rfl

/-- The least exponent that counts. -/
def expOf (E : Int) : Int := max E (-1022)

/-- The place of the nearest float of A through B. -/
def Rung (A B r : Nat) : Prop :=
 A = 0 ∧ r = 0 ∨ 0 < A ∧ ∃ E : Int, IsLog A B E ∧ ∀ u v c : Nat, (u : Int) - v = 52 - expOf E → (c : Int) = expOf E + 1022 → r = c * 2 ^ 52 + rnd (A * 2 ^ u) (B * 2 ^ v)

theorem Rung.of {A B r : Nat} (hA : 0 < A) (hB : 0 < B) {E : Int} (hE : IsLog A B E) (u v c : Nat) (h1 : (u : Int) - v = 52 - expOf E) (h2 : (c : Int) = expOf E + 1022) (h : r = c * 2 ^ 52 + rnd (A * 2 ^ u) (B * 2 ^ v)) : Rung A B r := by
 refine Or.inr ⟨hA, E, hE, fun u' v' c' h1' h2' => ?_⟩
 rw [h, rnd_pow hB (u := u) (v := v) (u' := u') (v' := v') (by omega), show c = c' by omega]

theorem Rung.unique {A B r s : Nat} (h : Rung A B r) (k : Rung A B s) : r = s := by
 rcases h with ⟨h0, h⟩ | ⟨h0, E, h1, h2⟩
 ·rcases k with ⟨_, k⟩ | ⟨k0, _⟩
  ·rw [h, k]
  ·omega
 ·rcases k with ⟨k0, _⟩ | ⟨_, F, k1, k2⟩
  ·omega
  ·have := h1.unique k1
   subst this
   obtain ⟨u, hu⟩ : ∃ u : Nat, (u : Int) = 60 + (expOf E).natAbs := ⟨_, rfl⟩
   obtain ⟨v, hv⟩ : ∃ v : Nat, (u : Int) - v = 52 - expOf E := ⟨(u - 52 + expOf E).toNat, by omega⟩
   obtain ⟨c, hc⟩ : ∃ c : Nat, (c : Int) = expOf E + 1022 := ⟨(expOf E + 1022).toNat, by unfold expOf; omega⟩
   rw [h2 u v c hv hc, k2 u v c hv hc]

theorem Rung.congr {A B A' B' r : Nat} (h : Rung A B r) (hB : 0 < B) (hB' : 0 < B') (he : A * B' = A' * B) : Rung A' B' r := by
 rcases h with ⟨h0, h⟩ | ⟨h0, E, h1, h2⟩
 ·refine Or.inl ⟨?_, h⟩
  rw [h0, Nat.zero_mul] at he
  rcases Nat.mul_eq_zero.1 he.symm with h | h
  ·exact h
  ·omega
 ·have hA' : 0 < A' := by
   rcases Nat.eq_zero_or_pos A' with h | h
   ·rw [h, Nat.zero_mul] at he
    have := Nat.mul_pos h0 hB'
    omega
   ·exact h
  refine Or.inr ⟨hA', E, h1.congr hB hB' he, fun u v c hu hc => ?_⟩
  rw [h2 u v c hu hc]
  congr 1
  refine rnd_congr (Nat.mul_pos hB (two_pos _)) (Nat.mul_pos hB' (two_pos _)) ?_
  calc A * 2 ^ u * (B' * 2 ^ v) = A * B' * (2 ^ u * 2 ^ v) := by ac_rfl
   _ = A' * B * (2 ^ u * 2 ^ v) := by rw [he]
   _ = A' * 2 ^ u * (B * 2 ^ v) := by ac_rfl

theorem rnd_le {A B n : Nat} (hB : 0 < B) (h : A ≤ n * B) : rnd A B ≤ n := by
 have hd := Nat.div_add_mod A B
 have hr : A % B < B := Nat.mod_lt _ hB
 generalize A / B = q at *
 generalize A % B = r at *
 rw [rnd_eq (q := q) (r := r) (by rw [Nat.mul_comm]; omega) hr]
 have hq : q ≤ n := by
  apply Classical.byContradiction
  intro hn
  have : (n + 1) * B ≤ q * B := Nat.mul_le_mul_right _ (by omega)
  rw [Nat.add_mul, Nat.one_mul] at this
  rw [Nat.mul_comm q B] at this
  omega
 by_cases hqn : q = n
 ·subst hqn
  have : r = 0 := by rw [Nat.mul_comm q B] at h; omega
  subst this
  rw [if_pos (by omega)]
  exact Nat.le_refl _
 ·split
  ·omega
  ·split
   ·omega
   ·have := Nat.mod_lt q (show 0 < 2 by omega)
    omega

theorem rnd_ge {A B n : Nat} (hB : 0 < B) (h : n * B ≤ A) : n ≤ rnd A B := by
 have hd := Nat.div_add_mod A B
 have hr : A % B < B := Nat.mod_lt _ hB
 generalize A / B = q at *
 generalize A % B = r at *
 rw [rnd_eq (q := q) (r := r) (by rw [Nat.mul_comm]; omega) hr]
 have hq : n ≤ q := by
  apply Classical.byContradiction
  intro hn
  have : (q + 1) * B ≤ n * B := Nat.mul_le_mul_right _ (by omega)
  rw [Nat.add_mul, Nat.one_mul, Nat.mul_comm q B] at this
  omega
 split
 ·omega
 ·split
  ·omega
  ·have := Nat.mod_lt q (show 0 < 2 by omega)
   omega

/-- A float of the normal range: its mantissa. -/
theorem mant_normal {A B u v : Nat} {E : Int} (hB : 0 < B) (h : IsLog A B E) (hu : (u : Int) - v = 52 - E) : 2 ^ 52 ≤ rnd (A * 2 ^ u) (B * 2 ^ v) ∧ rnd (A * 2 ^ u) (B * 2 ^ v) ≤ 2 ^ 53 := by
 obtain ⟨q, hq⟩ : ∃ q : Nat, (q : Int) = E.natAbs + 60 := ⟨_, rfl⟩
 obtain ⟨p, hp⟩ : ∃ p : Nat, (p : Int) = q + E := ⟨(q + E).toNat, by omega⟩
 obtain ⟨h1, h2⟩ := h p q (by omega)
 rw [rnd_pow hB (u' := q + 52) (v' := p) (by omega), Nat.pow_add]
 have hP := two_pos p
 refine ⟨rnd_ge (Nat.mul_pos hB hP) ?_, rnd_le (Nat.mul_pos hB hP) ?_⟩
 ·have : 2 ^ 52 * (B * 2 ^ p) ≤ 2 ^ 52 * (A * 2 ^ q) := Nat.mul_le_mul_left _ h1
  calc 2 ^ 52 * (B * 2 ^ p) ≤ 2 ^ 52 * (A * 2 ^ q) := this
   _ = A * (2 ^ q * 2 ^ 52) := by ac_rfl
 ·have : 2 ^ 52 * (A * 2 ^ q) ≤ 2 ^ 52 * (2 * (B * 2 ^ p)) := Nat.mul_le_mul_left _ (Nat.le_of_lt h2)
  calc A * (2 ^ q * 2 ^ 52) = 2 ^ 52 * (A * 2 ^ q) := by ac_rfl
   _ ≤ 2 ^ 52 * (2 * (B * 2 ^ p)) := this
   _ = 2 ^ 53 * (B * 2 ^ p) := by rw [← Nat.mul_assoc]

/-- A float below the normal range. -/
theorem mant_small {A B u v : Nat} {E : Int} (hB : 0 < B) (h : IsLog A B E) (hE : E < -1022) (hu : (u : Int) - v = 1074) : rnd (A * 2 ^ u) (B * 2 ^ v) ≤ 2 ^ 52 := by
 obtain ⟨q, hq⟩ : ∃ q : Nat, (q : Int) = E.natAbs := ⟨_, rfl⟩
 have hqE : ((0 : Nat) : Int) - q = E := by omega
 obtain ⟨h1, h2⟩ := h 0 q hqE
 rw [Nat.pow_zero, Nat.mul_one] at h1 h2
 obtain ⟨N, hN⟩ : ∃ N : Nat, N = 1023 := ⟨_, rfl⟩
 obtain ⟨c, hc⟩ : ∃ c : Nat, q = N + c := ⟨q - N, by omega⟩
 rw [rnd_pow hB (u' := N + 51) (v' := 0) (by omega), Nat.pow_zero, Nat.mul_one]
 refine rnd_le hB ?_
 have h3 : A * 2 ^ N ≤ A * 2 ^ q := mul_two_mono A (by omega)
 have h4 : A * 2 ^ N ≤ 2 * B := by omega
 have h5 : A * 2 ^ N * 2 ^ 51 ≤ 2 * B * 2 ^ 51 := Nat.mul_le_mul_right _ h4
 rw [Nat.pow_add, ← Nat.mul_assoc]
 refine Nat.le_trans h5 (Nat.le_of_eq ?_)
 rw [Nat.mul_comm (2 * B), ← Nat.mul_assoc]

theorem Rung.over_at {A B r N : Nat} (hN : N = 1024) (h : Rung A B r) (hB : 0 < B) (hx : B * 2 ^ N ≤ A) : 2047 * 2 ^ 52 ≤ r := by
 rcases h with ⟨h0, h⟩ | ⟨h0, E, h1, h2⟩
 ·have := Nat.mul_pos hB (two_pos N)
  rw [h0] at hx
  exact absurd hx (Nat.not_le.2 this)
 ·have hE : 1024 ≤ E := by
   apply Classical.byContradiction
   intro hno
   obtain ⟨q, hq⟩ : ∃ q : Nat, (q : Int) = E.natAbs := ⟨_, rfl⟩
   obtain ⟨p, hp⟩ : ∃ p : Nat, (p : Int) = q + E := ⟨(q + E).toNat, by omega⟩
   obtain ⟨_, h4⟩ := h1 p q (by omega)
   have h5 : B * 2 ^ N * 2 ^ q ≤ A * 2 ^ q := Nat.mul_le_mul_right _ hx
   have h7 : B * 2 ^ (p + 1) ≤ B * 2 ^ (N + q) := mul_two_mono B (by omega)
   have e1 : B * 2 ^ (p + 1) = 2 * (B * 2 ^ p) := by rw [Nat.pow_succ]; ac_rfl
   have e2 : B * 2 ^ (N + q) = B * 2 ^ N * 2 ^ q := by rw [Nat.pow_add, Nat.mul_assoc]
   rw [e1, e2] at h7
   exact absurd (Nat.lt_of_lt_of_le h4 h7) (Nat.not_lt.2 h5)
  have hx : expOf E = E := by unfold expOf; omega
  obtain ⟨v, hv⟩ : ∃ v : Nat, (v : Int) = E := ⟨E.toNat, by omega⟩
  have h3 := h2 52 v (v + 1022) (by omega) (by omega)
  have h4 := (mant_normal hB h1 (u := 52) (v := v) (by omega)).1
  generalize rnd (A * 2 ^ 52) (B * 2 ^ v) = m at *
  omega

/-- Too large: at least 2 to the power 1024. -/
theorem Rung.over {A B r : Nat} (h : Rung A B r) (hB : 0 < B) (hx : B * 2 ^ 1024 ≤ A) : 2047 * 2 ^ 52 ≤ r := Rung.over_at rfl h hB hx

theorem Rung.none_at {A B M : Nat} (hM : M = 1074) (hB : 0 < B) (hA : 0 < A) (hx' : A * 2 ^ (M + 1) < B) {E : Int} (hE : IsLog A B E) : Rung A B 0 := by
 have hlt : E < -1022 := by
  apply Classical.byContradiction
  intro hno
  obtain ⟨q, hq⟩ : ∃ q : Nat, (q : Int) = E.natAbs + 1075 := ⟨_, rfl⟩
  obtain ⟨p, hp⟩ : ∃ p : Nat, (p : Int) = q + E := ⟨(q + E).toNat, by omega⟩
  obtain ⟨h3, _⟩ := hE p q (by omega)
  have h5 : A * 2 ^ (M + 1) * 2 ^ p < B * 2 ^ p := Nat.mul_lt_mul_of_pos_right hx' (two_pos p)
  have h7 : A * 2 ^ q ≤ A * 2 ^ (M + 1 + p) := mul_two_mono A (by omega)
  rw [Nat.pow_add 2 (M + 1) p, ← Nat.mul_assoc] at h7
  exact absurd (Nat.lt_of_le_of_lt (Nat.le_trans h3 h7) h5) (Nat.lt_irrefl _)
 have hx : expOf E = -1022 := by unfold expOf; omega
 refine Rung.of hA hB hE M 0 0 (by omega) (by omega) ?_
 rw [Nat.pow_zero, Nat.mul_one, Nat.zero_mul, Nat.zero_add]
 have h3 : A * 2 ^ M = 0 * B + A * 2 ^ M := by omega
 have h4 : 2 * (A * 2 ^ M) < B := by
  rw [Nat.pow_succ] at hx'
  generalize (2 : Nat) ^ M = P at *
  rw [← Nat.mul_assoc] at hx'
  omega
 rw [rnd_eq h3 (by omega), if_pos h4]

/-- Nought: below 2 to the power -1075. -/
theorem Rung.none {A B : Nat} (hB : 0 < B) (hA : 0 < A) (hx' : A * 2 ^ 1075 < B) {E : Int} (hE : IsLog A B E) : Rung A B 0 := by
 have h : ∀ N : Nat, N = 1075 → A * 2 ^ N < B → Rung A B 0 := fun N hN h => by
  obtain ⟨M, rfl⟩ : ∃ M, N = M + 1 := ⟨N - 1, by omega⟩
  exact Rung.none_at (by omega) hB hA h hE
 exact h _ rfl hx'

end Go.Proofs.YtgolhmiocjpohaaGreatDoor

set_option exponentiation.threshold 4096
namespace Go.Proofs.YtgolhmiocjpohaaGreatDoor

theorem ten330 : 2 ^ 1080 ≤ 10 ^ 331 := by decide +kernel
theorem ten331 : 10 ^ 331 ≤ 2 ^ 1110 := by decide +kernel
theorem ten310 : 10 ^ 310 ≤ 2 ^ 1040 := by decide +kernel
theorem ten310' : 2 ^ 1024 ≤ 10 ^ 310 := by decide +kernel

theorem pow_lt_two {a b : Nat} (h : 2 ^ a < 2 ^ b) : a < b := (Nat.pow_lt_pow_iff_right (by omega)).1 h
theorem pow_le_two {a b : Nat} (h : 2 ^ a ≤ 2 ^ b) : a ≤ b := (Nat.pow_le_pow_iff_right (by omega)).1 h
theorem two_le_ten (m : Nat) : 2 ^ m ≤ 10 ^ m := Nat.pow_le_pow_left (by omega) m

/-- How large and how small a value is at most. -/
structure Mid (A B : Nat) : Prop where
 a : 0 < A
 b : 0 < B
 lo : B ≤ A * 2 ^ 1110
 hi : A ≤ B * 2 ^ 1040

theorem Same.mid {ds : List Nat} {dp : Int} {A B : Nat} (h : Same ds dp A B) (hc : Canon ds) (hA : 0 < A) (hB : 0 < B) (h1 : -330 ≤ dp) (h2 : dp ≤ 310) : Mid A B := by
 refine ⟨hA, hB, ?_, ?_⟩
 ·have h3 : B ≤ A * 10 ^ 331 := by
   obtain ⟨n, hn⟩ : ∃ n : Nat, dp = (n : Int) - 331 + 1 := ⟨(dp + 330).toNat, by omega⟩
   have h4 := h.ge' hc (n := n) (m := 331) hn
   have h5 : 1 * B ≤ 10 ^ n * B := Nat.mul_le_mul_right _ (ten_pos n)
   omega
  exact Nat.le_trans h3 (Nat.mul_le_mul_left _ ten331)
 ·have h3 : A ≤ 10 ^ 310 * B := by
   obtain ⟨m, hm⟩ : ∃ m : Nat, dp = ((310 : Nat) : Int) - m := ⟨(310 - dp).toNat, by omega⟩
   have h4 := h.lt hc.digits hB hm
   have h5 : A * 1 ≤ A * 10 ^ m := Nat.mul_le_mul_left _ (ten_pos m)
   generalize 10 ^ 310 * B = X at *
   omega
  rw [Nat.mul_comm B]
  exact Nat.le_trans h3 (Nat.mul_le_mul_right _ ten310)

theorem Same.tiny {ds : List Nat} {dp : Int} {A B : Nat} (h : Same ds dp A B) (hc : Canon ds) (hB : 0 < B) (h1 : dp < -330) : A * 2 ^ 1075 < B := by
 obtain ⟨m, hm⟩ : ∃ m : Nat, dp = ((0 : Nat) : Int) - (331 + m : Nat) := ⟨(-331 - dp).toNat, by omega⟩
 have h4 := h.lt hc.digits hB hm
 rw [Nat.pow_zero, Nat.one_mul, Nat.pow_add] at h4
 have h5 : (2 : Nat) ^ 1075 ≤ 2 ^ 1080 := Nat.pow_le_pow_right (by omega) (by omega)
 have h6 : A * 2 ^ 1075 ≤ A * 10 ^ 331 := Nat.mul_le_mul_left _ (Nat.le_trans h5 ten330)
 have h7 : A * 10 ^ 331 * 1 ≤ A * 10 ^ 331 * 10 ^ m := Nat.mul_le_mul_left _ (ten_pos m)
 rw [Nat.mul_one, Nat.mul_assoc] at h7
 exact Nat.lt_of_le_of_lt (Nat.le_trans h6 h7) h4

theorem Same.huge {ds : List Nat} {dp : Int} {A B : Nat} (h : Same ds dp A B) (hc : Canon ds) (h1 : 310 < dp) : B * 2 ^ 1024 ≤ A := by
 obtain ⟨n, hn⟩ : ∃ n : Nat, dp = ((310 + n : Nat) : Int) + 1 := ⟨(dp - 311).toNat, by omega⟩
 have h4 := h.ge hc hn
 rw [Nat.pow_add] at h4
 have h5 : B * 2 ^ 1024 ≤ B * 10 ^ 310 := Nat.mul_le_mul_left _ ten310'
 have h6 : 10 ^ 310 * 1 * B ≤ 10 ^ 310 * 10 ^ n * B := Nat.mul_le_mul_right _ (Nat.mul_le_mul_left _ (ten_pos n))
 rw [Nat.mul_one] at h6
 rw [Nat.mul_comm B (10 ^ 310)] at h5
 exact Nat.le_trans h5 (Nat.le_trans h6 h4)

/-- A decimal that is A through B, times 2 to the power q, through 2 to the power p. -/
structure St (A B p q : Nat) (es : List Nat) (ep : Int) : Prop where
 canon : Canon es
 same : Same es ep (A * 2 ^ q) (B * 2 ^ p)

theorem St.start {A B : Nat} {ds : List Nat} {dp : Int} (h : Same ds dp A B) (hc : Canon ds) : St A B 0 0 ds dp :=
 ⟨hc, by rw [Nat.pow_zero, Nat.mul_one, Nat.mul_one]; exact h⟩

theorem St.halve {A B p q k : Nat} {es fs : List Nat} {ep fp : Int} (h : St A B p q es ep) (hc : Canon fs) (hs : ∀ A B, Same es ep A B → Same fs fp (A * 1) (B * 2 ^ k)) : St A B (p + k) q fs fp :=
 ⟨hc, by have := hs _ _ h.same; rwa [Nat.mul_one, Nat.mul_assoc, ← Nat.pow_add] at this⟩

theorem St.double {A B p q k : Nat} {es fs : List Nat} {ep fp : Int} (h : St A B p q es ep) (hc : Canon fs) (hs : ∀ A B, Same es ep A B → Same fs fp (A * 2 ^ k) (B * 1)) : St A B p (q + k) fs fp :=
 ⟨hc, by have := hs _ _ h.same; rwa [Nat.mul_one, Nat.mul_assoc, ← Nat.pow_add] at this⟩

theorem St.ge_one {A B p q : Nat} {es : List Nat} {ep : Int} (h : St A B p q es ep) (hp : 0 < ep) : B * 2 ^ p ≤ A * 2 ^ q := by
 obtain ⟨n, hn⟩ : ∃ n : Nat, ep = n + 1 := ⟨(ep - 1).toNat, by omega⟩
 have h1 := h.same.ge h.canon hn
 have h2 : 1 * (B * 2 ^ p) ≤ 10 ^ n * (B * 2 ^ p) := Nat.mul_le_mul_right _ (ten_pos n)
 omega

theorem St.lt_one {A B p q : Nat} {es : List Nat} {ep : Int} (h : St A B p q es ep) (hB : 0 < B) (hp : ep ≤ 0) : A * 2 ^ q < B * 2 ^ p := by
 obtain ⟨m, hm⟩ : ∃ m : Nat, ep = ((0 : Nat) : Int) - m := ⟨(-ep).toNat, by omega⟩
 have h1 := h.same.lt h.canon.digits (Nat.mul_pos hB (two_pos p)) hm
 have h3 : A * 2 ^ q * 1 ≤ A * 2 ^ q * 10 ^ m := Nat.mul_le_mul_left _ (ten_pos m)
 omega

theorem St.le_zero {A B p q : Nat} {es : List Nat} {ep : Int} (h : St A B p q es ep) (hlt : A * 2 ^ q < B * 2 ^ p) : ep ≤ 0 := by
 apply Classical.byContradiction
 intro hn
 have := h.ge_one (by omega)
 omega

theorem St.p_small {A B p : Nat} {es : List Nat} {ep : Int} (h : St A B p 0 es ep) (hm : Mid A B) (hp : 0 < ep) : p ≤ 1040 := by
 have h1 := h.ge_one hp
 rw [Nat.pow_zero, Nat.mul_one] at h1
 have h2 := Nat.le_trans h1 hm.hi
 exact pow_le_two (Nat.le_of_mul_le_mul_left h2 hm.b)

theorem St.q_small {A B p q : Nat} (hm : Mid A B) (h : A * 2 ^ q < B * 2 ^ p) : q < p + 1110 := by
 have h1 : B * 2 ^ p ≤ A * 2 ^ 1110 * 2 ^ p := Nat.mul_le_mul_right _ hm.lo
 have h2 := Nat.lt_of_lt_of_le h h1
 rw [Nat.mul_assoc, ← Nat.pow_add] at h2
 have := pow_lt_two (Nat.lt_of_mul_lt_mul_left h2)
 omega

theorem St.ep_lo {A B p q : Nat} {es : List Nat} {ep : Int} (h : St A B p q es ep) (hm : Mid A B) : -(p : Int) - 1110 ≤ ep := by
 apply Classical.byContradiction
 intro hn
 obtain ⟨m, hm'⟩ : ∃ m : Nat, ep = ((0 : Nat) : Int) - m := ⟨(-ep).toNat, by omega⟩
 have h1 := h.same.lt h.canon.digits (Nat.mul_pos hm.b (two_pos p)) hm'
 rw [Nat.pow_zero, Nat.one_mul] at h1
 have h2 : B * 2 ^ p ≤ A * 2 ^ 1110 * 2 ^ p := Nat.mul_le_mul_right _ hm.lo
 have h3 : A * 1 * 2 ^ m ≤ A * 2 ^ q * 10 ^ m := Nat.mul_le_mul (Nat.mul_le_mul_left _ (two_pos q)) (two_le_ten m)
 have h4 := Nat.lt_of_le_of_lt h3 (Nat.lt_of_lt_of_le h1 h2)
 rw [Nat.mul_one, Nat.mul_assoc, ← Nat.pow_add] at h4
 have := pow_lt_two (Nat.lt_of_mul_lt_mul_left h4)
 omega

theorem St.ep_hi {A B p q : Nat} {es : List Nat} {ep : Int} (h : St A B p q es ep) (hm : Mid A B) : ep ≤ 1041 + q := by
 apply Classical.byContradiction
 intro hn
 obtain ⟨n, hn'⟩ : ∃ n : Nat, ep = n + 1 := ⟨(ep - 1).toNat, by omega⟩
 have h1 := h.same.ge h.canon hn'
 have h2 : A * 2 ^ q ≤ B * 2 ^ 1040 * 2 ^ q := Nat.mul_le_mul_right _ hm.hi
 have h3 : 2 ^ n * (B * 1) ≤ 10 ^ n * (B * 2 ^ p) := Nat.mul_le_mul (two_le_ten n) (Nat.mul_le_mul_left _ (two_pos p))
 have h4 := Nat.le_trans h3 (Nat.le_trans h1 h2)
 rw [Nat.mul_one, Nat.mul_comm, Nat.mul_assoc, ← Nat.pow_add] at h4
 have := pow_le_two (Nat.le_of_mul_le_mul_left h4 hm.b)
 omega

/-- How far a decimal below 1 may be doubled. -/
theorem St.room {A B p q k : Nat} {es : List Nat} {ep : Int} (h : St A B p q es ep) (hB : 0 < B) (hk : ep = 0 ∧ dAt es 0 < 5 ∧ k = 1 ∨ ep < 0 ∧ (k : Int) ≤ -3 * ep) : A * 2 ^ (q + k) < B * 2 ^ p := by
 have hB' := Nat.mul_pos hB (two_pos p)
 rw [Nat.pow_add, ← Nat.mul_assoc]
 rcases hk with ⟨rfl, h5, rfl⟩ | ⟨hd, hk⟩
 ·have := h.same.half_lt h.canon hB' h5
  omega
 ·obtain ⟨m, hm⟩ : ∃ m : Nat, ep = ((0 : Nat) : Int) - m := ⟨(-ep).toNat, by omega⟩
  have h1 := h.same.lt h.canon.digits hB' hm
  have h2 : 2 ^ k ≤ 2 ^ (3 * m) := Nat.pow_le_pow_right (by omega) (by omega)
  have h3 : (2 : Nat) ^ (3 * m) = 8 ^ m := by rw [Nat.pow_mul]
  have h4 : 8 ^ m ≤ 10 ^ m := Nat.pow_le_pow_left (by omega) m
  have h5 : A * 2 ^ q * 2 ^ k ≤ A * 2 ^ q * 10 ^ m := Nat.mul_le_mul_left _ (by omega)
  rw [Nat.pow_zero, Nat.one_mul] at h1
  omega

/-- Where the doubling ends. -/
theorem St.top {A B p q : Nat} {es : List Nat} (h : St A B p q es 0) (h5 : 5 ≤ dAt es 0) (hlt : A * 2 ^ q < B * 2 ^ p) : IsLog A B ((p : Int) - q - 1) := by
 have h1 := h.same.half_ge h.canon h5
 refine IsLog.of p (q + 1) (by omega) ?_ ?_
 ·rw [Nat.pow_succ, ← Nat.mul_assoc]; omega
 ·rw [Nat.pow_succ, ← Nat.mul_assoc]; omega

theorem IsLog.exists {A B : Nat} (hA : 0 < A) (hB : 0 < B) : ∃ E, IsLog A B E := by
 have h0 : B ≤ A * 2 ^ B := by
  have h1 : B < 2 ^ B := Nat.lt_two_pow_self
  have h2 : 1 * 2 ^ B ≤ A * 2 ^ B := Nat.mul_le_mul_right _ hA
  omega
 obtain ⟨n, hn⟩ : ∃ n, n = A * 2 ^ B / B := ⟨_, rfl⟩
 have hn0 : n ≠ 0 := by
  have : 0 < A * 2 ^ B / B := Nat.div_pos h0 hB
  omega
 obtain ⟨h1, h2⟩ := log2_bounds hn0
 refine ⟨(n.log2 : Int) - B, IsLog.of n.log2 B rfl ?_ ?_⟩
 ·have h3 : B * n ≤ A * 2 ^ B := by rw [hn]; exact Nat.mul_div_le _ _
  exact Nat.le_trans (Nat.mul_le_mul_left _ h1) h3
 ·have h3 : A * 2 ^ B < B * (n + 1) := by rw [hn]; exact Nat.lt_mul_div_succ _ hB
  have h4 : B * (n + 1) ≤ B * 2 ^ (n.log2 + 1) := Nat.mul_le_mul_left _ h2
  rw [Nat.pow_succ, ← Nat.mul_assoc] at h4
  omega

theorem Rung.exists (A : Nat) {B : Nat} (hB : 0 < B) : ∃ r, Rung A B r := by
 rcases Nat.eq_zero_or_pos A with h | hA
 ·exact ⟨0, Or.inl ⟨h, rfl⟩⟩
 ·obtain ⟨E, hE⟩ := IsLog.exists hA hB
  obtain ⟨u, hu⟩ : ∃ u : Nat, (u : Int) = 60 + (expOf E).natAbs := ⟨_, rfl⟩
  obtain ⟨v, hv⟩ : ∃ v : Nat, (u : Int) - v = 52 - expOf E := ⟨(u - 52 + expOf E).toNat, by omega⟩
  obtain ⟨c, hc⟩ : ∃ c : Nat, (c : Int) = expOf E + 1022 := ⟨(expOf E + 1022).toNat, by unfold expOf; omega⟩
  exact ⟨_, Rung.of hA hB hE u v c hv hc rfl⟩

/-- The mantissa and the exponent of a rung. -/
theorem rung_parts {A B p q r : Nat} (hB : 0 < B) (hE : IsLog A B ((p : Int) - q - 1)) (hr : Rung A B r) {M : Nat} (hA : 0 < A) :
  ((-1022 ≤ (p : Int) - q - 1 → M = rnd (A * 2 ^ (q + 53)) (B * 2 ^ p) → 2 ^ 52 ≤ M ∧ M ≤ 2 ^ 53 ∧ ∀ c : Nat, (c : Int) = (p : Int) - q - 1 + 1022 → r = c * 2 ^ 52 + M) ∧
   ((p : Int) - q - 1 < -1022 → ∀ k : Nat, (k : Int) = -1022 - ((p : Int) - q - 1) → M = rnd (A * 2 ^ (q + 53)) (B * 2 ^ (p + k)) → M ≤ 2 ^ 52 ∧ r = M)) := by
 rcases hr with ⟨h0, _⟩ | ⟨_, E, hE', hr⟩
 ·omega
 ·have := hE'.unique hE
  subst this
  constructor
  ·intro hge hM
   have hx : expOf ((p : Int) - q - 1) = (p : Int) - q - 1 := by unfold expOf; omega
   obtain ⟨h1, h2⟩ := mant_normal hB hE (u := q + 53) (v := p) (by omega)
   rw [← hM] at h1 h2
   exact ⟨h1, h2, fun c hc => by rw [hM]; exact hr (q + 53) p c (by omega) (by omega)⟩
  ·intro hlt k hk hM
   have hx : expOf ((p : Int) - q - 1) = -1022 := by unfold expOf; omega
   have h1 := mant_small hB hE hlt (u := q + 53) (v := p + k) (by omega)
   rw [← hM] at h1
   refine ⟨h1, ?_⟩
   have := hr (q + 53) (p + k) 0 (by omega) (by omega)
   rw [hM, this, Nat.zero_mul, Nat.zero_add]

end Go.Proofs.YtgolhmiocjpohaaGreatDoor

namespace Go.Proofs.YtgolhmiocjpohaaGreatDoor
open Go.RowKit

/-- The cells of a form that was laid into block g. -/
structure FormAt (w : World) (g : Nat) : Prop where
 a : w.cell? ⟨g, 0, none⟩ = some (.int .i64 52)
 b : w.cell? ⟨g, 1, none⟩ = some (.int .i64 11)
 c : w.cell? ⟨g, 2, none⟩ = some (.int .i64 (-1023))

theorem FormAt.only {w w' : World} {g b : Nat} (h : FormAt w g) (ho : Only b w w') (hg : g < w.heap.size) (hb : g ≠ b) : FormAt w' g :=
 ⟨(ho.cell hg hb).trans h.a, (ho.cell hg hb).trans h.b, (ho.cell hg hb).trans h.c⟩

theorem bits_half (m : Nat) (h1 : 2 ^ 52 ≤ m) (h2 : m < 2 ^ 53) : bits .and .u64 (m : Int) 4503599627370496 = 4503599627370496 := by
 have h := bits_and_u64 m (2 ^ 52) (by omega) (by omega)
 have e : m &&& 2 ^ 52 = 2 ^ 52 := by
  have ht : m.testBit 52 = true := by
   rw [Nat.testBit_eq_decide_div_mod_eq]
   have : m / 2 ^ 52 = 1 := by omega
   rw [this]
   rfl
  apply Nat.eq_of_testBit_eq
  intro j
  rw [Nat.testBit_and, Nat.testBit_two_pow]
  by_cases hj : 52 = j
  ·subst hj
   rw [ht]
   rfl
  ·simp [hj]
 rw [e] at h
 exact h

theorem bits_low (m : Nat) (h1 : 2 ^ 52 ≤ m) (h2 : m < 2 ^ 53) : bits .and .u64 (m : Int) 4503599627370495 = ((m - 2 ^ 52 : Nat) : Int) := by
 have h := bits_mask_u64 m 52 (2 ^ 52) rfl (by omega) (by omega)
 have e : m % 2 ^ 52 = m - 2 ^ 52 := by omega
 rw [e] at h
 exact h

theorem bits_joined (r q : Nat) (h1 : r < 2 ^ 52) (h2 : q < 2 ^ 11) : bits .or .u64 (r : Int) ((q * 2 ^ 52 : Nat) : Int) = ((q * 2 ^ 52 + r : Nat) : Int) := by
 rw [bits_or_u64 r (q * 2 ^ 52) (by omega) (by omega)]
 congr 1
 rw [Nat.or_comm, Nat.mul_comm, Nat.two_pow_add_eq_or_of_lt h1]

set_option maxHeartbeats 1600000 in
set_option maxRecDepth 100000 in
theorem bits_zero (w : World) (base b : Nat) (ep : Int) (h : DecAt w base b [] ep) :
  Calls Tryz.prog 148 #[.pointer (some ⟨b, 0, none⟩), form64] w fun e w' => e = .returned (.tuple #[.int .u64 0, .bool false]) ∧ Only b w w' := by
 have hlt := h.lt
 obtain ⟨v, hobj, hdig⟩ := h.obj
 rcases hdig with ⟨rfl, _⟩ | ⟨g, cap, rfl, _⟩
 all_goals
  obtain ⟨c0, c1, f0, f1⟩ := obj_cells hobj
  have g0 : (w.alloc (.cells #[.int .i64 52, .int .i64 11, .int .i64 (-1023)] 227)).cell? ⟨b, 0, none⟩ = w.cell? ⟨b, 0, none⟩ := World.cell?_alloc_past _ _ _ hlt
  rw [c0] at g0
  clear hobj h
  go_enter Tryz.func148, Tryz.ntmps148
  go_wp2_with fail
  go_quiet (fail)
  go_wp2_with fail
  go_ret2
  exact ⟨rfl, ((Only.refl _ _).alloc _).drewN _⟩

end Go.Proofs.YtgolhmiocjpohaaGreatDoor

namespace Go.Proofs.YtgolhmiocjpohaaGreatDoor
open Go.RowKit

/-- The bits of a rung, and whether it lies beyond the floats. -/
def cutRung (r : Nat) : Nat := if 9218868437227405312 ≤ r then 9218868437227405312 else r
def overRung (r : Nat) : Bool := decide (9218868437227405312 ≤ r)

set_option maxHeartbeats 1600000 in
set_option maxRecDepth 100000 in
theorem bits_tiny (w : World) (base b : Nat) (ds : List Nat) (dp : Int) (h : DecAt w base b ds dp) (hp : 0 < ds.length) (hl : ds.length ≤ 1000000) (h1 : dp < -330) (h2 : -1000000 ≤ dp) :
  Calls Tryz.prog 148 #[.pointer (some ⟨b, 0, none⟩), form64] w fun e w' => e = .returned (.tuple #[.int .u64 0, .bool false]) ∧ Only b w w' := by
 have hlt := h.lt
 have hne : ((ds.length : Int) == 0) = false := decide_eq_false (by omega)
 obtain ⟨v, hobj, hdig⟩ := h.obj
 rcases hdig with ⟨rfl, rfl⟩ | ⟨g, cap, rfl, _⟩
 ·simp at hp
 obtain ⟨c0, c1, f0, f1⟩ := obj_cells hobj
 have g0 : (w.alloc (.cells #[.int .i64 52, .int .i64 11, .int .i64 (-1023)] 227)).cell? ⟨b, 0, none⟩ = w.cell? ⟨b, 0, none⟩ := World.cell?_alloc_past _ _ _ hlt
 rw [c0] at g0
 have g1 : (w.alloc (.cells #[.int .i64 52, .int .i64 11, .int .i64 (-1023)] 227)).cell? ⟨b, 1, none⟩ = w.cell? ⟨b, 1, none⟩ := World.cell?_alloc_past _ _ _ hlt
 rw [c1] at g1
 clear hobj h
 go_enter Tryz.func148, Tryz.ntmps148
 go_wp2_with fail
 go_quiet (fail)
 go_wp2_with fail
 go_ret2
 exact ⟨rfl, ((Only.refl _ _).alloc _).drewN _⟩

set_option maxHeartbeats 1600000 in
set_option maxRecDepth 100000 in
theorem bits_huge (w : World) (base b : Nat) (ds : List Nat) (dp : Int) (h : DecAt w base b ds dp) (hp : 0 < ds.length) (hl : ds.length ≤ 1000000) (h1 : 310 < dp) (h2 : dp ≤ 1000000) :
  Calls Tryz.prog 148 #[.pointer (some ⟨b, 0, none⟩), form64] w fun e w' => e = .returned (.tuple #[.int .u64 9218868437227405312, .bool true]) ∧ Only b w w' := by
 have hlt := h.lt
 have hne : ((ds.length : Int) == 0) = false := decide_eq_false (by omega)
 have hlo : ¬ dp < -330 := by omega
 obtain ⟨v, hobj, hdig⟩ := h.obj
 rcases hdig with ⟨rfl, rfl⟩ | ⟨g, cap, rfl, _⟩
 ·simp at hp
 obtain ⟨c0, c1, f0, f1⟩ := obj_cells hobj
 have g0 : (w.alloc (.cells #[.int .i64 52, .int .i64 11, .int .i64 (-1023)] 227)).cell? ⟨b, 0, none⟩ = w.cell? ⟨b, 0, none⟩ := World.cell?_alloc_past _ _ _ hlt
 rw [c0] at g0
 have g1 : (w.alloc (.cells #[.int .i64 52, .int .i64 11, .int .i64 (-1023)] 227)).cell? ⟨b, 1, none⟩ = w.cell? ⟨b, 1, none⟩ := World.cell?_alloc_past _ _ _ hlt
 rw [c1] at g1
 clear hobj h
 go_enter Tryz.func148, Tryz.ntmps148
 go_wp2_with fail
 go_quiet (fail)
 go_wp2_with fail
 go_ret2
 exact ⟨rfl, ((Only.refl _ _).alloc _).drewN _⟩

end Go.Proofs.YtgolhmiocjpohaaGreatDoor
