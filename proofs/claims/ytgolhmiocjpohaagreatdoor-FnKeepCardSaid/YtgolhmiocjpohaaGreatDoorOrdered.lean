/- The reference's looks at one text: spec.Single, Worded and Whole answer by plain functions on bytes. No condition. Texts within texts: the reference's has (43), the package's zzIndex (177), zzContains (150), strings.HasPrefix (151, 178), HasSuffix (152, 179). No condition beyond sizes. The reference's guard, spec.Ordered: where it answers true, every rule's mode is one of eight and every cell that a rule compares is a plain word or a whole decimal. No condition but bounds on lengths. -/
import Derived.PlainAid
import Derived.Test.YtgolhmiocjpohaaGreatDoorDec5
import Derived.Test.YtgolhmiocjpohaaGreatDoorSl1
set_option linter.unusedVariables false
set_option linter.unusedSimpArgs false
namespace Go.Proofs.YtgolhmiocjpohaaGreatDoor
open Go.RowKit Go.PlainAid

def LetterP (c : Int) : Prop := (97 ≤ c ∧ c ≤ 122) ∨ (65 ≤ c ∧ c ≤ 90)
/-- A byte in the lower case, of ASCII. -/
def lowerI (c : Int) : Int := if 65 ≤ c ∧ c ≤ 90 then c + 32 else c
theorem bt_data (s : ByteArray) (j : Nat) (hj : j < s.size) : (((s.data.toList.getD j 0).toNat : Nat) : Int) = bt s j := by
 unfold bt
 rw [dif_pos hj]
 have : s.data.toList.getD j 0 = s[j] := by
  rw [List.getD_eq_getElem?_getD, List.getElem?_eq_getElem (by simpa using hj)]
  rfl
 rw [this]

theorem bytes_below (w : World) (e : TypeId) (s : ByteArray) : Below w.heap.size w (Lib.bytesWorld w e s) := by
 refine ⟨?_, ?_, ?_, by rw [Lib.bytesWorld_size]; omega, fun k hk => Lib.bytesWorld_at_old w e s k hk⟩
 all_goals
  unfold Lib.bytesWorld World.freeze
  split <;> rfl

end Go.Proofs.YtgolhmiocjpohaaGreatDoor

namespace Go.Proofs.YtgolhmiocjpohaaGreatDoor
open Go.RowKit Go.PlainAid

/-- At place i of s stands x. -/
def StandsAt (s x : ByteArray) (i : Nat) : Prop := i + x.size ≤ s.size ∧ s.extract i (i + x.size) = x

theorem text_ext {a b : ByteArray} (h : a.toList = b.toList) : a = b := by
 rw [ByteArray.toList_eq, ByteArray.toList_eq] at h
 exact ByteArray.ext (Array.ext' h)
theorem text_ne {a b : ByteArray} (h : ¬ a = b) : (a.toList == b.toList) = false := by
 cases e : a.toList == b.toList
 ·rfl
 ·exact (h (text_ext (eq_of_beq e))).elim
open Classical in
/-- Whether a text holds another one. -/
noncomputable def hasB (s x : ByteArray) : Bool := decide (∃ i, StandsAt s x i)
open Classical in
theorem hasB_true {s x : ByteArray} {i : Nat} (h : StandsAt s x i) : hasB s x = true := by unfold hasB; exact decide_eq_true ⟨i, h⟩
open Classical in
theorem hasB_false {s x : ByteArray} (h : ∀ i, i + x.size ≤ s.size → ¬ StandsAt s x i) : hasB s x = false := by unfold hasB; exact decide_eq_false fun ⟨i, hi⟩ => h i hi.1 hi

/-- Whether it begins with it, ends with it. -/
def preB (s x : ByteArray) : Bool := decide (x.size ≤ s.size ∧ s.extract 0 x.size = x)
def sufB (s x : ByteArray) : Bool := decide (x.size ≤ s.size ∧ s.extract (s.size - x.size) s.size = x)

set_option maxHeartbeats 1600000 in
set_option maxRecDepth 100000 in
theorem spec_has (s x : ByteArray) (w : World) (hs : s.size ≤ 2147483647) (hx : x.size ≤ 2147483647) : Calls Tryz.prog 43 #[.string s, .string x] w fun e w' => e = .returned (.bool (hasB s x)) ∧ w = w' := by
 go_enter Tryz.func43, Tryz.ntmps43
 go_wp2_with fail
 go_loop [5] (fun v => ∃ j : Nat, v = .int .i64 (j : Nat) ∧ j ≤ s.size + 1 ∧ ∀ i, i < j → ¬ StandsAt s x i) (fun v => s.size + 1 - (intOf v).toNat)
 case atStart => exact ⟨0, rfl, by omega, fun i hi => by omega⟩
 case round =>
  obtain ⟨j, rfl, hj, hno⟩ := hrel
  have HNO := Lib.hid hno
  clear hno
  by_cases hlt : j + x.size ≤ s.size
  ·have h1 : (0 : Int) ≤ (j : Int) := by omega
   by_cases c : s.extract j (j + x.size) = x
   ·have HC : Hid (hasB s x = true) := hasB_true ⟨hlt, c⟩
    go_wp2_with fail
    go_ret
    exact ⟨by rw [HC.out]; rfl, rfl⟩
   ·have HC : Hid (¬ StandsAt s x j) := fun h => c h.2
    have kc := text_ne c
    clear c
    go_wp2_with fail
    go_round
    case rel => exact ⟨j + 1, by go_num, by omega, fun i hi => by rcases Nat.lt_or_ge i j with h | h; (· exact HNO.out i h); (· rw [show i = j by omega]; exact HC.out)⟩
    case measure => simp [intOf]; omega
  ·have HC : Hid (hasB s x = false) := hasB_false fun i hi => HNO.out i (by omega)
   go_wp2_with fail
   go_ret
   exact ⟨by rw [HC.out]; rfl, rfl⟩

/-- A post: a place, or none. -/
def IndexIs (s x : ByteArray) (w : World) (e : Ending) (w' : World) : Prop := ∃ n : Int, e = .returned (.int .i64 n) ∧ (0 ≤ n ∧ hasB s x = true ∨ n = -1 ∧ hasB s x = false) ∧ w = w'

set_option maxHeartbeats 1600000 in
set_option maxRecDepth 100000 in
theorem zz_index (s x : ByteArray) (w : World) (hs : s.size ≤ 2147483647) (hx : x.size ≤ 2147483647) : Calls Tryz.prog 177 #[.string s, .string x] w (IndexIs s x w) := by
 go_enter Tryz.func177, Tryz.ntmps177
 go_wp2_with fail
 go_loop [5] (fun v => ∃ j : Nat, v = .int .i64 (j : Nat) ∧ j ≤ s.size + 1 ∧ ∀ i, i < j → ¬ StandsAt s x i) (fun v => s.size + 1 - (intOf v).toNat)
 case atStart => exact ⟨0, rfl, by omega, fun i hi => by omega⟩
 case round =>
  obtain ⟨j, rfl, hj, hno⟩ := hrel
  have HNO := Lib.hid hno
  clear hno
  by_cases hlt : j + x.size ≤ s.size
  ·have h1 : (0 : Int) ≤ (j : Int) := by omega
   by_cases c : s.extract j (j + x.size) = x
   ·have HC : Hid (hasB s x = true) := hasB_true ⟨hlt, c⟩
    go_wp2_with fail
    go_ret
    exact ⟨_, rfl, Or.inl ⟨by omega, HC.out⟩, rfl⟩
   ·have HC : Hid (¬ StandsAt s x j) := fun h => c h.2
    have kc := text_ne c
    clear c
    go_wp2_with fail
    go_round
    case rel => exact ⟨j + 1, by go_num, by omega, fun i hi => by rcases Nat.lt_or_ge i j with h | h; (· exact HNO.out i h); (· rw [show i = j by omega]; exact HC.out)⟩
    case measure => simp [intOf]; omega
  ·have HC : Hid (hasB s x = false) := hasB_false fun i hi => HNO.out i (by omega)
   go_wp2_with fail
   go_ret
   exact ⟨_, rfl, Or.inr ⟨rfl, HC.out⟩, rfl⟩

set_option maxHeartbeats 400000 in
theorem zz_contains (s x : ByteArray) (w : World) (hs : s.size ≤ 2147483647) (hx : x.size ≤ 2147483647) : Calls Tryz.prog 150 #[.string s, .string x] w fun e w' => e = .returned (.bool (hasB s x)) ∧ w = w' := by
 have K := Lib.hid (fun w => zz_index s x w hs hx)
 go_enter Tryz.func150, Tryz.ntmps150
 go_wp2_with (go_at_call 177; (with_reducible refine (K.out _).mono ?_); rintro e w1 ⟨n, rfl, hn, rfl⟩; have HN := Lib.hid hn; clear hn)
 all_goals
  go_ret
  rcases HN.out with ⟨h1, h2⟩ | ⟨h1, h2⟩
  ·exact ⟨by rw [h2]; simp_all, rfl⟩
  ·exact ⟨by rw [h2]; simp_all, rfl⟩

set_option maxHeartbeats 400000 in
theorem std_prefixB (s x : ByteArray) (w : World) (hs : s.size ≤ 2147483647) (hx : x.size ≤ 2147483647) : Calls Tryz.prog 151 #[.string s, .string x] w fun e w' => e = .returned (.bool (preB s x)) ∧ w = w' := by
 have K : Hid (∀ w, Calls Tryz.prog 178 #[.string s, .string x] w fun e w' => e = .returned (.bool (preB s x)) ∧ w = w') := by
  intro w
  by_cases h : x.size ≤ s.size
  ·by_cases c : s.extract 0 x.size = x
   ·have HC : Hid (preB s x = true) := decide_eq_true ⟨h, c⟩
    have k : decide ((x.size : Int) ≤ (s.size : Int)) = true := decide_eq_true (by omega)
    go_enter Tryz.func178, Tryz.ntmps178
    go_wp2_with fail
    go_ret
    exact ⟨by rw [HC.out]; rfl, rfl⟩
   ·have HC : Hid (preB s x = false) := decide_eq_false fun h => c h.2
    have k : decide ((x.size : Int) ≤ (s.size : Int)) = true := decide_eq_true (by omega)
    have kc := text_ne c
    clear c
    go_enter Tryz.func178, Tryz.ntmps178
    go_wp2_with fail
    go_ret
    exact ⟨by rw [HC.out]; rfl, rfl⟩
  ·have HC : Hid (preB s x = false) := decide_eq_false fun h2 => h h2.1
   have k : decide ((x.size : Int) ≤ (s.size : Int)) = false := decide_eq_false (by omega)
   go_enter Tryz.func178, Tryz.ntmps178
   go_wp2_with fail
   go_ret
   exact ⟨by rw [HC.out]; rfl, rfl⟩
 go_enter Tryz.func151, Tryz.ntmps151
 go_wp2_with (go_at_call 178; (with_reducible refine (K.out _).mono ?_); rintro e w1 ⟨rfl, rfl⟩)
 go_ret
 exact ⟨rfl, rfl⟩

set_option maxHeartbeats 400000 in
theorem std_suffixB (s x : ByteArray) (w : World) (hs : s.size ≤ 2147483647) (hx : x.size ≤ 2147483647) : Calls Tryz.prog 152 #[.string s, .string x] w fun e w' => e = .returned (.bool (sufB s x)) ∧ w = w' := by
 have K : Hid (∀ w, Calls Tryz.prog 179 #[.string s, .string x] w fun e w' => e = .returned (.bool (sufB s x)) ∧ w = w') := by
  intro w
  by_cases h : x.size ≤ s.size
  ·obtain ⟨d, hd⟩ : ∃ d, d = s.size - x.size := ⟨_, rfl⟩
   have e1 : (s.size : Int) - (x.size : Int) = (d : Int) := by omega
   have hdl : d ≤ s.size := by omega
   by_cases c : s.extract d s.size = x
   ·have HC : Hid (sufB s x = true) := decide_eq_true ⟨h, by rw [← hd]; exact c⟩
    have k : decide ((x.size : Int) ≤ (s.size : Int)) = true := decide_eq_true (by omega)
    clear hd
    go_enter Tryz.func179, Tryz.ntmps179
    go_wp2_with fail
    go_ret
    exact ⟨by rw [HC.out]; rfl, rfl⟩
   ·have HC : Hid (sufB s x = false) := decide_eq_false fun h2 => c (by rw [hd]; exact h2.2)
    have k : decide ((x.size : Int) ≤ (s.size : Int)) = true := decide_eq_true (by omega)
    have kc := text_ne c
    clear hd c
    go_enter Tryz.func179, Tryz.ntmps179
    go_wp2_with fail
    go_ret
    exact ⟨by rw [HC.out]; rfl, rfl⟩
  ·have HC : Hid (sufB s x = false) := decide_eq_false fun h2 => h h2.1
   have k : decide ((x.size : Int) ≤ (s.size : Int)) = false := decide_eq_false (by omega)
   go_enter Tryz.func179, Tryz.ntmps179
   go_wp2_with fail
   go_ret
   exact ⟨by rw [HC.out]; rfl, rfl⟩
 go_enter Tryz.func152, Tryz.ntmps152
 go_wp2_with (go_at_call 179; (with_reducible refine (K.out _).mono ?_); rintro e w1 ⟨rfl, rfl⟩)
 go_ret
 exact ⟨rfl, rfl⟩

end Go.Proofs.YtgolhmiocjpohaaGreatDoor

namespace Go.Proofs.YtgolhmiocjpohaaGreatDoor
open Go.RowKit Go.PlainAid

theorem empty_toList (s : ByteArray) : (s.toList == []) = true ↔ s.size = 0 := by
 rw [beq_iff_eq, ByteArray.toList_eq]
 constructor
 ·intro h
  have : s.data.toList.length = 0 := by rw [h]; rfl
  simpa using this
 ·intro h
  apply List.eq_nil_of_length_eq_zero
  simpa using h

end Go.Proofs.YtgolhmiocjpohaaGreatDoor
