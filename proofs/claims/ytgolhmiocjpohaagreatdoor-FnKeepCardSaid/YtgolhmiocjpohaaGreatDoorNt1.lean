/- What a cell says (26, 66), and the package's comparisons of a filter (120, 121, 126, 127, 128, 88), over what strings.ToLower, strings.EqualFold and Go's ParseFloat answer. No condition beyond sizes. Go's atof64 (131), way by way, over the contracts of what it calls. No condition beyond those. Go's atof64 (131) where digits were cut: both neighbours alike, or the slow decimal; over the contracts of what it calls. No condition beyond those. Go's atof64 (131): the nearest float of a text of at most 400 octets. No condition beyond that, and what the walks read of variables. A whole number's text tells the float that it is. Plain. No condition beyond the number's kind. -/
import Derived.Test.YtgolhmiocjpohaaGreatDoorOrdered
import Derived.Test.YtgolhmiocjpohaaGreatDoorTx2
import Derived.Test.YtgolhmiocjpohaaGreatDoorLPf1
import Derived.Test.YtgolhmiocjpohaaGreatDoorLRd0
import Derived.Test.YtgolhmiocjpohaaGreatDoorFl3
import Derived.Test.YtgolhmiocjpohaaGreatDoorNv2
import Derived.Test.YtgolhmiocjpohaaGreatDoorND1
import Derived.Test.YtgolhmiocjpohaaGreatDoorLRd1
set_option linter.unusedVariables false
set_option linter.unusedSimpArgs false
namespace Go.Proofs.YtgolhmiocjpohaaGreatDoor
open Go.RowKit Go.PlainAid

/-- A cell: its kind, its text, its number. -/
structure CellD where
 kind : Int
 text : ByteArray
 n : Int
/-- A filter. -/
structure FiltD where
 number : Int
 op : Int
 value : CellD
 fold : Bool

/-- What a cell says. -/
def saidOf (c : CellD) : ByteArray := if c.kind = 1 then intText c.n else c.text
/-- A cell as the package has it. -/
def valI (c : CellD) : Value := if c.kind = 1 then .iface 3 (.int .i64 c.n) else .iface 9 (.string c.text)
def cellV (c : CellD) : Value := .agg #[.int .i64 c.kind, .string c.text, .int .i64 c.n]

/-- What is asked of a cell. -/
structure CellOkD (c : CellD) : Prop where
 kind : c.kind = 0 ∨ c.kind = 1
 text : c.text.size ≤ 400
 lo : -9223372036854775808 ≤ c.n
 hi : c.n ≤ 9223372036854775807

theorem CellOkD.said {c : CellD} (h : CellOkD c) : (saidOf c).size ≤ 400 := by
 unfold saidOf
 split
 ·have := intText_size h.lo h.hi; omega
 ·exact h.text

/-- What a type assertion makes of a text, or of a number, in an interface. -/
theorem ta99 (v : Value) (w : World) : (Instr.typeAssert (.iface 9 v) 20 9 true).run Tryz.prog w = .ok (.tuple #[v, .bool true]) w := by kernel_rfl
theorem ta33 (v : Value) (w : World) : (Instr.typeAssert (.iface 3 v) 20 3 true).run Tryz.prog w = .ok (.tuple #[v, .bool true]) w := by kernel_rfl
theorem ta39 (v : Value) (w : World) : (Instr.typeAssert (.iface 3 v) 20 9 true).run Tryz.prog w = .ok (.tuple #[.string ⟨#[]⟩, .bool false]) w := by kernel_rfl
theorem ta93 (v : Value) (w : World) : (Instr.typeAssert (.iface 9 v) 20 3 true).run Tryz.prog w = .ok (.tuple #[.int .i64 0, .bool false]) w := by kernel_rfl
theorem ta92 (v : Value) (w : World) : (Instr.typeAssert (.iface 9 v) 20 2 true).run Tryz.prog w = .ok (.tuple #[.int .i64 0, .bool false]) w := by kernel_rfl
theorem ta9f (v : Value) (w : World) : (Instr.typeAssert (.iface 9 v) 20 105 true).run Tryz.prog w = .ok (.tuple #[.float .f64 0, .bool false]) w := by kernel_rfl
theorem ta9g (v : Value) (w : World) : (Instr.typeAssert (.iface 9 v) 20 211 true).run Tryz.prog w = .ok (.tuple #[.float .f32 0, .bool false]) w := by kernel_rfl

set_option maxHeartbeats 400000 in
set_option maxRecDepth 100000 in
theorem zz_text (c : CellD) (w : World) (h : CellOkD c) : Calls Tryz.prog 66 #[valI c] w (TextOut (saidOf c) w) := by
 unfold valI saidOf
 by_cases hk : c.kind = 1
 ·rw [if_pos hk, if_pos hk]
  have K := Lib.hid (fun w => light_itoa c.n w h.lo h.hi)
  have a1 := ta39 (.int .i64 c.n)
  have a2 := ta33 (.int .i64 c.n)
  clear h hk
  go_enter Tryz.func66, Tryz.ntmps66
  go_wp2_with (go_at_call 87; (with_reducible refine (K.out _).mono ?_); rintro e w1 ⟨rfl, hb⟩; have HB := Lib.hid hb; clear hb)
  go_ret
  exact ⟨rfl, HB.out⟩
 ·rw [if_neg hk, if_neg hk]
  have a1 := ta99 (.string c.text)
  clear h hk
  go_enter Tryz.func66, Tryz.ntmps66
  go_wp2_with fail
  go_ret
  exact ⟨rfl, Below.refl _ _⟩

set_option maxHeartbeats 400000 in
set_option maxRecDepth 100000 in
theorem spec_said (c : CellD) (w : World) (h : CellOkD c) : Calls Tryz.prog 26 #[cellV c] w (TextOut (saidOf c) w) := by
 unfold saidOf cellV
 by_cases hk : c.kind = 1
 ·rw [if_pos hk]
  have K := Lib.hid (fun w => spec_decimal c.n w h.lo h.hi)
  have k1 : (c.kind == 1) = true := beq_iff_eq.2 hk
  clear h hk
  go_enter Tryz.func26, Tryz.ntmps26
  go_wp2_with (go_at_call 44; (with_reducible refine (K.out _).mono ?_); rintro e w1 ⟨rfl, hb⟩; have HB := Lib.hid hb; clear hb)
  go_ret
  exact ⟨rfl, ((Below.refl _ _).alloc (Nat.le_refl _) _).trans (HB.out.mono (by simp))⟩
 ·rw [if_neg hk]
  have k1 : (c.kind == 1) = false := beq_eq_false_iff_ne.2 hk
  clear h hk
  go_enter Tryz.func26, Tryz.ntmps26
  go_wp2_with fail
  go_ret
  exact ⟨rfl, (Below.refl _ _).alloc (Nat.le_refl _) _⟩

/-- The answers that the comparisons rest on. -/
structure LibC (B : Nat) (EC : World → Prop) (low : ByteArray → ByteArray) (eqf : ByteArray → ByteArray → Bool) : Prop where
 stable : ∀ {w w'}, EC w → Below B w w' → EC w'
 base : ∀ {w}, EC w → B ≤ w.heap.size
 lowC : ∀ s w, s.size ≤ 400 → EC w → Calls Tryz.prog 40 #[.string s] w (TextOut (low s) w)
 lowSize : ∀ s, s.size ≤ 400 → (low s).size ≤ 2147483647
 eqfC : ∀ s t w, s.size ≤ 400 → t.size ≤ 400 → EC w → Calls Tryz.prog 42 #[.string s, .string t] w fun e w' => e = .returned (.bool (eqf s t)) ∧ Below w.heap.size w w'
 stdC : ∀ s w, s.size ≤ 400 → EC w → Calls Tryz.prog 59 #[.string s, .int .i64 64] w (NumIs (fltOf s) w)

theorem LibC.after {B : Nat} {EC : World → Prop} {low : ByteArray → ByteArray} {eqf : ByteArray → ByteArray → Bool} (L : LibC B EC low eqf) {w w' : World} (h : EC w) (hb : Below w.heap.size w w') : EC w' := L.stable h (hb.mono (L.base h))

def sameB (eqf : ByteArray → ByteArray → Bool) (a v : ByteArray) (fold : Bool) : Bool := if fold then eqf a v else sEq a v
def folded (low : ByteArray → ByteArray) (a : ByteArray) (fold : Bool) : ByteArray := if fold then low a else a

/-- A post: a bool, old memory as it was. -/
def BoolOut (b : Bool) (w : World) (e : Ending) (w' : World) : Prop := e = .returned (.bool b) ∧ Below w.heap.size w w'

section
variable {B : Nat} {EC : World → Prop} {low : ByteArray → ByteArray} {eqf : ByteArray → ByteArray → Bool}

set_option maxHeartbeats 800000 in
theorem cmp_equal (L : LibC B EC low eqf) (tv : Value) (a : ByteArray) (c : CellD) (fold : Bool) (w : World) (ha : a.size ≤ 400) (hc : CellOkD c) (hE : EC w) :
  Calls Tryz.prog 120 #[tv, .string a, valI c, .bool fold] w (BoolOut (sameB eqf a (saidOf c) fold) w) := by
 have K1 := Lib.hid (zz_text c w hc)
 have K2 := Lib.hid (fun w1 (hb : Below w.heap.size w w1) => L.eqfC a (saidOf c) w1 ha hc.said (L.after hE hb))
 unfold sameB
 generalize saidOf c = v at *
 cases fold with
 | true =>
  clear hE hc L
  go_enter Tryz.func120, Tryz.ntmps120
  go_wp2_with (first
   | (go_at_call 66; (with_reducible refine K1.out.mono ?_); rintro e w1 ⟨rfl, hb⟩; have HB := Lib.hid hb; clear hb)
   | (go_at_call 42; (with_reducible refine (K2.out _ HB.out).mono ?_); rintro e w2 ⟨rfl, hb⟩; have HB2 := Lib.hid hb; clear hb))
  go_ret
  exact ⟨rfl, HB.out.trans (HB2.out.mono HB.out.size)⟩
 | false =>
  clear hE hc L
  cases hq : sEq a v
  all_goals
   have hq2 := hq
   unfold sEq at hq2
   have HQ := Lib.hid hq
   clear hq
   go_enter Tryz.func120, Tryz.ntmps120
   go_wp2_with (go_at_call 66; (with_reducible refine K1.out.mono ?_); rintro e w1 ⟨rfl, hb⟩; have HB := Lib.hid hb; clear hb)
   go_ret
   exact ⟨by first | rfl | (rw [HQ.out]; rfl), HB.out⟩

set_option maxHeartbeats 800000 in
theorem cmp_contains (L : LibC B EC low eqf) (tv : Value) (a : ByteArray) (c : CellD) (fold : Bool) (w : World) (ha : a.size ≤ 400) (hc : CellOkD c) (hE : EC w) :
  Calls Tryz.prog 126 #[tv, .string a, valI c, .bool fold] w (BoolOut (hasB (folded low a fold) (folded low (saidOf c) fold)) w) := by
 have K1 := Lib.hid (zz_text c w hc)
 have K2 := Lib.hid (fun w1 (hb : Below w.heap.size w w1) => L.lowC a w1 ha (L.after hE hb))
 have K3 := Lib.hid (fun w1 (hb : Below w.heap.size w w1) => L.lowC (saidOf c) w1 hc.said (L.after hE hb))
 have K4 := Lib.hid (fun w => zz_contains (low a) (low (saidOf c)) w (L.lowSize a ha) (L.lowSize _ hc.said))
 have K5 := Lib.hid (fun w => zz_contains a (saidOf c) w (by omega) (by have := hc.said; omega))
 unfold folded
 generalize saidOf c = v at *
 cases fold with
 | true =>
  clear hE hc L
  go_enter Tryz.func126, Tryz.ntmps126
  go_wp2_with (first
   | (go_at_call 66; (with_reducible refine K1.out.mono ?_); rintro e w1 ⟨rfl, hb⟩; have HB := Lib.hid hb; clear hb)
   | (go_at_call 40; (with_reducible refine (K2.out _ HB.out).mono ?_); rintro e w2 ⟨rfl, hb⟩; have HB2 := Lib.hid (HB.out.trans (hb.mono HB.out.size)); clear hb)
   | (go_at_call 40; (with_reducible refine (K3.out _ HB2.out).mono ?_); rintro e w3 ⟨rfl, hb⟩; have HB3 := Lib.hid (HB2.out.trans (hb.mono HB2.out.size)); clear hb)
   | (go_at_call 150; (with_reducible refine (K4.out _).mono ?_); rintro e w4 ⟨rfl, rfl⟩))
  go_ret
  exact ⟨rfl, HB3.out⟩
 | false =>
  clear hE hc L
  go_enter Tryz.func126, Tryz.ntmps126
  go_wp2_with (first
   | (go_at_call 66; (with_reducible refine K1.out.mono ?_); rintro e w1 ⟨rfl, hb⟩; have HB := Lib.hid hb; clear hb)
   | (go_at_call 150; (with_reducible refine (K5.out _).mono ?_); rintro e w4 ⟨rfl, rfl⟩))
  go_ret
  exact ⟨rfl, HB.out⟩

set_option maxHeartbeats 800000 in
theorem cmp_starts (L : LibC B EC low eqf) (tv : Value) (a : ByteArray) (c : CellD) (fold : Bool) (w : World) (ha : a.size ≤ 400) (hc : CellOkD c) (hE : EC w) :
  Calls Tryz.prog 127 #[tv, .string a, valI c, .bool fold] w (BoolOut (preB (folded low a fold) (folded low (saidOf c) fold)) w) := by
 have K1 := Lib.hid (zz_text c w hc)
 have K2 := Lib.hid (fun w1 (hb : Below w.heap.size w w1) => L.lowC a w1 ha (L.after hE hb))
 have K3 := Lib.hid (fun w1 (hb : Below w.heap.size w w1) => L.lowC (saidOf c) w1 hc.said (L.after hE hb))
 have K4 := Lib.hid (fun w => std_prefixB (low a) (low (saidOf c)) w (L.lowSize a ha) (L.lowSize _ hc.said))
 have K5 := Lib.hid (fun w => std_prefixB a (saidOf c) w (by omega) (by have := hc.said; omega))
 unfold folded
 generalize saidOf c = v at *
 cases fold with
 | true =>
  clear hE hc L
  go_enter Tryz.func127, Tryz.ntmps127
  go_wp2_with (first
   | (go_at_call 66; (with_reducible refine K1.out.mono ?_); rintro e w1 ⟨rfl, hb⟩; have HB := Lib.hid hb; clear hb)
   | (go_at_call 40; (with_reducible refine (K2.out _ HB.out).mono ?_); rintro e w2 ⟨rfl, hb⟩; have HB2 := Lib.hid (HB.out.trans (hb.mono HB.out.size)); clear hb)
   | (go_at_call 40; (with_reducible refine (K3.out _ HB2.out).mono ?_); rintro e w3 ⟨rfl, hb⟩; have HB3 := Lib.hid (HB2.out.trans (hb.mono HB2.out.size)); clear hb)
   | (go_at_call 151; (with_reducible refine (K4.out _).mono ?_); rintro e w4 ⟨rfl, rfl⟩))
  go_ret
  exact ⟨rfl, HB3.out⟩
 | false =>
  clear hE hc L
  go_enter Tryz.func127, Tryz.ntmps127
  go_wp2_with (first
   | (go_at_call 66; (with_reducible refine K1.out.mono ?_); rintro e w1 ⟨rfl, hb⟩; have HB := Lib.hid hb; clear hb)
   | (go_at_call 151; (with_reducible refine (K5.out _).mono ?_); rintro e w4 ⟨rfl, rfl⟩))
  go_ret
  exact ⟨rfl, HB.out⟩

set_option maxHeartbeats 800000 in
theorem cmp_ends (L : LibC B EC low eqf) (tv : Value) (a : ByteArray) (c : CellD) (fold : Bool) (w : World) (ha : a.size ≤ 400) (hc : CellOkD c) (hE : EC w) :
  Calls Tryz.prog 128 #[tv, .string a, valI c, .bool fold] w (BoolOut (sufB (folded low a fold) (folded low (saidOf c) fold)) w) := by
 have K1 := Lib.hid (zz_text c w hc)
 have K2 := Lib.hid (fun w1 (hb : Below w.heap.size w w1) => L.lowC a w1 ha (L.after hE hb))
 have K3 := Lib.hid (fun w1 (hb : Below w.heap.size w w1) => L.lowC (saidOf c) w1 hc.said (L.after hE hb))
 have K4 := Lib.hid (fun w => std_suffixB (low a) (low (saidOf c)) w (L.lowSize a ha) (L.lowSize _ hc.said))
 have K5 := Lib.hid (fun w => std_suffixB a (saidOf c) w (by omega) (by have := hc.said; omega))
 unfold folded
 generalize saidOf c = v at *
 cases fold with
 | true =>
  clear hE hc L
  go_enter Tryz.func128, Tryz.ntmps128
  go_wp2_with (first
   | (go_at_call 66; (with_reducible refine K1.out.mono ?_); rintro e w1 ⟨rfl, hb⟩; have HB := Lib.hid hb; clear hb)
   | (go_at_call 40; (with_reducible refine (K2.out _ HB.out).mono ?_); rintro e w2 ⟨rfl, hb⟩; have HB2 := Lib.hid (HB.out.trans (hb.mono HB.out.size)); clear hb)
   | (go_at_call 40; (with_reducible refine (K3.out _ HB2.out).mono ?_); rintro e w3 ⟨rfl, hb⟩; have HB3 := Lib.hid (HB2.out.trans (hb.mono HB2.out.size)); clear hb)
   | (go_at_call 152; (with_reducible refine (K4.out _).mono ?_); rintro e w4 ⟨rfl, rfl⟩))
  go_ret
  exact ⟨rfl, HB3.out⟩
 | false =>
  clear hE hc L
  go_enter Tryz.func128, Tryz.ntmps128
  go_wp2_with (first
   | (go_at_call 66; (with_reducible refine K1.out.mono ?_); rintro e w1 ⟨rfl, hb⟩; have HB := Lib.hid hb; clear hb)
   | (go_at_call 152; (with_reducible refine (K5.out _).mono ?_); rintro e w4 ⟨rfl, rfl⟩))
  go_ret
  exact ⟨rfl, HB.out⟩

end

end Go.Proofs.YtgolhmiocjpohaaGreatDoor

namespace Go.Proofs.YtgolhmiocjpohaaGreatDoor
open Go.RowKit Go.PlainAid

/-- A post: so it ends, nothing of what was there has turned. -/
def Ends (v : Value) (w : World) (e : Ending) (w' : World) : Prop := e = .returned v ∧ Below w.heap.size w w'

/-- No name of a float is met. -/
def NoSpecial (s : ByteArray) : Prop := ∀ w, Calls Tryz.prog 153 #[.string s] w fun e w' => (∃ x n : Nat, e = .returned (.tuple #[.float .f64 x, .int .i64 n, .bool false])) ∧ w = w'
/-- A number is read. -/
def Reads (s : ByteArray) (d : Nat) (p : Int) (neg trunc hex : Bool) (n : Nat) : Prop :=
 ∀ w, Calls Tryz.prog 154 #[.string s] w fun e w' => e = .returned (.tuple #[.int .u64 d, .int .i64 p, .bool neg, .bool trunc, .bool hex, .int .i64 n, .bool true]) ∧ w = w'

set_option maxHeartbeats 1600000 in
set_option maxRecDepth 100000 in
theorem at_named (s : ByteArray) (w : World) (K : ∀ w, Calls Tryz.prog 153 #[.string s] w (Named s w)) : Calls Tryz.prog 131 #[.string s] w (AtofIs s w) := by
 have K1 := Lib.hid K
 clear K
 go_enter Tryz.func131, Tryz.ntmps131
 go_wp2_with (go_at_call 153; (with_reducible refine (K1.out _).mono ?_); rintro e w1 ⟨x, n, rfl, hn, rfl⟩; have HN := Lib.hid hn; clear hn)
 go_ret3
 refine ⟨x, (n : Nat), .nilIface, rfl, ?_, Below.refl _ _⟩
 by_cases h : n = s.size
 ·exact Or.inl ⟨rfl, by omega, HN.out.1 h⟩
 ·exact Or.inr ⟨HN.out.2 h, Or.inl ⟨rfl, by omega⟩⟩

set_option maxHeartbeats 1600000 in
set_option maxRecDepth 100000 in
theorem at_refused (s : ByteArray) (w : World) (K1 : NoSpecial s) (K2 : ∀ w, Calls Tryz.prog 154 #[.string s] w (Refused w)) :
  Calls Tryz.prog 131 #[.string s] w fun e w' => (∃ n : Int, e = .returned (.tuple #[.float .f64 0, .int .i64 n, .iface 180 (.int .i64 2)])) ∧ w = w' := by
 have K1 := Lib.hid K1
 have K2 := Lib.hid K2
 rename_i a b
 clear a b
 unfold NoSpecial at K1
 go_enter Tryz.func131, Tryz.ntmps131
 go_wp2_with (first
  | (go_at_call 153; (with_reducible refine (K1.out _).mono ?_); rintro e w1 ⟨⟨x, n, rfl⟩, rfl⟩)
  | (go_at_call 154; (with_reducible refine (K2.out _).mono ?_); rintro e w1 ⟨m, x', n', a, b, c, rfl, rfl⟩))
 go_ret3
 exact ⟨⟨_, rfl⟩, rfl⟩

set_option maxHeartbeats 1600000 in
set_option maxRecDepth 100000 in
theorem at_hex (s : ByteArray) (w : World) (d n x : Nat) (p : Int) (neg trunc : Bool) (v : Value) (hn : n ≤ s.size) (hs : s.size ≤ 100000) (A : NoSpecial s) (B : Reads s d p neg trunc true n)
  (C : ∀ w' , w = w' → Calls Tryz.prog 155 #[.string (s.extract 0 n), .pointer (some ⟨10, 0, none⟩), .int .u64 (d : Int), .int .i64 p, .bool neg, .bool trunc] w' (Ends (.tuple #[.float .f64 x, v]) w')) :
  Calls Tryz.prog 131 #[.string s] w (Ends (.tuple #[.float .f64 x, .int .i64 n, v]) w) := by
 have K1 := Lib.hid A
 have K2 := Lib.hid B
 have K3 := Lib.hid (C _ rfl)
 clear A B C
 unfold NoSpecial at K1
 unfold Reads at K2
 unfold Ends at K3
 go_enter Tryz.func131, Tryz.ntmps131
 go_wp2_with (first
  | (go_at_call 153; (with_reducible refine (K1.out _).mono ?_); rintro e w1 ⟨⟨x1, n1, rfl⟩, rfl⟩)
  | (go_at_call 154; (with_reducible refine (K2.out _).mono ?_); rintro e w1 ⟨rfl, rfl⟩)
  | (go_at_call 155; (with_reducible refine K3.out.mono ?_); rintro e w1 ⟨rfl, hb⟩; have HB := Lib.hid hb; clear hb))
 go_ret3
 exact ⟨rfl, HB.out⟩

/-- The sign's bit. -/
theorem sgv_int : ((sgv true : Nat) : Int) = 9223372036854775808 ∧ ((sgv false : Nat) : Int) = 0 := ⟨rfl, rfl⟩

set_option maxHeartbeats 1600000 in
set_option maxRecDepth 100000 in
theorem at_zero (s : ByteArray) (w : World) (n : Nat) (p : Int) (neg trunc : Bool) (hop : w.cell? ⟨9, 0, none⟩ = some (.bool true)) (A : NoSpecial s) (B : Reads s 0 p neg trunc false n) :
  Calls Tryz.prog 131 #[.string s] w (Ends (.tuple #[.float .f64 (sgv neg), .int .i64 n, .nilIface]) w) := by
 have K1 := Lib.hid A
 have K2 := Lib.hid B
 clear A B
 unfold NoSpecial at K1
 unfold Reads at K2
 cases neg
 all_goals
  go_enter Tryz.func131, Tryz.ntmps131
  go_wp2_with (first
   | (go_at_call 153; (with_reducible refine (K1.out _).mono ?_); rintro e w1 ⟨⟨x1, n1, rfl⟩, rfl⟩)
   | (go_at_call 154; (with_reducible refine (K2.out _).mono ?_); rintro e w1 ⟨rfl, rfl⟩)
   | (go_at_call 162; (with_reducible refine (std_bool2 _ _).mono ?_); rintro e w2 ⟨rfl, rfl⟩))
  rw [call163, Oper.upon_value]
  go_wp2_with fail
  go_ret3
  exact ⟨rfl, Below.refl _ _⟩

set_option maxHeartbeats 1600000 in
set_option maxRecDepth 100000 in
theorem at_over (s : ByteArray) (w : World) (d n : Nat) (p : Int) (neg trunc : Bool) (hop : w.cell? ⟨9, 0, none⟩ = some (.bool true)) (hd : 0 < d) (hp : 310 < p) (A : NoSpecial s) (B : Reads s d p neg trunc false n) :
  Calls Tryz.prog 131 #[.string s] w (Ends (.tuple #[.float .f64 (sgv neg + 9218868437227405312), .int .i64 n, .iface 180 (.int .i64 1)]) w) := by
 have K1 := Lib.hid A
 have K2 := Lib.hid B
 clear A B
 unfold NoSpecial at K1
 unfold Reads at K2
 have dn : ((d : Int) == 0) = false := beq_eq_false_iff_ne.2 (by omega)
 have dp : decide (310 < p) = true := decide_eq_true hp
 clear hd hp
 cases neg
 all_goals
  go_enter Tryz.func131, Tryz.ntmps131
  go_wp2_with (first
   | (go_at_call 153; (with_reducible refine (K1.out _).mono ?_); rintro e w1 ⟨⟨x1, n1, rfl⟩, rfl⟩)
   | (go_at_call 154; (with_reducible refine (K2.out _).mono ?_); rintro e w1 ⟨rfl, rfl⟩)
   | (go_at_call 162; (with_reducible refine (std_bool2 _ _).mono ?_); rintro e w2 ⟨rfl, rfl⟩))
  rw [call163, Oper.upon_value]
  go_wp2_with fail
  go_ret3
  exact ⟨rfl, Below.refl _ _⟩

set_option maxHeartbeats 1600000 in
set_option maxRecDepth 100000 in
theorem at_under (s : ByteArray) (w : World) (d n : Nat) (p : Int) (neg trunc : Bool) (hop : w.cell? ⟨9, 0, none⟩ = some (.bool true)) (hd : 0 < d) (hp : p < -345) (A : NoSpecial s) (B : Reads s d p neg trunc false n) :
  Calls Tryz.prog 131 #[.string s] w (Ends (.tuple #[.float .f64 (sgv neg), .int .i64 n, .nilIface]) w) := by
 have K1 := Lib.hid A
 have K2 := Lib.hid B
 clear A B
 unfold NoSpecial at K1
 unfold Reads at K2
 have dn : ((d : Int) == 0) = false := beq_eq_false_iff_ne.2 (by omega)
 have dp : decide (310 < p) = false := decide_eq_false (by omega)
 have dq : decide (p < -345) = true := decide_eq_true hp
 clear hd hp
 cases neg
 all_goals
  go_enter Tryz.func131, Tryz.ntmps131
  go_wp2_with (first
   | (go_at_call 153; (with_reducible refine (K1.out _).mono ?_); rintro e w1 ⟨⟨x1, n1, rfl⟩, rfl⟩)
   | (go_at_call 154; (with_reducible refine (K2.out _).mono ?_); rintro e w1 ⟨rfl, rfl⟩)
   | (go_at_call 162; (with_reducible refine (std_bool2 _ _).mono ?_); rintro e w2 ⟨rfl, rfl⟩))
  rw [call163, Oper.upon_value]
  go_wp2_with fail
  go_ret3
  exact ⟨rfl, Below.refl _ _⟩

/-- The exact road, by what it hands back. -/
def ExactBy (d : Nat) (p : Int) (neg : Bool) (z : Nat) (v : Value) (w : World) : Prop :=
 Calls Tryz.prog 164 #[.int .u64 (d : Int), .int .i64 p, .bool neg] w fun e w' => (∃ x ok, e = .returned (.tuple #[.float .f64 x, .bool ok]) ∧ (ok = true → x = z ∧ v = .nilIface)) ∧ w = w'

set_option maxHeartbeats 3200000 in
set_option maxRecDepth 100000 in
theorem at_fast (s : ByteArray) (w : World) (d n z : Nat) (p : Int) (neg : Bool) (v : Value) (hop : w.cell? ⟨9, 0, none⟩ = some (.bool true)) (hd : 0 < d) (hp : -345 ≤ p) (hp2 : p ≤ 310) (A : NoSpecial s) (B : Reads s d p neg false false n)
  (C : ExactBy d p neg z v w) (D : Calls Tryz.prog 165 #[.int .u64 (d : Int), .int .i64 p, .int .u64 (sgv neg : Nat)] w (Ends (.tuple #[.float .f64 z, v]) w)) :
  Calls Tryz.prog 131 #[.string s] w (Ends (.tuple #[.float .f64 z, .int .i64 n, v]) w) := by
 have K1 := Lib.hid A
 have K2 := Lib.hid B
 have K3 := Lib.hid C
 have K4 := Lib.hid D
 clear A B C D
 unfold NoSpecial at K1
 unfold Reads at K2
 unfold ExactBy at K3
 unfold Ends at K4
 have dn : ((d : Int) == 0) = false := beq_eq_false_iff_ne.2 (by omega)
 have dp : decide (310 < p) = false := decide_eq_false (by omega)
 have dq : decide (p < -345) = false := decide_eq_false (by omega)
 clear hd hp hp2
 cases neg
 case' true => rw [sgv_int.1] at K4
 case' false => rw [sgv_int.2] at K4
 all_goals
  go_enter Tryz.func131, Tryz.ntmps131
  go_wp2_with (first
   | (go_at_call 153; (with_reducible refine (K1.out _).mono ?_); rintro e w1 ⟨⟨x1, n1, rfl⟩, rfl⟩)
   | (go_at_call 154; (with_reducible refine (K2.out _).mono ?_); rintro e w1 ⟨rfl, rfl⟩)
   | (go_at_call 162; (with_reducible refine (std_bool2 _ _).mono ?_); rintro e w2 ⟨rfl, rfl⟩)
   | (go_at_call 164; (with_reducible refine K3.out.mono ?_); rintro e w2 ⟨⟨x3, ok, rfl, hx⟩, rfl⟩; have HX := Lib.hid hx; clear hx)
   | (go_at_call 165; (with_reducible refine K4.out.mono ?_); rintro e w2 ⟨rfl, hb⟩; have HB := Lib.hid hb; clear hb))
  all_goals
   go_ret3
   first
    | exact ⟨rfl, HB.out⟩
    | (have hh := HX.out (by first | rfl | assumption); exact ⟨by rw [hh.1, hh.2]; rfl, Below.refl _ _⟩)

end Go.Proofs.YtgolhmiocjpohaaGreatDoor

namespace Go.Proofs.YtgolhmiocjpohaaGreatDoor
open Go.RowKit Go.PlainAid

/-- The cells of a new slow decimal. -/
def zrow : Array Value := (List.replicate 800 (Value.int .u8 0) ++ [Value.int .i64 0, Value.int .i64 0, Value.bool false, Value.bool false]).toArray

theorem alloc253 (w : World) : (Instr.alloc 253 true (.tuple #[])).run Tryz.prog w = .ok (.pointer (some ⟨w.heap.size, 0, none⟩)) (w.alloc (.cells zrow 253)) := by kernel_rfl

/-- An alloc of which it is known what it gives. -/
theorem wp_alloc {P : Program} {o : Oper} {a : Act} {w w' : World} {K : Act → World → Prop} {Q : Exit → Act → World → Prop} {t : TypeId} {v : Value} (hop : o.op = Op.alloc t)
  (hrun : (Instr.alloc t true (.tuple #[])).run P w = .ok v w') (h : K (a.put o.dst v) w') : Oper.wp P o a w K Q := by
 unfold Oper.wp
 simp [execOp, hop, hrun, Result.andThen]
 exact h

theorem wp_region_alloc {P : Program} {id : Nat} {o : Oper} {a : Act} {w w' : World} {Q : Exit → Act → World → Prop} {t : TypeId} {v : Value} (hg : o.guard = none) (hop : o.op = Op.alloc t)
  (hrun : (Instr.alloc t true (.tuple #[])).run P w = .ok v w') (h : Q .normal (a.put o.dst v) w') : (Code.region id #[o] false).wp P Q a w :=
 wp_region_list (wpList_plain hg fun K hK => wp_alloc hop hrun (hK _ _ (wpList_nil h)))

theorem zrow_size : zrow.size = 804 := by kernel_rfl

theorem zrow_dec (w : World) : RDec (w.alloc (.cells zrow 253)) w.heap.size (fun _ => 0) 0 0 false false := by
 refine ⟨fun _ => by omega, ?_⟩
 have := World.rowIs_alloc w zrow 253 (DRow (fun _ => 0) 0 0 false false) (fun i hi => ?_)
 ·rw [zrow_size] at this
  exact this
 ·rw [zrow_size] at hi
  unfold zrow DRow
  rw [List.getElem?_toArray]
  by_cases h : i < 800
  ·rw [List.getElem?_append_left (by rw [List.length_replicate]; exact h), List.getElem?_replicate, if_pos h, if_pos h]
   rfl
  ·rw [List.getElem?_append_right (by rw [List.length_replicate]; omega), List.length_replicate, if_neg h]
   have : i = 800 ∨ i = 801 ∨ i = 802 ∨ i = 803 := by omega
   rcases this with rfl | rfl | rfl | rfl <;> rfl

set_option maxHeartbeats 3200000 in
set_option maxRecDepth 100000 in
theorem at_both (s : ByteArray) (w : World) (d n z1 z2 : Nat) (p : Int) (neg : Bool) (v1 v2 : Value) (hop : w.cell? ⟨9, 0, none⟩ = some (.bool true)) (hd : 0 < d) (hd2 : d < 10 ^ 19) (hp : -345 ≤ p) (hp2 : p ≤ 310) (A : NoSpecial s) (B : Reads s d p neg true false n)
  (C : Calls Tryz.prog 165 #[.int .u64 (d : Int), .int .i64 p, .int .u64 (sgv neg : Nat)] w (Ends (.tuple #[.float .f64 z1, v1]) w))
  (D : ∀ w', Below w.heap.size w w' → Calls Tryz.prog 165 #[.int .u64 ((d : Int) + 1), .int .i64 p, .int .u64 (sgv neg : Nat)] w' (Ends (.tuple #[.float .f64 z2, v2]) w')) (hE : fEq z1 z2 = true) :
  Calls Tryz.prog 131 #[.string s] w (Ends (.tuple #[.float .f64 z1, .int .i64 n, v1]) w) := by
 have K1 := Lib.hid A
 have K2 := Lib.hid B
 have K4 := Lib.hid C
 have K5 := Lib.hid D
 clear A B C D
 unfold NoSpecial at K1
 unfold Reads at K2
 unfold Ends at K4 K5
 unfold fEq at hE
 have dn : ((d : Int) == 0) = false := beq_eq_false_iff_ne.2 (by omega)
 have dp : decide (310 < p) = false := decide_eq_false (by omega)
 have dq : decide (p < -345) = false := decide_eq_false (by omega)
 have db : (d : Int) + 1 ≤ 10000000000000000000 := by omega
 have dc : ((d : Int) + 1) % 18446744073709551616 = (d : Int) + 1 := by omega
 clear hd hp hp2 hd2
 cases neg
 case' true => rw [sgv_int.1] at K4 K5
 case' false => rw [sgv_int.2] at K4 K5
 all_goals
  go_enter Tryz.func131, Tryz.ntmps131
  go_wp2_with (first
   | (go_at_call 153; (with_reducible refine (K1.out _).mono ?_); rintro e w1 ⟨⟨x1, n1, rfl⟩, rfl⟩)
   | (go_at_call 154; (with_reducible refine (K2.out _).mono ?_); rintro e w1 ⟨rfl, rfl⟩)
   | (go_at_call 162; (with_reducible refine (std_bool2 _ _).mono ?_); rintro e w2 ⟨rfl, rfl⟩)
   | (go_at_call 165; (with_reducible refine K4.out.mono ?_); rintro e w2 ⟨rfl, hb⟩; have HB := Lib.hid hb; clear hb)
   | (go_at_call 165; (with_reducible refine (K5.out _ HB.out).mono ?_); rintro e w3 ⟨rfl, hb⟩; have HB2 := Lib.hid hb; clear hb))
  go_ret3
  exact ⟨rfl, HB.out.trans (HB2.out.mono HB.out.size)⟩

/-- The slow road, by what it hands back. -/
def SlowBy (s : ByteArray) (z : Nat) (ov : Bool) (w : World) : Prop :=
 Calls Tryz.prog 160 #[.pointer (some ⟨w.heap.size, 0, none⟩), .string s] (w.alloc (.cells zrow 253)) fun e u => e = .returned (.bool true) ∧ Only w.heap.size (w.alloc (.cells zrow 253)) u ∧
  Calls Tryz.prog 161 #[.pointer (some ⟨w.heap.size, 0, none⟩), .pointer (some ⟨10, 0, none⟩)] u fun e u2 => e = .returned (.tuple #[.int .u64 z, .bool ov]) ∧ Only w.heap.size u u2

set_option maxHeartbeats 3200000 in
set_option maxRecDepth 100000 in
theorem at_slow (s : ByteArray) (w : World) (d n z1 z2 z : Nat) (p : Int) (neg ov : Bool) (v1 v2 : Value) (hop : w.cell? ⟨9, 0, none⟩ = some (.bool true)) (hd : 0 < d) (hd2 : d < 10 ^ 19) (hp : -345 ≤ p) (hp2 : p ≤ 310) (hn : n ≤ s.size) (hs : s.size ≤ 100000) (A : NoSpecial s) (B : Reads s d p neg true false n)
  (C : Calls Tryz.prog 165 #[.int .u64 (d : Int), .int .i64 p, .int .u64 (sgv neg : Nat)] w (Ends (.tuple #[.float .f64 z1, v1]) w))
  (D : ∀ w', Below w.heap.size w w' → Calls Tryz.prog 165 #[.int .u64 ((d : Int) + 1), .int .i64 p, .int .u64 (sgv neg : Nat)] w' (Ends (.tuple #[.float .f64 z2, v2]) w')) (hE : fEq z1 z2 = false)
  (S : ∀ w', Below w.heap.size w w' → SlowBy (s.extract 0 n) z ov w') :
  Calls Tryz.prog 131 #[.string s] w (Ends (.tuple #[.float .f64 z, .int .i64 n, if ov then .iface 180 (.int .i64 1) else .nilIface]) w) := by
 have K1 := Lib.hid A
 have K2 := Lib.hid B
 have K4 := Lib.hid C
 have K5 := Lib.hid D
 have K6 := Lib.hid S
 clear A B C D S
 unfold NoSpecial at K1
 unfold Reads at K2
 unfold Ends at K4 K5
 unfold SlowBy at K6
 have HAL := Lib.hid alloc253
 generalize zrow = zz at *
 unfold fEq at hE
 have dn : ((d : Int) == 0) = false := beq_eq_false_iff_ne.2 (by omega)
 have dp : decide (310 < p) = false := decide_eq_false (by omega)
 have dq : decide (p < -345) = false := decide_eq_false (by omega)
 have db : (d : Int) + 1 ≤ 10000000000000000000 := by omega
 have dc : ((d : Int) + 1) % 18446744073709551616 = (d : Int) + 1 := by omega
 clear hd hp hp2 hd2
 cases neg <;> cases ov
 all_goals
  first | rw [sgv_int.1] at K4 K5 | rw [sgv_int.2] at K4 K5
  go_enter Tryz.func131, Tryz.ntmps131
  go_upto_region 28 with (first
   | (go_at_call 153; (with_reducible refine (K1.out _).mono ?_); rintro e w1 ⟨⟨x1, n1, rfl⟩, rfl⟩)
   | (go_at_call 154; (with_reducible refine (K2.out _).mono ?_); rintro e w1 ⟨rfl, rfl⟩)
   | (go_at_call 162; (with_reducible refine (std_bool2 _ _).mono ?_); rintro e w2 ⟨rfl, rfl⟩)
   | (go_at_call 165; (with_reducible refine K4.out.mono ?_); rintro e w2 ⟨rfl, hb⟩; have HB := Lib.hid hb; clear hb)
   | (go_at_call 165; (with_reducible refine (K5.out _ HB.out).mono ?_); rintro e w3 ⟨rfl, hb⟩; have HB2 := Lib.hid (HB.out.trans (hb.mono HB.out.size)); clear hb)
   | fail)
  clear dc db dn dp dq hE
  refine wp_region_alloc rfl rfl (HAL.out _) ?_
  go_wp2_with (first
   | (go_at_call 160; (with_reducible refine (K6.out _ HB2.out).mono ?_); rintro e w4 ⟨rfl, ho, hc⟩; have HO := Lib.hid ho; have HC := Lib.hid hc; clear ho hc)
   | (go_at_call 161; (with_reducible refine HC.out.mono ?_); rintro e w5 ⟨rfl, ho⟩; have HO2 := Lib.hid ho; clear ho))
  rw [call163, Oper.upon_value]
  go_wp2_with fail
  go_ret3
  refine ⟨rfl, ?_⟩
  have q2 := HB2.out.alloc HB2.out.size (.cells zz 253)
  have q4 := q2.trans (HO.out.toBelow HB2.out.size (by simp))
  exact q4.trans (HO2.out.toBelow HB2.out.size (by have := HO.out.size; simp at this; omega))

end Go.Proofs.YtgolhmiocjpohaaGreatDoor

namespace Go.Proofs.YtgolhmiocjpohaaGreatDoor
open Go.RowKit Go.PlainAid

/-- A post: no float by the exact road. -/
def ExactNo (w : World) (e : Ending) (w' : World) : Prop := (∃ x : Nat, e = .returned (.tuple #[.float .f64 x, .bool false])) ∧ w = w'

set_option maxHeartbeats 1600000 in
set_option maxRecDepth 100000 in
theorem exact_no_large (n : Nat) (e : Int) (neg : Bool) (w : World) (h : 2 ^ 52 ≤ n) (h2 : n < 2 ^ 64) (hmb : w.cell? ⟨10, 0, none⟩ = some (.int .u64 52)) :
  Calls Tryz.prog 164 #[.int .u64 (n : Int), .int .i64 e, .bool neg] w (ExactNo w) := by
 have hq : ((n : Int) / 4503599627370496 != 0) = true := by simp; omega
 clear h h2
 go_enter Tryz.func164, Tryz.ntmps164
 go_wp2
 go_ret2
 exact ⟨⟨_, rfl⟩, rfl⟩

set_option maxHeartbeats 1600000 in
set_option maxRecDepth 100000 in
theorem exact_no_far (n x0 x : Nat) (e : Int) (neg : Bool) (w : World) (hq : (n : Int) / 4503599627370496 = 0) (he : e < -22 ∨ 37 < e) (hmb : w.cell? ⟨10, 0, none⟩ = some (.int .u64 52))
  (hn : floatOfInt .f64 (n : Int) = x0) (hneg : (neg = true ∧ Op.unary .neg (.float .f64 x0) = pure (.float .f64 x)) ∨ (neg = false ∧ x0 = x)) :
  Calls Tryz.prog 164 #[.int .u64 (n : Int), .int .i64 e, .bool neg] w (ExactNo w) := by
 have k0 : (e == 0) = false := beq_eq_false_iff_ne.2 (by omega)
 rcases he with he | he
 ·have d1 : decide (0 < e) = false := decide_eq_false (by omega)
  have d2 : decide (e < 0) = true := decide_eq_true (by omega)
  have d3 : ¬ -22 ≤ e := by omega
  rcases hneg with ⟨rfl, hneg⟩ | ⟨rfl, rfl⟩
  all_goals
   go_enter Tryz.func164, Tryz.ntmps164
   go_wp2
   go_ret2
   exact ⟨⟨_, rfl⟩, rfl⟩
 ·have d1 : decide (0 < e) = true := decide_eq_true (by omega)
  have d2 : decide (e < 0) = false := decide_eq_false (by omega)
  have d3 : ¬ e ≤ 37 := by omega
  rcases hneg with ⟨rfl, hneg⟩ | ⟨rfl, rfl⟩
  all_goals
   go_enter Tryz.func164, Tryz.ntmps164
   go_wp2
   go_ret2
   exact ⟨⟨_, rfl⟩, rfl⟩

theorem rung_bound {A B r : Nat} (hB : 0 < B) (hr : Rung A B r) (h : A < 2 ^ 200 * B) : overRung r = false := by
 refine decide_eq_false ?_
 rcases hr with ⟨_, h1⟩ | ⟨hA, E, hE, hrE⟩
 ·omega
 ·have hE2 := isLog_hi (t := 200) (u := 0) (v := 0) hE hB (by simpa using h)
  obtain ⟨u, hu⟩ : ∃ u : Nat, (u : Int) = 60 + (expOf E).natAbs := ⟨_, rfl⟩
  obtain ⟨v, hv⟩ : ∃ v : Nat, (u : Int) - v = 52 - expOf E := ⟨(u - 52 + expOf E).toNat, by omega⟩
  obtain ⟨c, hc⟩ : ∃ c : Nat, (c : Int) = expOf E + 1022 := ⟨(expOf E + 1022).toNat, by unfold expOf; omega⟩
  have h1 := hrE u v c hv hc
  have hm : rnd (A * 2 ^ u) (B * 2 ^ v) ≤ 2 ^ 53 := by
   by_cases hl : E < -1022
   ·have := mant_small hB hE hl (u := u) (v := v) (by unfold expOf at hv; omega)
    omega
   ·exact (mant_normal hB hE (u := u) (v := v) (by unfold expOf at hv; omega)).2
  have hc2 : c ≤ 1222 := by unfold expOf at hc; omega
  generalize rnd (A * 2 ^ u) (B * 2 ^ v) = m at *
  omega

/-- What stands for an error of range. -/
def ovV (b : Bool) : Value := if b then .iface 180 (.int .i64 1) else .nilIface

theorem exact_by (n : Nat) (e : Int) (neg : Bool) (r : Nat) (w : World) (h0 : 0 < n) (h : n < 2 ^ 64) (hr : Rung (n * 10 ^ e.toNat) (10 ^ (-e).toNat) r) (hmb : w.cell? ⟨10, 0, none⟩ = some (.int .u64 52)) (hT : TensAt w) :
  ExactBy n e neg (sgv neg + cutRung r) (ovV (overRung r)) w := by
 have no : Calls Tryz.prog 164 #[.int .u64 (n : Int), .int .i64 e, .bool neg] w (ExactNo w) → ExactBy n e neg (sgv neg + cutRung r) (ovV (overRung r)) w := fun K => by
  refine K.mono ?_
  rintro e w' ⟨⟨x, he⟩, hw⟩
  exact ⟨⟨x, false, he, fun h => by simp at h⟩, hw⟩
 by_cases hl : 2 ^ 52 ≤ n
 ·exact no (exact_no_large n e neg w hl h hmb)
 ·by_cases hf : e < -22 ∨ 37 < e
  ·refine no (exact_no_far n (fBits false n) (fBits neg n) e neg w (by omega) hf hmb (nearest_nat n) ?_)
   cases neg
   ·exact Or.inr ⟨rfl, rfl⟩
   ·exact Or.inl ⟨rfl, neg_lit (by omega)⟩
  ·have ho : overRung r = false := by
    refine rung_bound (ten_pos _) hr ?_
    have h1 : 10 ^ e.toNat ≤ 10 ^ 37 := Nat.pow_le_pow_right (by omega) (by omega)
    have h2 : n * 10 ^ e.toNat ≤ 2 ^ 52 * 10 ^ 37 := Nat.mul_le_mul (by omega) h1
    have h3 : 2 ^ 52 * 10 ^ 37 < 2 ^ 200 := by decide +kernel
    have h4 : 2 ^ 200 * 1 ≤ 2 ^ 200 * 10 ^ (-e).toNat := Nat.mul_le_mul_left _ (ten_pos _)
    rw [Nat.mul_one] at h4
    exact Nat.lt_of_lt_of_le (Nat.lt_of_le_of_lt h2 h3) h4
   refine (exact64 n e neg r w h0 h hr hmb hT).mono ?_
   rintro e' w' ⟨x, ok, he, hx, hw⟩
   exact ⟨⟨x, ok, he, fun h => ⟨hx h, by rw [ho]; rfl⟩⟩, hw⟩

theorem ends_is {s : ByteArray} {w : World} {x : Nat} {n : Int} {v : Value} {e : Ending} {w' : World} (h : Ends (.tuple #[.float .f64 x, .int .i64 n, v]) w e w')
  (hv : (v = .nilIface ∧ n = s.size ∧ fltOf s = some x) ∨ (fltOf s = none ∧ (v = .nilIface ∧ n ≠ s.size ∨ v = .iface 180 (.int .i64 1) ∨ v = .iface 180 (.int .i64 2)))) : AtofIs s w e w' :=
 ⟨x, n, v, h.1, hv, h.2⟩

theorem cut_same {r1 r r2 : Nat} (h1 : r1 ≤ r) (h2 : r ≤ r2) (h : cutRung r1 = cutRung r2) : cutRung r1 = cutRung r ∧ overRung r1 = overRung r := by
 have e : ∀ x, cutRung x = if 9218868437227405312 ≤ x then 9218868437227405312 else x := fun x => rfl
 rw [e, e] at h
 rw [e, e]
 by_cases c : 9218868437227405312 ≤ r1
 ·rw [if_pos c, if_pos (by omega)]
  exact ⟨rfl, by unfold overRung; rw [decide_eq_true c, decide_eq_true (show 9218868437227405312 ≤ r by omega)]⟩
 ·rw [if_neg c] at h
  have d : ¬ 9218868437227405312 ≤ r2 := fun d => by rw [if_pos d] at h; omega
  rw [if_neg d] at h
  have hr : r1 = r := by omega
  rw [hr]
  exact ⟨rfl, rfl⟩

theorem SlowBy.of {s : ByteArray} {R : Read} {B : Nat} {w : World} (hE : Env B w) (hr : readOf s = some R) (hx : R.hex = false) (hs : s.size ≤ 400) (h0 : mantOf R.hex R.st.ds ≠ 0) : SlowBy (s.extract 0 R.stop) (sgv (negB s) + cutRung (rungOf R)) (overRung (rungOf R)) w := by
 have F := read_facts hr
 have C := read_cut hr hx
 have hok := F.ok
 rw [hx] at hok h0
 have hle := hE.le
 have hH : Headed R.st.ds := by
  have hne : R.st.ds ≠ [] := fun h => h0 (by rw [h]; exact mantOf_nil false)
  refine ⟨hok.digs, List.length_pos_iff.2 hne, ?_⟩
  rcases hok.first with h | h
  ·exact (hne h).elim
  ·exact h
 refine (slow_set (s.extract 0 R.stop) (w.alloc (.cells zrow 253)) w.heap.size (fun _ => 0) false false R (by rw [C.size]; have := F.stop; omega) C.pos C.hex C.read C.size.symm (zrow_dec w)).mono ?_
 rintro e u ⟨rfl, hd, ho⟩
 rw [C.neg] at hd
 refine ⟨rfl, ho, ?_⟩
 have hA : 0 < numA R := by
  unfold numA
  rw [hx]
  exact Nat.mul_pos hH.dval_pos (ten_pos _)
 have hS : SlowEnv B (w.alloc (.cells zrow 253)) := hE.slow.below ((Below.refl B w).alloc hle.2 _)
 exact slow_bits u B w.heap.size R.st.ds (R.st.dp + R.ex) (negB s) (numA R) (numB R) (rungOf R) hd (by have := F.len; omega) hH (same_num hx) hA (numB_pos R) (rungOf_is R) (hS.only ho hle.2) hle.2

theorem wnat_ge (b : Nat) : ∀ (l : List Nat) (a : Nat), a * b ^ l.length ≤ l.foldl (fun a d => a * b + d) a := by
 intro l
 induction l with
 | nil => intro a; simp
 | cons x l ih =>
  intro a
  have h1 := ih (a * b + x)
  have h2 : a * b * b ^ l.length ≤ (a * b + x) * b ^ l.length := Nat.mul_le_mul_right _ (by omega)
  rw [List.length_cons, List.foldl_cons, Nat.pow_succ, Nat.mul_comm (b ^ l.length), ← Nat.mul_assoc]
  omega

/-- Where hexadecimal digits are cut the mantissa is large. -/
theorem hex_big {st : Sc} (h : ScOk true st) (ht : truncOf true st.ds = true) : 2 ^ 60 ≤ mantOf true st.ds := by
 have hl : 16 < st.ds.length := by
  apply Classical.byContradiction
  intro hl
  unfold truncOf at ht
  rw [List.drop_of_length_le (by unfold cap; simp; omega)] at ht
  simp at ht
 cases hd : st.ds with
 | nil => rw [hd] at hl; simp at hl
 | cons x t =>
  have hx : x ≠ 0 := by
   rcases h.first with e | e
   ·rw [hd] at e; simp at e
   ·rw [hd] at e; exact e
  rw [hd] at hl
  have h1 := wnat_ge 16 (t.take 15) x
  have h2 : (t.take 15).length = 15 := by simp at hl ⊢; omega
  rw [h2] at h1
  have h3 : mantOf true (x :: t) = (t.take 15).foldl (fun a d => a * 16 + d) x := by
   show wnat 16 ((x :: t).take 16) = _
   rw [List.take_succ_cons]
   unfold wnat
   rw [List.foldl_cons, Nat.zero_mul, Nat.zero_add]
  have h4 : 1 * 16 ^ 15 ≤ x * 16 ^ 15 := Nat.mul_le_mul_right _ (by omega)
  rw [h3]
  omega

set_option maxHeartbeats 1600000 in
theorem at_dec (s : ByteArray) (w : World) (B : Nat) (R : Read) (hs : s.size ≤ 400) (hE : Env B w) (A : NoSpecial s) (hn : NoNames s) (hg : ReadGood s R) (hx : R.hex = false)
  (K : Reads s (mantOf R.hex R.st.ds) (expOfRead R) (negB s) (truncOf R.hex R.st.ds) R.hex R.stop) : Calls Tryz.prog 131 #[.string s] w (AtofIs s w) := by
 have F := read_facts hg.1
 have hop := hE.glob.op
 have hfin := atof_good hn hg (v := ovV (overRung (rungOf R))) rfl
 have hle := hE.le
 rw [hx] at K
 by_cases h0 : mantOf R.hex R.st.ds = 0
 ·have hz := dec_zero hx F.ok h0
  rw [hz, show cutRung 0 = 0 from rfl, Nat.add_zero, show overRung 0 = false from rfl] at hfin
  rw [hx] at h0
  rw [h0] at K
  exact (at_zero s w R.stop (expOfRead R) (negB s) _ hop A K).mono fun e w' h => ends_is h hfin
 ·have hd : 0 < mantOf false R.st.ds := by rw [hx] at h0; omega
  have hd2 : mantOf false R.st.ds < 10 ^ 19 := by have := (mantOf_lt F.ok.digits).2 hx; rwa [hx] at this
  by_cases hp1 : 310 < expOfRead R
  ·have hv := dec_over hx F.ok h0 hp1
   rw [show cutRung (rungOf R) = 9218868437227405312 from if_pos hv, show overRung (rungOf R) = true from decide_eq_true hv] at hfin
   exact (at_over s w _ R.stop (expOfRead R) (negB s) _ hop hd hp1 A K).mono fun e w' h => ends_is h hfin
  by_cases hp2 : expOfRead R < -345
  ·have hv := dec_under hx F.ok h0 hp2
   rw [hv, show cutRung 0 = 0 from rfl, Nat.add_zero, show overRung 0 = false from rfl] at hfin
   exact (at_under s w _ R.stop (expOfRead R) (negB s) _ hop hd hp2 A K).mono fun e w' h => ends_is h hfin
  have P : ∀ (d r : Nat) (w' : World), 0 < d → d < 2 ^ 64 → Rung (d * 10 ^ (expOfRead R).toNat) (10 ^ (-(expOfRead R)).toNat) r → Below w.heap.size w w' →
    Calls Tryz.prog 165 #[.int .u64 (d : Int), .int .i64 (expOfRead R), .int .u64 (sgv (negB s) : Nat)] w' (Ends (.tuple #[.float .f64 (sgv (negB s) + cutRung r), ovV (overRung r)]) w') := fun d r w' a b c hb => by
   have hE' := hE.below (hb.mono hle.2)
   exact parse64 d (expOfRead R) r (negB s) w' a b (by omega) (by omega) c hE'.tab hE'.glob.sz
  cases ht : truncOf R.hex R.st.ds with
  | false =>
   have hr := dec_exact hx h0 ht
   have ht' := ht
   rw [hx] at ht'
   rw [ht'] at K
   rw [hx] at hr
   exact (at_fast s w _ R.stop _ (expOfRead R) (negB s) _ hop hd (by omega) (by omega) A K (exact_by _ _ _ _ w hd (by omega) hr hE.glob.mb hE.ten) (P _ _ w hd (by omega) hr (Below.refl _ _))).mono fun e w' h => ends_is h hfin
  | true =>
   have ht' := ht
   rw [hx] at ht'
   rw [ht'] at K
   obtain ⟨r1, hr1⟩ := Rung.exists (mantOf R.hex R.st.ds * 10 ^ (expOfRead R).toNat) (ten_pos (-(expOfRead R)).toNat)
   obtain ⟨r2, hr2⟩ := Rung.exists ((mantOf R.hex R.st.ds + 1) * 10 ^ (expOfRead R).toNat) (ten_pos (-(expOfRead R)).toNat)
   obtain ⟨b1, b2⟩ := dec_between hx F.ok h0 hr1 hr2
   rw [hx] at hr1 hr2
   have C := P _ _ w hd (by omega) hr1 (Below.refl _ _)
   have D := fun w' hb => P _ _ w' (by omega) (by omega) hr2 hb
   cases hE2 : fEq (sgv (negB s) + cutRung r1) (sgv (negB s) + cutRung r2) with
   | true =>
    have hc : cutRung r1 = cutRung r2 := by
     have hb : ∀ r, cutRung r ≤ 9218868437227405312 := fun r => by unfold cutRung; split <;> omega
     exact order_same (negB s) (hb r1) (hb r2) (by unfold fEq at hE2; exact eq_of_beq hE2)
    obtain ⟨c1, c2⟩ := cut_same b1 b2 hc
    rw [← c1, ← c2] at hfin
    exact (at_both s w _ R.stop _ _ (expOfRead R) (negB s) _ _ hop hd hd2 (by omega) (by omega) A K C D hE2).mono fun e w' h => ends_is h hfin
   | false =>
    exact (at_slow s w _ R.stop _ _ _ (expOfRead R) (negB s) _ _ _ hop hd hd2 (by omega) (by omega) F.stop (by omega) A K C D hE2
     (fun w' hb => SlowBy.of (hE.below (hb.mono hle.2)) hg.1 hx hs h0)).mono fun e w' h => ends_is h hfin

/-- atof64 on any text of at most 400 octets. -/
theorem atof_any (s : ByteArray) (w : World) (B : Nat) (hs : s.size ≤ 400) (hE : Env B w) : Calls Tryz.prog 131 #[.string s] w (AtofIs s w) := by
 rcases special_ways s (by omega) with K | K
 ·exact at_named s w K
 ·by_cases hn : NoNames s
  ·have A : NoSpecial s := fun w => (K w).mono fun e w' ⟨x, n, he, _, hw⟩ => ⟨⟨x, n, he⟩, hw⟩
   rcases read_ways s (by omega) with ⟨hb, L⟩ | ⟨R, hg, L⟩
   ·refine (at_refused s w A L).mono ?_
    rintro e w' ⟨⟨n, he⟩, rfl⟩
    exact ⟨0, n, _, he, Or.inr ⟨atof_bad hn hb, Or.inr (Or.inr rfl)⟩, Below.refl _ _⟩
   ·have F := read_facts hg.1
    have Kr : Reads s (mantOf R.hex R.st.ds) (expOfRead R) (negB s) (truncOf R.hex R.st.ds) R.hex R.stop := fun w => (L w).mono fun e w' h => h
    cases hx : R.hex with
    | false => exact at_dec s w B R hs hE A hn hg hx Kr
    | true =>
     have he := exp_bounds F (by omega)
     have hfin := atof_good hn hg (v := ovV (overRung (rungOf R))) rfl
     have hr := rungOf_is R
     unfold numA numB at hr
     rw [hx] at hr
     have Kr2 := Kr
     rw [hx] at Kr2
     refine (at_hex s w _ R.stop _ (expOfRead R) (negB s) _ (ovV (overRung (rungOf R))) F.stop (by omega) A Kr2 (fun w' e => ?_)).mono fun e w' h => ends_is h hfin
     subst e
     have hM : hexM R = if truncOf true R.st.ds then mantOf true R.st.ds ||| 1 else mantOf true R.st.ds := by unfold hexM; rw [hx]
     refine hex64 _ (mantOf true R.st.ds) (expOfRead R) (negB s) (truncOf true R.st.ds) (rungOf R) (hexM R) w ?_ hM (fun htr => ?_) he.1 he.2 hr hE.slow.info hE.forms
     ·have := (mantOf_lt F.ok.digits).1
      rwa [hx] at this
     ·have hok := F.ok
      rw [hx] at hok
      exact hex_big hok htr
  ·exact at_named s w fun w => (K w).mono fun e w' ⟨x, n, he, h, hw⟩ => (hn h).elim

end Go.Proofs.YtgolhmiocjpohaaGreatDoor

namespace Go.Proofs.YtgolhmiocjpohaaGreatDoor
open Go.RowKit Go.PlainAid

theorem bt_nums (xs : List Int) (i : Nat) (h : i < xs.length) (h0 : 0 ≤ xs.getD i 0) (h1 : xs.getD i 0 < 256) : bt (strOfNums xs) i = xs.getD i 0 := by
 have hz : i < (strOfNums xs).size := by rw [strOfNums_size]; exact h
 rw [← bt_data _ i hz, strOfNums_data, List.getD_eq_getElem?_getD, List.getElem?_map, List.getElem?_eq_getElem h]
 rw [List.getD_eq_getElem?_getD, List.getElem?_eq_getElem h] at h0 h1 ⊢
 simp only [Option.map_some, Option.getD_some] at h0 h1 ⊢
 rw [UInt8.toNat_ofNat']
 omega

/-- A text of digits behind p octets. -/
structure DigText (s : ByteArray) (p : Nat) (ds : List Nat) : Prop where
 size : s.size = p + ds.length
 at' : ∀ i, i < ds.length → bt s (p + i) = ((48 + ds.getD i 0 : Nat) : Int)
 lt : ∀ i, i < ds.length → ds.getD i 0 < 10

theorem getD_decL (n i : Nat) (h : i < (decL n).length) : (decL n).getD i 0 < 10 := by
 rw [List.getD_eq_getElem?_getD, List.getElem?_eq_getElem h]
 exact decL_lt n _ (List.getElem_mem h)

theorem digNums_get (ds : List Nat) (i : Nat) (h : i < ds.length) : (digNums ds).getD i 0 = ((48 + ds.getD i 0 : Nat) : Int) := digNums_getD ds h

theorem natText_dig (n : Nat) : DigText (natText n) 0 (decL n) := by
 refine ⟨by unfold natText; rw [strOfNums_size, digNums_length, Nat.zero_add], fun i hi => ?_, fun i hi => getD_decL n i hi⟩
 have hd := getD_decL n i hi
 unfold natText
 rw [Nat.zero_add, bt_nums _ _ (by rw [digNums_length]; exact hi) (by rw [digNums_get _ _ hi]; omega) (by rw [digNums_get _ _ hi]; omega), digNums_get _ _ hi]

theorem negText_dig (k : Nat) : DigText (strOfNums (45 :: digNums (decL k))) 1 (decL k) ∧ bt (strOfNums (45 :: digNums (decL k))) 0 = 45 := by
 refine ⟨⟨by rw [strOfNums_size, List.length_cons, digNums_length]; omega, fun i hi => ?_, fun i hi => getD_decL k i hi⟩, ?_⟩
 ·have hd := getD_decL k i hi
  have e : (45 :: digNums (decL k)).getD (1 + i) 0 = ((48 + (decL k).getD i 0 : Nat) : Int) := by
   rw [Nat.add_comm, List.getD_cons_succ]
   exact digNums_get _ _ hi
  rw [bt_nums _ _ (by rw [List.length_cons, digNums_length]; omega) (by rw [e]; omega) (by rw [e]; omega), e]
 ·exact bt_nums _ 0 (by simp) (by simp) (by simp)

theorem scan_digits {s : ByteArray} {p : Nat} {ds : List Nat} (h : DigText s p ds) (h0 : ds.getD 0 0 ≠ 0) : ∀ m k : Nat, k + m = ds.length → 0 < ds.length → scanFrom false s m (p + k) ⟨ds.take k, decide (0 < k), false, false, (k : Nat)⟩ = (p + ds.length, ⟨ds, true, false, false, (ds.length : Nat)⟩) := by
 intro m
 induction m with
 | zero =>
  intro k hk hl
  have : k = ds.length := by omega
  subst this
  rw [scanFrom, List.take_of_length_le (Nat.le_refl _), decide_eq_true hl]
 | succ m ih =>
  intro k hk hl
  have hc := h.at' k (by omega)
  have hd := h.lt k (by omega)
  have hlen : (ds.take k).length = k := by simp; omega
  have hst : stepC false ⟨ds.take k, decide (0 < k), false, false, (k : Nat)⟩ (bt s (p + k)) = some ⟨ds.take (k + 1), decide (0 < k + 1), false, false, ((k + 1 : Nat) : Int)⟩ := by
   rw [stepC_digit (d := ds.getD k 0) (by omega) (by omega) (by rw [hc]; unfold digV; rw [if_pos (by omega)]; congr 1; omega)]
   rw [addD_more (by
    show ¬ ((ds.take k).length = 0 ∧ ds.getD k 0 = 0)
    rw [hlen]
    rintro ⟨e1, e2⟩
    subst e1
    exact h0 e2)]
   simp only [Bool.false_eq_true, if_false]
   rw [take_snoc_nat (show k < ds.length by omega), decide_eq_true (Nat.succ_pos k)]
   simp
  rw [scanFrom, hst]
  simp only
  rw [show p + k + 1 = p + (k + 1) by omega]
  exact ih (k + 1) (by omega) hl

theorem dig_noname {s : ByteArray} {p : Nat} {ds : List Nat} (h : DigText s p ds) (hl : 0 < ds.length) (hp : signLen s = p) (hn : p = 0 ∨ bt s 0 = 45) : NoNames s := by
 have hz := bodyT_size s
 have h0 := h.at' 0 hl
 have hd := h.lt 0 hl
 have hs := h.size
 have hb : bt (bodyT s) 0 = ((48 + ds.getD 0 0 : Nat) : Int) := by
  rw [bodyT_at (by omega), hp]
  exact h0
 have hlow : lowerI (bt (bodyT s) 0) = ((48 + ds.getD 0 0 : Nat) : Int) := by
  rw [hb]
  unfold lowerI
  rw [if_neg (by omega)]
 refine ⟨fun f => ?_, fun f => ?_, fun f => ?_⟩
 ·have f0 := f.2 0 (by omega)
  rw [show bt wNan 0 = 110 from by decide] at f0
  rcases hn with e | e
  ·subst e
   rw [Nat.zero_add] at h0
   rw [h0] at f0
   unfold lowerI at f0
   rw [if_neg (by omega)] at f0
   omega
  ·rw [e] at f0
   revert f0
   decide
 ·have f0 := f.2 0 (by omega)
  rw [hlow, show bt wInf 0 = 105 from by decide] at f0
  omega
 ·have f0 := f.2 0 (by omega)
  rw [hlow, show bt wInfinity 0 = 105 from by decide] at f0
  omega

/-- The digits of a number, without a zero that stands alone. -/
def bareL (n : Nat) : List Nat := if n = 0 then [] else decL n

theorem dig_read {s : ByteArray} {p n : Nat} (h : DigText s p (decL n)) (hp : signLen s = p) : readOf s = some ⟨false, ⟨bareL n, true, false, false, ((bareL n).length : Nat)⟩, s.size, 0, false⟩ := by
 have hl := decL_pos n
 have hs := h.size
 have h0 := h.at' 0 hl
 have hx : hexAt s = false := by
  unfold hexAt
  refine decide_eq_false fun hh => ?_
  rw [hp] at hh
  have h1 := h.at' 1 (by omega)
  have hd := h.lt 1 (by omega)
  have hr : 48 ≤ bt s (p + 1) ∧ bt s (p + 1) ≤ 57 := by omega
  have := or32 hr
  have h3 := hh.2.2
  unfold lowB at h3
  omega
 have hdf : digFrom s = p := by unfold digFrom; rw [hx, hp]; rfl
 have hsc : scanAt (hexAt s) s (digFrom s) sc0 = (s.size, ⟨bareL n, true, false, false, ((bareL n).length : Nat)⟩) := by
  rw [hx, hdf]
  unfold scanAt
  by_cases hn : n = 0
  ·have hd1 : decL n = [0] := by rw [hn, decL_small (by omega)]
   rw [hd1] at hs h0
   have hb : bareL n = [] := by unfold bareL; rw [if_pos hn]
   rw [hb, hs]
   simp only [List.length_singleton]
   rw [show p + 1 - p = 0 + 1 by omega, scanFrom]
   have hst : stepC false sc0 (bt s p) = some ⟨[], true, false, false, 0⟩ := by
    rw [Nat.add_zero] at h0
    rw [h0]
    rfl
   rw [hst]
   rfl
  ·have hb : bareL n = decL n := by unfold bareL; rw [if_neg hn]
   rw [hb]
   have := scan_digits h (decL_first n hn) (decL n).length 0 (by omega) hl
   rw [show s.size - p = (decL n).length by omega]
   rw [Nat.add_zero] at this
   rw [show sc0 = ⟨(decL n).take 0, decide (0 < 0), false, false, ((0 : Nat) : Int)⟩ from rfl, this, hs]
 rw [readOf_tail hsc rfl, hx, tail_none (by omega)]
 rfl

theorem bareL_val (n : Nat) : dval (bareL n) = n := by
 unfold bareL
 split
 ·rename_i h; rw [h]; rfl
 ·exact dval_decL n

/-- The float of a whole number of at most 64 bits. -/
theorem dig_value {s : ByteArray} {p n : Nat} (h : DigText s p (decL n)) (hp : signLen s = p) (hn : p = 0 ∨ bt s 0 = 45) (hb : n ≤ 9223372036854775808) : fltOf s = some (Ieee.double.nearest (negB s) n 0) := by
 rw [fltOf_value (dig_noname h (decL_pos n) hp hn)]
 have hr := dig_read h hp
 obtain ⟨R, hR⟩ : ∃ R : Read, R = ⟨false, ⟨bareL n, true, false, false, ((bareL n).length : Nat)⟩, s.size, 0, false⟩ := ⟨_, rfl⟩
 rw [← hR] at hr
 have hS : Same R.st.ds (R.st.dp + R.ex) n 1 := by
  rw [hR]
  refine Same.of 0 0 (by simp) ?_
  show dval (bareL n) * 10 ^ 0 * 1 = n * 10 ^ 0
  rw [bareL_val]
  simp
 have hrung := rung_dec (R := R) (by rw [hR]) (by omega) hS
 have ho : overRung (rungOf R) = false := by
  refine rung_bound (by omega) hrung ?_
  have h1 : 9223372036854775808 < 2 ^ 200 := by decide
  omega
 have hv : valueOf s = some (sgv (negB s) + cutRung (rungOf R)) := by
  unfold valueOf
  rw [hr]
  simp only
  rw [if_pos ⟨by rw [hR], fun h => by rw [hR] at h; simp at h, ho⟩]
 rw [hv, nearest_is (negB s) (by omega) hrung (mag := n) (place := 0) (by simp)]

theorem flt_int (n : Int) (h1 : -9223372036854775808 ≤ n) (h2 : n ≤ 9223372036854775807) : fltOf (intText n) = some (floatOfInt .f64 n) := by
 have hf : floatOfInt .f64 n = Ieee.double.nearest (decide (n < 0)) n.natAbs 0 := rfl
 by_cases hn : n < 0
 ·obtain ⟨k, rfl⟩ : ∃ k : Nat, n = -(k : Int) := ⟨n.natAbs, by omega⟩
  obtain ⟨hd, h0⟩ := negText_dig k
  have hsz := hd.size
  have hs : signLen (strOfNums (45 :: digNums (decL k))) = 1 := by unfold signLen; rw [if_pos ⟨by omega, Or.inr h0⟩]
  have hng : negB (strOfNums (45 :: digNums (decL k))) = true := by unfold negB; exact decide_eq_true ⟨by omega, h0⟩
  rw [hf, intText_neg (by omega), dig_value hd hs (Or.inr h0) (by omega), hng, decide_eq_true hn, show (-(k : Int)).natAbs = k by omega]
 ·obtain ⟨k, rfl⟩ : ∃ k : Nat, n = (k : Int) := ⟨n.natAbs, by omega⟩
  have hd := natText_dig k
  have hl := decL_pos k
  have h0 := hd.at' 0 hl
  have hlt := hd.lt 0 hl
  rw [Nat.zero_add] at h0
  have hs : signLen (natText k) = 0 := by unfold signLen; rw [if_neg (by omega)]
  have hng : negB (natText k) = false := by unfold negB; exact decide_eq_false (by omega)
  rw [hf, intText_nat, dig_value hd hs (Or.inl rfl) (by omega), hng, decide_eq_false hn, show (k : Int).natAbs = k by omega]

end Go.Proofs.YtgolhmiocjpohaaGreatDoor
