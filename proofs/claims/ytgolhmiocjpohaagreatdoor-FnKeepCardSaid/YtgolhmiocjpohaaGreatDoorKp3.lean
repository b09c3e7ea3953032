/- The package's comparison of numbers (121), with each of its four comparers (122 to 125). No condition beyond sizes. -/
import Derived.Test.YtgolhmiocjpohaaGreatDoorNt1
set_option linter.unusedVariables false
set_option linter.unusedSimpArgs false
namespace Go.Proofs.YtgolhmiocjpohaaGreatDoor
open Go.RowKit Go.PlainAid

/-- How two floats are compared. -/
def fCmp (op : Int) (x y : Nat) : Bool := if op = 2 then fGt x y else if op = 3 then fGt x y || fEq x y else if op = 4 then fLt x y else fLt x y || fEq x y
/-- Two numbers, if both are. -/
def numsB (f : Nat → Nat → Bool) : Option Nat → Option Nat → Bool
 | some x, some y => f x y
 | _, _ => false

theorem numsB_none (f : Nat → Nat → Bool) (o : Option Nat) : numsB f none o = false := rfl
theorem numsB_none' (f : Nat → Nat → Bool) (x : Nat) : numsB f (some x) none = false := rfl
theorem numsB_some (f : Nat → Nat → Bool) (x y : Nat) : numsB f (some x) (some y) = f x y := rfl

theorem flt_said {c : CellD} (h : CellOkD c) (hk : c.kind = 1) : fltOf (saidOf c) = some (floatOfInt .f64 c.n) := by
 unfold saidOf
 rw [if_pos hk]
 exact flt_int c.n h.lo h.hi
theorem flt_text {c : CellD} (hk : ¬ c.kind = 1) : fltOf (saidOf c) = fltOf c.text := by
 unfold saidOf
 rw [if_neg hk]

set_option maxHeartbeats 400000 in
theorem comparer_2 (x y : Nat) (w : World) : Calls Tryz.prog 122 #[.float .f64 x, .float .f64 y] w fun e w' => e = .returned (.bool (fCmp 2 x y)) ∧ w = w' := by
 go_enter Tryz.func122, Tryz.ntmps122
 go_wp2_with fail
 go_ret
 exact ⟨rfl, rfl⟩

set_option maxHeartbeats 1600000 in
set_option maxRecDepth 100000 in
theorem cmp_num_2 (tv : Value) (a : ByteArray) (c : CellD) (w : World) (ha : a.size ≤ 400) (hc : CellOkD c) :
  Calls Tryz.prog 121 #[tv, .string a, valI c, .func (Fn.func 122) #[] #[]] w (BoolOut (numsB (fCmp 2) (fltOf a) (fltOf (saidOf c))) w) := by
 have K := light_any a w ha
 cases hf : fltOf a with
 | none =>
  rw [hf] at K
  have K1 := Lib.hid K
  rw [numsB_none]
  generalize valI c = iv at *
  clear K hf hc
  go_enter Tryz.func121, Tryz.ntmps121
  go_wp2_with (go_at_call 117; (with_reducible refine K1.out.mono ?_); rintro e w1 ⟨⟨x, t, v, rfl⟩, hb⟩; have HB := Lib.hid hb; clear hb)
  go_ret
  exact ⟨rfl, HB.out⟩
 | some x =>
  rw [hf] at K
  have K1 := Lib.hid K
  clear K hf
  by_cases hk : c.kind = 1
  ·rw [flt_said hc hk, numsB_some]
   have hv : valI c = .iface 3 (.int .i64 c.n) := by unfold valI; rw [if_pos hk]
   rw [hv]
   have a1 := ta33 (.int .i64 c.n)
   generalize c.n = n at *
   clear hc hk hv
   go_enter Tryz.func121, Tryz.ntmps121
   go_wp2_with (first
    | (go_at_call 117; (with_reducible refine K1.out.mono ?_); rintro e w1 ⟨rfl, hb⟩; have HB := Lib.hid hb; clear hb)
    | (go_at_call 122; (with_reducible refine (comparer_2 _ _ _).mono ?_); rintro e w2 ⟨rfl, rfl⟩))
   go_ret
   exact ⟨rfl, HB.out⟩
  ·rw [flt_text hk]
   have hv : valI c = .iface 9 (.string c.text) := by unfold valI; rw [if_neg hk]
   rw [hv]
   have L := fun w => light_any c.text w hc.text
   generalize c.text = t at *
   have a1 := ta93 (.string t)
   have a2 := ta92 (.string t)
   have a3 := ta9f (.string t)
   have a4 := ta9g (.string t)
   have a5 := ta99 (.string t)
   cases hf : fltOf t with
   | none =>
    rw [hf] at L
    have K2 := Lib.hid L
    rw [numsB_none']
    clear hc hk hv L hf
    go_enter Tryz.func121, Tryz.ntmps121
    go_wp2_with (first
     | (go_at_call 117; (with_reducible refine K1.out.mono ?_); rintro e w1 ⟨rfl, hb⟩; have HB := Lib.hid hb; clear hb)
     | (go_at_call 117; (with_reducible refine (K2.out _).mono ?_); rintro e w2 ⟨⟨x2, t2, v2, rfl⟩, hb⟩; have HB2 := Lib.hid hb; clear hb))
    go_ret
    exact ⟨rfl, HB.out.trans (HB2.out.mono HB.out.size)⟩
   | some y =>
    rw [hf] at L
    have K2 := Lib.hid L
    rw [numsB_some]
    clear hc hk hv L hf
    go_enter Tryz.func121, Tryz.ntmps121
    go_wp2_with (first
     | (go_at_call 117; (with_reducible refine K1.out.mono ?_); rintro e w1 ⟨rfl, hb⟩; have HB := Lib.hid hb; clear hb)
     | (go_at_call 117; (with_reducible refine (K2.out _).mono ?_); rintro e w2 ⟨rfl, hb⟩; have HB2 := Lib.hid hb; clear hb)
     | (go_at_call 122; (with_reducible refine (comparer_2 _ _ _).mono ?_); rintro e w3 ⟨rfl, rfl⟩))
    go_ret
    exact ⟨rfl, HB.out.trans (HB2.out.mono HB.out.size)⟩

set_option maxHeartbeats 400000 in
theorem comparer_3 (x y : Nat) (w : World) : Calls Tryz.prog 123 #[.float .f64 x, .float .f64 y] w fun e w' => e = .returned (.bool (fCmp 3 x y)) ∧ w = w' := by
 go_enter Tryz.func123, Tryz.ntmps123
 go_wp2_with fail
 go_ret
 exact ⟨rfl, rfl⟩

set_option maxHeartbeats 1600000 in
set_option maxRecDepth 100000 in
theorem cmp_num_3 (tv : Value) (a : ByteArray) (c : CellD) (w : World) (ha : a.size ≤ 400) (hc : CellOkD c) :
  Calls Tryz.prog 121 #[tv, .string a, valI c, .func (Fn.func 123) #[] #[]] w (BoolOut (numsB (fCmp 3) (fltOf a) (fltOf (saidOf c))) w) := by
 have K := light_any a w ha
 cases hf : fltOf a with
 | none =>
  rw [hf] at K
  have K1 := Lib.hid K
  rw [numsB_none]
  generalize valI c = iv at *
  clear K hf hc
  go_enter Tryz.func121, Tryz.ntmps121
  go_wp2_with (go_at_call 117; (with_reducible refine K1.out.mono ?_); rintro e w1 ⟨⟨x, t, v, rfl⟩, hb⟩; have HB := Lib.hid hb; clear hb)
  go_ret
  exact ⟨rfl, HB.out⟩
 | some x =>
  rw [hf] at K
  have K1 := Lib.hid K
  clear K hf
  by_cases hk : c.kind = 1
  ·rw [flt_said hc hk, numsB_some]
   have hv : valI c = .iface 3 (.int .i64 c.n) := by unfold valI; rw [if_pos hk]
   rw [hv]
   have a1 := ta33 (.int .i64 c.n)
   generalize c.n = n at *
   clear hc hk hv
   go_enter Tryz.func121, Tryz.ntmps121
   go_wp2_with (first
    | (go_at_call 117; (with_reducible refine K1.out.mono ?_); rintro e w1 ⟨rfl, hb⟩; have HB := Lib.hid hb; clear hb)
    | (go_at_call 123; (with_reducible refine (comparer_3 _ _ _).mono ?_); rintro e w2 ⟨rfl, rfl⟩))
   go_ret
   exact ⟨rfl, HB.out⟩
  ·rw [flt_text hk]
   have hv : valI c = .iface 9 (.string c.text) := by unfold valI; rw [if_neg hk]
   rw [hv]
   have L := fun w => light_any c.text w hc.text
   generalize c.text = t at *
   have a1 := ta93 (.string t)
   have a2 := ta92 (.string t)
   have a3 := ta9f (.string t)
   have a4 := ta9g (.string t)
   have a5 := ta99 (.string t)
   cases hf : fltOf t with
   | none =>
    rw [hf] at L
    have K2 := Lib.hid L
    rw [numsB_none']
    clear hc hk hv L hf
    go_enter Tryz.func121, Tryz.ntmps121
    go_wp2_with (first
     | (go_at_call 117; (with_reducible refine K1.out.mono ?_); rintro e w1 ⟨rfl, hb⟩; have HB := Lib.hid hb; clear hb)
     | (go_at_call 117; (with_reducible refine (K2.out _).mono ?_); rintro e w2 ⟨⟨x2, t2, v2, rfl⟩, hb⟩; have HB2 := Lib.hid hb; clear hb))
    go_ret
    exact ⟨rfl, HB.out.trans (HB2.out.mono HB.out.size)⟩
   | some y =>
    rw [hf] at L
    have K2 := Lib.hid L
    rw [numsB_some]
    clear hc hk hv L hf
    go_enter Tryz.func121, Tryz.ntmps121
    go_wp2_with (first
     | (go_at_call 117; (with_reducible refine K1.out.mono ?_); rintro e w1 ⟨rfl, hb⟩; have HB := Lib.hid hb; clear hb)
     | (go_at_call 117; (with_reducible refine (K2.out _).mono ?_); rintro e w2 ⟨rfl, hb⟩; have HB2 := Lib.hid hb; clear hb)
     | (go_at_call 123; (with_reducible refine (comparer_3 _ _ _).mono ?_); rintro e w3 ⟨rfl, rfl⟩))
    go_ret
    exact ⟨rfl, HB.out.trans (HB2.out.mono HB.out.size)⟩

set_option maxHeartbeats 400000 in
theorem comparer_4 (x y : Nat) (w : World) : Calls Tryz.prog 124 #[.float .f64 x, .float .f64 y] w fun e w' => e = .returned (.bool (fCmp 4 x y)) ∧ w = w' := by
 go_enter Tryz.func124, Tryz.ntmps124
 go_wp2_with fail
 go_ret
 exact ⟨rfl, rfl⟩

set_option maxHeartbeats 1600000 in
set_option maxRecDepth 100000 in
theorem cmp_num_4 (tv : Value) (a : ByteArray) (c : CellD) (w : World) (ha : a.size ≤ 400) (hc : CellOkD c) :
  Calls Tryz.prog 121 #[tv, .string a, valI c, .func (Fn.func 124) #[] #[]] w (BoolOut (numsB (fCmp 4) (fltOf a) (fltOf (saidOf c))) w) := by
 have K := light_any a w ha
 cases hf : fltOf a with
 | none =>
  rw [hf] at K
  have K1 := Lib.hid K
  rw [numsB_none]
  generalize valI c = iv at *
  clear K hf hc
  go_enter Tryz.func121, Tryz.ntmps121
  go_wp2_with (go_at_call 117; (with_reducible refine K1.out.mono ?_); rintro e w1 ⟨⟨x, t, v, rfl⟩, hb⟩; have HB := Lib.hid hb; clear hb)
  go_ret
  exact ⟨rfl, HB.out⟩
 | some x =>
  rw [hf] at K
  have K1 := Lib.hid K
  clear K hf
  by_cases hk : c.kind = 1
  ·rw [flt_said hc hk, numsB_some]
   have hv : valI c = .iface 3 (.int .i64 c.n) := by unfold valI; rw [if_pos hk]
   rw [hv]
   have a1 := ta33 (.int .i64 c.n)
   generalize c.n = n at *
   clear hc hk hv
   go_enter Tryz.func121, Tryz.ntmps121
   go_wp2_with (first
    | (go_at_call 117; (with_reducible refine K1.out.mono ?_); rintro e w1 ⟨rfl, hb⟩; have HB := Lib.hid hb; clear hb)
    | (go_at_call 124; (with_reducible refine (comparer_4 _ _ _).mono ?_); rintro e w2 ⟨rfl, rfl⟩))
   go_ret
   exact ⟨rfl, HB.out⟩
  ·rw [flt_text hk]
   have hv : valI c = .iface 9 (.string c.text) := by unfold valI; rw [if_neg hk]
   rw [hv]
   have L := fun w => light_any c.text w hc.text
   generalize c.text = t at *
   have a1 := ta93 (.string t)
   have a2 := ta92 (.string t)
   have a3 := ta9f (.string t)
   have a4 := ta9g (.string t)
   have a5 := ta99 (.string t)
   cases hf : fltOf t with
   | none =>
    rw [hf] at L
    have K2 := Lib.hid L
    rw [numsB_none']
    clear hc hk hv L hf
    go_enter Tryz.func121, Tryz.ntmps121
    go_wp2_with (first
     | (go_at_call 117; (with_reducible refine K1.out.mono ?_); rintro e w1 ⟨rfl, hb⟩; have HB := Lib.hid hb; clear hb)
     | (go_at_call 117; (with_reducible refine (K2.out _).mono ?_); rintro e w2 ⟨⟨x2, t2, v2, rfl⟩, hb⟩; have HB2 := Lib.hid hb; clear hb))
    go_ret
    exact ⟨rfl, HB.out.trans (HB2.out.mono HB.out.size)⟩
   | some y =>
    rw [hf] at L
    have K2 := Lib.hid L
    rw [numsB_some]
    clear hc hk hv L hf
    go_enter Tryz.func121, Tryz.ntmps121
    go_wp2_with (first
     | (go_at_call 117; (with_reducible refine K1.out.mono ?_); rintro e w1 ⟨rfl, hb⟩; have HB := Lib.hid hb; clear hb)
     | (go_at_call 117; (with_reducible refine (K2.out _).mono ?_); rintro e w2 ⟨rfl, hb⟩; have HB2 := Lib.hid hb; clear hb)
     | (go_at_call 124; (with_reducible refine (comparer_4 _ _ _).mono ?_); rintro e w3 ⟨rfl, rfl⟩))
    go_ret
    exact ⟨rfl, HB.out.trans (HB2.out.mono HB.out.size)⟩

set_option maxHeartbeats 400000 in
theorem comparer_5 (x y : Nat) (w : World) : Calls Tryz.prog 125 #[.float .f64 x, .float .f64 y] w fun e w' => e = .returned (.bool (fCmp 5 x y)) ∧ w = w' := by
 go_enter Tryz.func125, Tryz.ntmps125
 go_wp2_with fail
 go_ret
 exact ⟨rfl, rfl⟩

set_option maxHeartbeats 1600000 in
set_option maxRecDepth 100000 in
theorem cmp_num_5 (tv : Value) (a : ByteArray) (c : CellD) (w : World) (ha : a.size ≤ 400) (hc : CellOkD c) :
  Calls Tryz.prog 121 #[tv, .string a, valI c, .func (Fn.func 125) #[] #[]] w (BoolOut (numsB (fCmp 5) (fltOf a) (fltOf (saidOf c))) w) := by
 have K := light_any a w ha
 cases hf : fltOf a with
 | none =>
  rw [hf] at K
  have K1 := Lib.hid K
  rw [numsB_none]
  generalize valI c = iv at *
  clear K hf hc
  go_enter Tryz.func121, Tryz.ntmps121
  go_wp2_with (go_at_call 117; (with_reducible refine K1.out.mono ?_); rintro e w1 ⟨⟨x, t, v, rfl⟩, hb⟩; have HB := Lib.hid hb; clear hb)
  go_ret
  exact ⟨rfl, HB.out⟩
 | some x =>
  rw [hf] at K
  have K1 := Lib.hid K
  clear K hf
  by_cases hk : c.kind = 1
  ·rw [flt_said hc hk, numsB_some]
   have hv : valI c = .iface 3 (.int .i64 c.n) := by unfold valI; rw [if_pos hk]
   rw [hv]
   have a1 := ta33 (.int .i64 c.n)
   generalize c.n = n at *
   clear hc hk hv
   go_enter Tryz.func121, Tryz.ntmps121
   go_wp2_with (first
    | (go_at_call 117; (with_reducible refine K1.out.mono ?_); rintro e w1 ⟨rfl, hb⟩; have HB := Lib.hid hb; clear hb)
    | (go_at_call 125; (with_reducible refine (comparer_5 _ _ _).mono ?_); rintro e w2 ⟨rfl, rfl⟩))
   go_ret
   exact ⟨rfl, HB.out⟩
  ·rw [flt_text hk]
   have hv : valI c = .iface 9 (.string c.text) := by unfold valI; rw [if_neg hk]
   rw [hv]
   have L := fun w => light_any c.text w hc.text
   generalize c.text = t at *
   have a1 := ta93 (.string t)
   have a2 := ta92 (.string t)
   have a3 := ta9f (.string t)
   have a4 := ta9g (.string t)
   have a5 := ta99 (.string t)
   cases hf : fltOf t with
   | none =>
    rw [hf] at L
    have K2 := Lib.hid L
    rw [numsB_none']
    clear hc hk hv L hf
    go_enter Tryz.func121, Tryz.ntmps121
    go_wp2_with (first
     | (go_at_call 117; (with_reducible refine K1.out.mono ?_); rintro e w1 ⟨rfl, hb⟩; have HB := Lib.hid hb; clear hb)
     | (go_at_call 117; (with_reducible refine (K2.out _).mono ?_); rintro e w2 ⟨⟨x2, t2, v2, rfl⟩, hb⟩; have HB2 := Lib.hid hb; clear hb))
    go_ret
    exact ⟨rfl, HB.out.trans (HB2.out.mono HB.out.size)⟩
   | some y =>
    rw [hf] at L
    have K2 := Lib.hid L
    rw [numsB_some]
    clear hc hk hv L hf
    go_enter Tryz.func121, Tryz.ntmps121
    go_wp2_with (first
     | (go_at_call 117; (with_reducible refine K1.out.mono ?_); rintro e w1 ⟨rfl, hb⟩; have HB := Lib.hid hb; clear hb)
     | (go_at_call 117; (with_reducible refine (K2.out _).mono ?_); rintro e w2 ⟨rfl, hb⟩; have HB2 := Lib.hid hb; clear hb)
     | (go_at_call 125; (with_reducible refine (comparer_5 _ _ _).mono ?_); rintro e w3 ⟨rfl, rfl⟩))
    go_ret
    exact ⟨rfl, HB.out.trans (HB2.out.mono HB.out.size)⟩

end Go.Proofs.YtgolhmiocjpohaaGreatDoor
