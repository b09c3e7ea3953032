/- Go's own reading of floats (131, 93, 74) refuses words that are no names, and the empty text. The shelf's contract of strings' Clone, laid at this program. The error that Go's own reading hands back (94, 75, 59). Go's strconv.ParseFloat (59) refuses words that are no names, and the empty text; toError (75). -/
import Derived.Test.YtgolhmiocjpohaaGreatDoorStd3
import Derived.Test.YtgolhmiocjpohaaGreatDoorLay0
import Derived.Shelf.LaysM
import Derived.Shelf.LaysC
import Derived.Shelf.Strconv.Clone
import Derived.Test.YtgolhmiocjpohaaGreatDoorSpec1
import Derived.Lib.IfaceEq
set_option linter.unusedVariables false
set_option linter.unusedSimpArgs false
namespace Go.Proofs.YtgolhmiocjpohaaGreatDoor
open Go.RowKit Go.PlainAid

/-- What is asked of a text to be no number. -/
structure NoNum (s : ByteArray) : Prop where
  head : NoHead s
  sp : ∀ w, Calls Tryz.prog 153 #[.string s] w (NoName s w)

/-- A post of atof64: an error, or not to the text's end. -/
def AtofNo (s : ByteArray) (w : World) (e : Ending) (w' : World) : Prop :=
  ∃ (x : Nat) (n : Int) (v : Value), e = .returned (.tuple #[.float .f64 x, .int .i64 n, v]) ∧ (n ≠ s.size ∧ v = .nilIface ∨ v = .iface 180 (.int .i64 2)) ∧ w = w'

set_option maxHeartbeats 3200000 in
set_option maxRecDepth 100000 in
theorem std_atof_none (s : ByteArray) (w : World) (hs : s.size ≤ 2147483647) (h : NoNum s) : Calls Tryz.prog 131 #[.string s] w (AtofNo s w) := by
  have K1 := Lib.hid h.sp
  have K2 := Lib.hid (fun w => std_read_none s w hs h.head)
  clear h
  go_enter Tryz.func131, Tryz.ntmps131
  go_wp2_with (first
    | (go_at_call 153; (with_reducible refine (K1.out _).mono ?_); rintro e w1 ⟨x, n, ok, rfl, hok, rfl⟩; have HOK := Lib.hid hok; clear hok)
    | (go_at_call 154; (with_reducible refine (K2.out _).mono ?_); rintro e w1 ⟨m, x', n', a, b, c, rfl, rfl⟩))
  all_goals
    go_ret3
    first
      | exact ⟨_, _, _, rfl, Or.inr rfl, rfl⟩
      | exact ⟨_, _, _, rfl, Or.inl ⟨by have := HOK.out (by first | rfl | assumption); omega, rfl⟩, rfl⟩

set_option maxHeartbeats 1600000 in
set_option maxRecDepth 100000 in
theorem std_parse_none (s : ByteArray) (w : World) (hs : s.size ≤ 2147483647) (h : NoNum s) : Calls Tryz.prog 74 #[.string s, .int .i64 64] w fun e w' => (∃ x, e = .returned (.tuple #[.float .f64 x, .iface 180 (.int .i64 2)])) ∧ w = w' := by
  have K1 := Lib.hid (fun w => std_atof_none s w hs h)
  clear h
  have K93 : Hid (∀ w, Calls Tryz.prog 93 #[.string s, .int .i64 64] w (AtofNo s w)) := by
    intro w
    go_enter Tryz.func93, Tryz.ntmps93
    go_wp2_with (go_at_call 131; (with_reducible refine (K1.out _).mono ?_); rintro e w1 ⟨x, n, v, rfl, hv, rfl⟩; have HV := Lib.hid hv; clear hv)
    go_ret3
    exact ⟨_, _, _, rfl, HV.out, rfl⟩
  go_enter Tryz.func74, Tryz.ntmps74
  go_wp2_with (go_at_call 93; (with_reducible refine (K93.out _).mono ?_); rintro e w1 ⟨x, n, v, rfl, hv, rfl⟩; have HV := Lib.hid hv; clear hv)
  all_goals
    go_ret2
    first
      | exact ⟨⟨_, rfl⟩, rfl⟩
      | (rcases HV.out with ⟨h1, h2⟩ | h2
         · exfalso; simp_all
         · subst h2; exact ⟨⟨_, rfl⟩, rfl⟩)

end Go.Proofs.YtgolhmiocjpohaaGreatDoor

namespace Go.Proofs.YtgolhmiocjpohaaGreatDoor
open Go.RowKit
theorem std_clone (s : ByteArray) (w : World) (hlim : s.size ≤ 281474976710656) :
    Calls Tryz.prog 132 #[.string s] w fun e w' => e = .returned (.string s) ∧ Below w.heap.size w w' := Any.stringslite_Clone Tryz.laysM316 s w hlim
end Go.Proofs.YtgolhmiocjpohaaGreatDoor

set_option linter.unusedVariables false
set_option linter.unusedSimpArgs false
namespace Go.Proofs.YtgolhmiocjpohaaGreatDoor
open Go.RowKit Go.PlainAid

set_option maxHeartbeats 1600000 in
set_option maxRecDepth 100000 in
theorem std_syntax (a s : ByteArray) (w : World) (hs : s.size ≤ 2147483647) (hg : Glob w) : Calls Tryz.prog 94 #[.string a, .string s] w fun e w' => (∃ p, e = .returned (.pointer p)) ∧ Below w.heap.size w w' := by
  obtain ⟨t, x, hx⟩ := hg.es
  have hz := hg.sz
  have C : ∀ wx, wx.heap = w.heap → Hid (Calls Tryz.prog 132 #[.string s] wx fun e w' => e = .returned (.string s) ∧ Below wx.heap.size wx w') := fun wx _ => std_clone s wx (by omega)
  have h6 : ∀ wx w', wx.heap = w.heap → Below wx.heap.size wx w' → w'.cell? ⟨6, 0, none⟩ = some (.iface t x) := fun wx w' e hb => by
    rw [hb.cell (p := ⟨6, 0, none⟩) (by rw [e]; show 6 < _; omega), cell_heap_eq e]; exact hx
  clear hg
  go_enter Tryz.func94, Tryz.ntmps94
  go_wp2_with fail
  go_region_with (go_at_call 132; refine (C w.drew rfl).out.mono ?_; rintro e w2 ⟨rfl, hb2⟩; have h6' := h6 w.drew w2 rfl hb2; have HB2 := Lib.hid hb2; clear hb2)
  all_goals
    go_wp2_with fail
    go_ret
    exact ⟨⟨_, rfl⟩, ((Below.refl _ _).drew.trans HB2.out).alloc (((Below.refl _ _).drew.trans HB2.out).size) _⟩

end Go.Proofs.YtgolhmiocjpohaaGreatDoor

set_option linter.unusedVariables false
set_option linter.unusedSimpArgs false
namespace Go.Proofs.YtgolhmiocjpohaaGreatDoor
open Go.RowKit Go.PlainAid

theorem comp180 : (Tryz.prog.info? 180).map (·.comparable) = some true := by kernel_rfl

theorem err_eql (W : World) : (binOp .eql 127 (.iface 180 (.int .i64 2)) (.iface 180 (.int .i64 2))).run Tryz.prog W = .ok (.bool true) W :=
  Lib.run_eql_iface_int W 2 2 Tryz.underlying127 comp180 Tryz.underlying180

set_option maxHeartbeats 1600000 in
set_option maxRecDepth 100000 in
theorem std_toError (a s : ByteArray) (b c : Int) (w : World) (hs : s.size ≤ 2147483647) (hg : Glob w) :
    Calls Tryz.prog 75 #[.string a, .string s, .int .i64 b, .int .i64 c, .iface 180 (.int .i64 2)] w fun e w' => (∃ t v, e = .returned (.iface t v)) ∧ Below w.heap.size w w' := by
  have K := Lib.hid (std_syntax a s w hs hg)
  have heq := err_eql
  go_enter Tryz.func75, Tryz.ntmps75
  go_wp2_with (go_at_call 94; (with_reducible refine K.out.mono ?_); rintro e w1 ⟨⟨p, rfl⟩, hb⟩; have HB := Lib.hid hb; clear hb)
  go_ret
  exact ⟨⟨_, _, rfl⟩, HB.out⟩

set_option maxHeartbeats 1600000 in
set_option maxRecDepth 100000 in
theorem std_none (s : ByteArray) (w : World) (hs : s.size ≤ 2147483647) (h : NoNum s) (hg : Glob w) :
    Calls Tryz.prog 59 #[.string s, .int .i64 64] w (NumIs none w) := by
  have K1 := Lib.hid (std_parse_none s w hs h)
  have K2 := Lib.hid (fun a b c => std_toError a s b c w hs hg)
  clear h hg
  go_enter Tryz.func59, Tryz.ntmps59
  go_wp2_with (first
    | (go_at_call 74; (with_reducible refine K1.out.mono ?_); rintro e w1 ⟨⟨x, rfl⟩, rfl⟩)
    | (go_at_call 75; (with_reducible refine (K2.out _ _ _).mono ?_); rintro e w1 ⟨⟨t, v, rfl⟩, hb⟩; have HB := Lib.hid hb; clear hb))
  go_ret2
  exact ⟨⟨_, _, _, rfl⟩, HB.out⟩

end Go.Proofs.YtgolhmiocjpohaaGreatDoor
