/- The shelf's contract of strings' Clone, laid at this program. The error that Go's own reading hands back (94, 75, 59). Go's strconv.ParseFloat (59) refuses words that are no names, and the empty text; toError (75). -/
import Derived.Shelf.LaysM
import Derived.Shelf.LaysC
import Derived.Shelf.Strconv.Clone
import Derived.Test.YtgolhmiocjpohaaGreatDoorLay0
import Derived.Test.YtgolhmiocjpohaaGreatDoorLight4
import Derived.Test.YtgolhmiocjpohaaGreatDoorSl1
import Derived.Lib.IfaceEq
set_option linter.unusedVariables false
set_option linter.unusedSimpArgs false
namespace Go.Proofs.YtgolhmiocjpohaaGreatDoor
open Go.RowKit
theorem std_clone (s : ByteArray) (w : World) (hlim : s.size ≤ 281474976710656) :
  Calls Tryz.prog 132 #[.string s] w fun e w' => e = .returned (.string s) ∧ Below w.heap.size w w' := Any.stringslite_Clone Tryz.laysM316 s w hlim
end Go.Proofs.YtgolhmiocjpohaaGreatDoor

namespace Go.Proofs.YtgolhmiocjpohaaGreatDoor
open Go.RowKit Go.PlainAid

set_option maxHeartbeats 1600000 in
set_option maxRecDepth 100000 in
theorem std_syntax (a s : ByteArray) (w : World) (hs : s.size ≤ 2147483647) (hg : Glob w) : Calls Tryz.prog 94 #[.string a, .string s] w fun e w' => (∃ p, e = .returned (.pointer p)) ∧ Below w.heap.size w w' := by
 obtain ⟨t, x, hx⟩ := hg.es
 have hz := hg.sz
 have C : ∀ wx, wx.heap = w.heap → Hid (Calls Tryz.prog 132 #[.string s] wx fun e w' => e = .returned (.string s) ∧ Below wx.heap.size wx w') := fun wx _ => std_clone s wx (by omega)
 have h6 : ∀ wx w', wx.heap = w.heap → Below wx.heap.size wx w' → w'.cell? ⟨6, 0, none⟩ = some (.iface t x) := fun wx w' e hb => by
  rw [hb.cell (p := ⟨6, 0, none⟩) (by rw [e]; show 6 < _; omega), cell_heap_eq e]; exact hx
 clear hg
 go_enter Tryz.func94, Tryz.ntmps94
 go_wp2_with fail
 go_region_with (go_at_call 132; refine (C w.drew rfl).out.mono ?_; rintro e w2 ⟨rfl, hb2⟩; have h6' := h6 w.drew w2 rfl hb2; have HB2 := Lib.hid hb2; clear hb2)
 all_goals
  go_wp2_with fail
  go_ret
  exact ⟨⟨_, rfl⟩, ((Below.refl _ _).drew.trans HB2.out).alloc (((Below.refl _ _).drew.trans HB2.out).size) _⟩

end Go.Proofs.YtgolhmiocjpohaaGreatDoor

namespace Go.Proofs.YtgolhmiocjpohaaGreatDoor
open Go.RowKit Go.PlainAid

theorem comp180 : (Tryz.prog.info? 180).map (·.comparable) = some true := by kernel_rfl

theorem err_eql (W : World) : (binOp .eql 127 (.iface 180 (.int .i64 2)) (.iface 180 (.int .i64 2))).run Tryz.prog W = .ok (.bool true) W :=
 Lib.run_eql_iface_int W 2 2 Tryz.underlying127 comp180 Tryz.underlying180

set_option maxHeartbeats 1600000 in
set_option maxRecDepth 100000 in
theorem std_toError (a s : ByteArray) (b c : Int) (w : World) (hs : s.size ≤ 2147483647) (hg : Glob w) :
  Calls Tryz.prog 75 #[.string a, .string s, .int .i64 b, .int .i64 c, .iface 180 (.int .i64 2)] w fun e w' => (∃ t v, e = .returned (.iface t v)) ∧ Below w.heap.size w w' := by
 have K := Lib.hid (std_syntax a s w hs hg)
 have heq := err_eql
 go_enter Tryz.func75, Tryz.ntmps75
 go_wp2_with (go_at_call 94; (with_reducible refine K.out.mono ?_); rintro e w1 ⟨⟨p, rfl⟩, hb⟩; have HB := Lib.hid hb; clear hb)
 go_ret
 exact ⟨⟨_, _, rfl⟩, HB.out⟩

end Go.Proofs.YtgolhmiocjpohaaGreatDoor
