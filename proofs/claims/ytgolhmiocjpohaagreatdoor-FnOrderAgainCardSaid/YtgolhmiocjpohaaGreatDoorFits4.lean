/- The guards zzFits4 (27) and zzFits19 (11): nothing is longer than they say. No condition beyond a bound on the lengths. -/
import Derived.Test.YtgolhmiocjpohaaGreatDoorBase
namespace Go.Proofs.YtgolhmiocjpohaaGreatDoor
open Go.RowKit

set_option maxHeartbeats 400000 in
theorem fits4 (w : World) (A : Option Addr) (c : Nat) (ss : List ByteArray) (h : StrsAt w A ss) (hl : ss.length ≤ maxLen) :
    Calls Tryz.prog 27 #[.slice A ss.length c] w (BoolThat (fun b => b = true → ss.length ≤ 2147483647 ∧ ∀ i, i < ss.length → (sAt ss i).size ≤ 2147483647) w) := by
  unfold maxLen at hl
  by_cases h0 : 2147483647 < ss.length
  · have d0 : decide (2147483647 < ss.length) = true := decide_eq_true h0
    go_enter Tryz.func27, Tryz.ntmps27
    go_wp2
    go_ret
    exact ⟨_, rfl, by simp, rfl⟩
  · have d0 : decide (2147483647 < ss.length) = false := decide_eq_false h0
    go_enter Tryz.func27, Tryz.ntmps27
    go_wp2
    go_loop [10] (fun v => ∃ k : Nat, v = .int .i64 k ∧ k ≤ ss.length ∧ ∀ i, i < k → (sAt ss i).size ≤ 2147483647) (fun v => ss.length - (intOf v).toNat)
    case atStart => exact ⟨0, rfl, by omega, by omega⟩
    case round =>
      obtain ⟨k, rfl, hk, hall⟩ := hrel
      have HALL := Lib.hid hall
      clear hall
      by_cases hlt : k < ss.length
      · obtain ⟨b, o, rfl, hb, hc⟩ := h.get hlt
        clear h
        have HB : Hid (b < w.heap.size) := hb
        clear hb
        by_cases h2 : 2147483647 < (sAt ss k).size
        · have d2 : decide (2147483647 < (sAt ss k).size) = true := decide_eq_true h2
          go_wp2
          go_ret
          exact ⟨_, rfl, by simp, rfl⟩
        · have d2 : decide (2147483647 < (sAt ss k).size) = false := decide_eq_false h2
          go_wp2
          go_round
          case rel => exact ⟨k + 1, by go_num, by omega, fun i hi => by
            by_cases e : i = k
            · rw [e]; omega
            · exact HALL.out i (by omega)⟩
          case measure => simp [intOf]; omega
      · go_wp2
        go_ret
        exact ⟨_, rfl, fun _ => ⟨by omega, fun i hi => HALL.out i (by omega)⟩, rfl⟩

set_option maxHeartbeats 400000 in
theorem fits19 (w : World) (A : Option Addr) (c : Nat) (rows : List (List ByteArray)) (h : RowsAt w A rows) (hl : rows.length ≤ maxLen) (hr : ∀ x, x < rows.length → (rowAt rows x).length ≤ maxLen) :
    Calls Tryz.prog 11 #[.slice A rows.length c] w (BoolThat (fun b => b = true → rows.length ≤ 2147483647 ∧ ∀ x, x < rows.length → (rowAt rows x).length ≤ 2147483647 ∧ ∀ i, i < (rowAt rows x).length → (sAt (rowAt rows x) i).size ≤ 2147483647) w) := by
  have HR := Lib.hid hr
  clear hr
  unfold maxLen at hl
  by_cases h0 : 2147483647 < rows.length
  · have d0 : decide (2147483647 < rows.length) = true := decide_eq_true h0
    go_enter Tryz.func11, Tryz.ntmps11
    go_wp2
    go_ret
    exact ⟨_, rfl, by simp, rfl⟩
  · have d0 : decide (2147483647 < rows.length) = false := decide_eq_false h0
    go_enter Tryz.func11, Tryz.ntmps11
    go_wp2_with fail
    go_loop [10] (fun v => ∃ k : Nat, v = .int .i64 k ∧ k ≤ rows.length ∧ ∀ x, x < k → (rowAt rows x).length ≤ 2147483647 ∧ ∀ i, i < (rowAt rows x).length → (sAt (rowAt rows x) i).size ≤ 2147483647) (fun v => rows.length - (intOf v).toNat)
    case atStart => exact ⟨0, rfl, by omega, by omega⟩
    case round =>
      obtain ⟨k, rfl, hk, hall⟩ := hrel
      have HALL := Lib.hid hall
      clear hall
      by_cases hlt : k < rows.length
      · obtain ⟨b, o, A', c', rfl, hb, hc, hs⟩ := h.get hlt
        have HF := Lib.hid (fits4 w A' c' (rowAt rows k) hs (HR.out k hlt))
        generalize hrow : rowAt rows k = row at *
        have HROW := Lib.hid hrow
        have HB : Hid (b < w.heap.size) := hb
        clear hb h hs hrow
        go_wp2_with (go_at_call 27; (with_reducible refine HF.out.mono ?_); rintro e w1 ⟨bb, rfl, hbb, rfl⟩; have HBB := Lib.hid hbb; clear hbb; cases bb)
        · go_wp2_with fail
          go_ret
          exact ⟨_, rfl, by simp, rfl⟩
        · go_wp2_with fail
          go_round
          case rel => exact ⟨k + 1, by go_num, by omega, fun i hi => by
            by_cases e : i = k
            · subst e; rw [HROW.out]; first | exact HBB.out rfl | exact HBB.out trivial
            · exact HALL.out i (by omega)⟩
          case measure => simp [intOf]; omega
      · go_wp2_with fail
        go_ret
        exact ⟨_, rfl, fun _ => ⟨by omega, fun i hi => HALL.out i (by omega)⟩, rfl⟩

end Go.Proofs.YtgolhmiocjpohaaGreatDoor
