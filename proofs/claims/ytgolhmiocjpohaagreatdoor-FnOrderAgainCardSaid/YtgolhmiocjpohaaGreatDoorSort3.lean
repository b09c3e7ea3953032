/- sort.heapSort_func (110). -/
import Derived.Test.YtgolhmiocjpohaaGreatDoorSort2
set_option linter.unusedVariables false
set_option linter.unusedSimpArgs false
namespace Go.Proofs.YtgolhmiocjpohaaGreatDoor
open Go.RowKit Go.Sort

theorem sort_sift_at {w0 : World} {g n m : Nat} {lt : Nat → Nat → Bool} {gl : Nat} {lb : Array Value} {sf : Nat} {sb : Array Value} (E : SortEnv w0 g n m lt gl lb sf sb) (d : Array Nat) (w : World) (hw : Moved g n m d w0 w) (lo hi first : Nat) (x y z : Int) (hx : x = (lo : Int)) (hy : y = (hi : Int)) (hz : z = (first : Int)) (hb : first + hi ≤ n) (hlo : lo ≤ n) :
    Calls Tryz.prog 135 #[.agg #[.func (.func gl) #[] lb, .func (.func sf) #[] sb], .int .i64 x, .int .i64 y, .int .i64 z] w (SortsTo g n m (siftDown lt hi first lo d) w) := by
  subst hx hy hz
  exact sort_sift E d w hw lo hi first hb hlo

set_option maxHeartbeats 3200000 in
set_option maxRecDepth 100000 in
theorem sort_heap {w0 : World} {g n m : Nat} {lt : Nat → Nat → Bool} {gl : Nat} {lb : Array Value} {sf : Nat} {sb : Array Value} (E : SortEnv w0 g n m lt gl lb sf sb) (d : Array Nat) (w : World) (hw : Moved g n m d w0 w) (a b : Nat) (hab : a < b) (hb : b ≤ n) :
    Calls Tryz.prog 110 #[.agg #[.func (.func gl) #[] lb, .func (.func sf) #[] sb], .int .i64 a, .int .i64 b] w (SortsTo g n m (heapSort lt d a b) w) := by
  have HE := Lib.hid E
  have eg := E.enter
  have hn := E.hn
  have HS := Lib.hid (InS.start (gl := gl) (lb := lb) (sf := sf) (sb := sb) hw)
  have HW0 := Lib.hid hw
  clear E hw
  go_enter Tryz.func110, Tryz.ntmps110
  go_wp2
  go_loopw [9] (fun v wr => ∃ (k : Nat) (dk : Array Nat), v = .int .i64 ((k : Int) - 1) ∧ k ≤ (b - a - 1) / 2 + 1 ∧ InS g n m w.heap.size gl lb sf sb dk w wr ∧ heapBuild lt (b - a) a k dk = heapBuild lt (b - a) a ((b - a - 1) / 2 + 1) d) (fun v _ => (intOf v + 1).toNat)
  case atStart => exact ⟨(b - a - 1) / 2 + 1, d, by congr 1; omega, Nat.le_refl _, HS.out, rfl⟩
  case round =>
    obtain ⟨k, dk, rfl, hk, hs, hO⟩ := hrel
    have hc0 := hs.c0
    have hc1 := hs.c1
    have HK := Lib.hid hs
    have HO := Lib.hid hO
    clear hs hO
    cases k with
    | succ k =>
      go_wp2_with (go_at_call 135; refine (sort_sift_at HE.out dk wr (HW0.out.trans HK.out.mv) k (b - a) a _ _ _ (by omega) (by omega) (by omega) (by omega) (by omega)).mono ?_; rintro e w' ⟨rfl, hm⟩; have HK1 := Lib.hid (HK.out.moved (hm)); clear hm)
      go_roundw
      case rel => exact ⟨k, _, by congr 1 <;> omega, by omega, HK1.out, by rw [← HO.out, heapBuild]⟩
      case measure => simp [intOf]
    | zero =>
      rw [show (((0 : Nat) : Int) - 1) = -1 from rfl]
      go_wp2
      go_loopw [10] (fun v wr => ∃ (k : Nat) (dk : Array Nat), v = .int .i64 ((k : Int) - 1) ∧ k ≤ b - a ∧ InS g n m w.heap.size gl lb sf sb dk w wr ∧ heapPop lt a k dk = heapSort lt d a b) (fun v _ => (intOf v + 1).toNat)
      case atStart => exact ⟨b - a, dk, by congr 1; omega, Nat.le_refl _, HK.out, by unfold heapSort; rw [← HO.out, heapBuild]⟩
      case round =>
        clear hc0 hc1
        obtain ⟨k, dj, rfl, hk2, hs, hP⟩ := hrel
        have hc0 := hs.c0
        have hc1 := hs.c1
        have HJ := Lib.hid hs
        have HP := Lib.hid hP
        clear hs hP
        cases k with
        | succ k =>
          go_wp2
          obtain ⟨w3, hrun, hs3⟩ := HJ.out.swap HE.out HW0.out a (a + k) (by omega) (by omega)
          have hc0' := hs3.c0
          have hc1' := hs3.c1
          have HKC := Lib.hid hs3
          clear hs3
          rw [hrun _ _ (by omega) (by omega), Oper.upon_value]
          clear hrun
          go_wp2_with (go_at_call 135; refine (sort_sift_at HE.out _ _ (HW0.out.trans HKC.out.mv) 0 k a _ _ _ (by omega) (by omega) (by omega) (by omega) (by omega)).mono ?_; rintro e w' ⟨rfl, hm⟩; have HK1 := Lib.hid (HKC.out.moved (hm)); clear hm)
          go_roundw
          case rel => exact ⟨k, _, by congr 1 <;> omega, by omega, HK1.out, by rw [← HP.out, heapPop]⟩
          case measure => simp [intOf]
        | zero =>
          go_wp2
          go_end0
          refine ⟨rfl, ?_⟩
          rw [← HP.out, heapPop]
          exact HJ.out.mv

end Go.Proofs.YtgolhmiocjpohaaGreatDoor
