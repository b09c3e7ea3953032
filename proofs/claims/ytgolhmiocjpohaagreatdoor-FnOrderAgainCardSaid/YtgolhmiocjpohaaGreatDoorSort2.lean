/- sort.siftDown_func (135), sort.heapSort_func (110). -/
import Derived.Test.YtgolhmiocjpohaaGreatDoorSort0
set_option linter.unusedVariables false
set_option linter.unusedSimpArgs false
namespace Go.Proofs.YtgolhmiocjpohaaGreatDoor
open Go.RowKit Go.Sort

theorem siftDown_end (lt : Nat → Nat → Bool) (hi first root : Nat) (d : Array Nat) (h : hi ≤ 2 * root + 1) : siftDown lt hi first root d = d := by rw [siftDown, dif_pos h]

/-- The child that a round of siftDown looks at. -/
def kid (lt : Nat → Nat → Bool) (hi first root : Nat) (d : Array Nat) : Nat := if 2 * root + 2 < hi ∧ lt d[first + (2 * root + 1)]! d[first + (2 * root + 2)]! = true then 2 * root + 2 else 2 * root + 1

theorem siftDown_kid (lt : Nat → Nat → Bool) (hi first root : Nat) (d : Array Nat) (h : ¬ hi ≤ 2 * root + 1) :
    siftDown lt hi first root d = if lt d[first + root]! d[first + kid lt hi first root d]! then siftDown lt hi first (kid lt hi first root d) (swp d (first + root) (first + kid lt hi first root d)) else d := by
  rw [siftDown, dif_neg h]
  unfold kid
  have e : first + (2 * root + 1) + 1 = first + (2 * root + 2) := by omega
  rw [e]
  by_cases h2 : 2 * root + 2 < hi
  · cases hl : lt d[first + (2 * root + 1)]! d[first + (2 * root + 2)]!
    · simp [h2]; split <;> simp_all
    · simp [h2]; split <;> simp_all
  · have : ¬ (2 * root + 1 + 1 < hi) := by omega
    simp [h2, this]; split <;> simp_all

set_option maxHeartbeats 3200000 in
set_option maxRecDepth 100000 in
theorem sort_sift {w0 : World} {g n m : Nat} {lt : Nat → Nat → Bool} {gl : Nat} {lb : Array Value} {sf : Nat} {sb : Array Value} (E : SortEnv w0 g n m lt gl lb sf sb) (d : Array Nat) (w : World) (hw : Moved g n m d w0 w) (lo hi first : Nat) (hb : first + hi ≤ n) (hlo : lo ≤ n) :
    Calls Tryz.prog 135 #[.agg #[.func (.func gl) #[] lb, .func (.func sf) #[] sb], .int .i64 lo, .int .i64 hi, .int .i64 first] w (SortsTo g n m (siftDown lt hi first lo d) w) := by
  have HE := Lib.hid E
  have eg := E.enter
  have hn := E.hn
  have HS := Lib.hid (InS.start (gl := gl) (lb := lb) (sf := sf) (sb := sb) hw)
  have HW0 := Lib.hid hw
  clear E hw
  go_enter Tryz.func135, Tryz.ntmps135
  go_wp2
  go_loopw [8] (fun v wr => ∃ (root : Nat) (dk : Array Nat), v = .int .i64 root ∧ root ≤ n ∧ InS g n m w.heap.size gl lb sf sb dk w wr ∧ siftDown lt hi first root dk = siftDown lt hi first lo d) (fun v _ => hi + 1 - (intOf v).toNat)
  case atStart => exact ⟨lo, d, rfl, by omega, HS.out, rfl⟩
  case round =>
    obtain ⟨root, dk, rfl, hrn, hs, hO⟩ := hrel
    have hc0 := hs.c0
    have hc1 := hs.c1
    have HK := Lib.hid hs
    have HO := Lib.hid hO
    clear hs hO
    by_cases h1 : hi ≤ 2 * root + 1
    · have d1 : decide ((hi : Int) ≤ 2 * root + 1) = true := by simp; omega
      go_wp2
      go_end0
      refine ⟨rfl, ?_⟩
      rw [← HO.out, siftDown_end _ _ _ _ _ h1]
      exact HK.out.mv
    · have HR := Lib.hid (siftDown_kid lt hi first root dk h1)
      by_cases h2 : 2 * root + 2 < hi
      · cases hlv : lt dk[first + (2 * root + 1)]! dk[first + (2 * root + 2)]! with
        | true =>
          have hk : kid lt hi first root dk = 2 * root + 2 := by unfold kid; simp [h2, hlv]
          rw [hk] at HR
          clear hk
          cases hlv2 : lt dk[first + root]! dk[first + (2 * root + 2)]! with
          | true =>
            go_wp2_with (first | (go_at_fn gl; refine (HK.out.less HE.out HW0.out (first + (2 * root + 1)) (first + (2 * root + 2)) _ _ (by omega) (by omega) (by omega) (by omega)).mono ?_; rw [hlv]; rintro e w' ⟨rfl, hs1⟩; have hHKA0 := hs1.c0; have hHKA1 := hs1.c1; have HKA := Lib.hid hs1; clear hs1) | (go_at_fn gl; refine (HKA.out.less HE.out HW0.out (first + root) (first + (2 * root + 2)) _ _ (by omega) (by omega) (by omega) (by omega)).mono ?_; rw [hlv2]; rintro e w' ⟨rfl, hs1⟩; have hHKB0 := hs1.c0; have hHKB1 := hs1.c1; have HKB := Lib.hid hs1; clear hs1))
            obtain ⟨w3, hrun, hs3⟩ := HKB.out.swap HE.out HW0.out (first + root) (first + (2 * root + 2)) (by omega) (by omega)
            have HKC := Lib.hid hs3
            clear hs3
            rw [hrun _ _ (by omega) (by omega), Oper.upon_value]
            clear hrun
            go_wp2
            go_roundw
            case rel => exact ⟨2 * root + 2, _, by congr 1 <;> omega, by omega, HKC.out, by rw [← HO.out, HR.out, if_pos hlv2]⟩
            case measure => simp [intOf]; omega
          | false =>
            go_wp2_with (first | (go_at_fn gl; refine (HK.out.less HE.out HW0.out (first + (2 * root + 1)) (first + (2 * root + 2)) _ _ (by omega) (by omega) (by omega) (by omega)).mono ?_; rw [hlv]; rintro e w' ⟨rfl, hs1⟩; have hHKA0 := hs1.c0; have hHKA1 := hs1.c1; have HKA := Lib.hid hs1; clear hs1) | (go_at_fn gl; refine (HKA.out.less HE.out HW0.out (first + root) (first + (2 * root + 2)) _ _ (by omega) (by omega) (by omega) (by omega)).mono ?_; rw [hlv2]; rintro e w' ⟨rfl, hs1⟩; have hHKB0 := hs1.c0; have hHKB1 := hs1.c1; have HKB := Lib.hid hs1; clear hs1))
            go_end0
            refine ⟨rfl, ?_⟩
            rw [← HO.out, HR.out, if_neg (by rw [hlv2]; simp)]
            exact HKB.out.mv
        | false =>
          have hk : kid lt hi first root dk = 2 * root + 1 := by unfold kid; simp [h2, hlv]
          rw [hk] at HR
          clear hk
          cases hlv2 : lt dk[first + root]! dk[first + (2 * root + 1)]! with
          | true =>
            go_wp2_with (first | (go_at_fn gl; refine (HK.out.less HE.out HW0.out (first + (2 * root + 1)) (first + (2 * root + 2)) _ _ (by omega) (by omega) (by omega) (by omega)).mono ?_; rw [hlv]; rintro e w' ⟨rfl, hs1⟩; have hHKA0 := hs1.c0; have hHKA1 := hs1.c1; have HKA := Lib.hid hs1; clear hs1) | (go_at_fn gl; refine (HKA.out.less HE.out HW0.out (first + root) (first + (2 * root + 1)) _ _ (by omega) (by omega) (by omega) (by omega)).mono ?_; rw [hlv2]; rintro e w' ⟨rfl, hs1⟩; have hHKB0 := hs1.c0; have hHKB1 := hs1.c1; have HKB := Lib.hid hs1; clear hs1))
            obtain ⟨w3, hrun, hs3⟩ := HKB.out.swap HE.out HW0.out (first + root) (first + (2 * root + 1)) (by omega) (by omega)
            have HKC := Lib.hid hs3
            clear hs3
            rw [hrun _ _ (by omega) (by omega), Oper.upon_value]
            clear hrun
            go_wp2
            go_roundw
            case rel => exact ⟨2 * root + 1, _, by congr 1 <;> omega, by omega, HKC.out, by rw [← HO.out, HR.out, if_pos hlv2]⟩
            case measure => simp [intOf]; omega
          | false =>
            go_wp2_with (first | (go_at_fn gl; refine (HK.out.less HE.out HW0.out (first + (2 * root + 1)) (first + (2 * root + 2)) _ _ (by omega) (by omega) (by omega) (by omega)).mono ?_; rw [hlv]; rintro e w' ⟨rfl, hs1⟩; have hHKA0 := hs1.c0; have hHKA1 := hs1.c1; have HKA := Lib.hid hs1; clear hs1) | (go_at_fn gl; refine (HKA.out.less HE.out HW0.out (first + root) (first + (2 * root + 1)) _ _ (by omega) (by omega) (by omega) (by omega)).mono ?_; rw [hlv2]; rintro e w' ⟨rfl, hs1⟩; have hHKB0 := hs1.c0; have hHKB1 := hs1.c1; have HKB := Lib.hid hs1; clear hs1))
            go_end0
            refine ⟨rfl, ?_⟩
            rw [← HO.out, HR.out, if_neg (by rw [hlv2]; simp)]
            exact HKB.out.mv
      · have hk : kid lt hi first root dk = 2 * root + 1 := by unfold kid; simp [h2]
        rw [hk] at HR
        clear hk
        cases hlv2 : lt dk[first + root]! dk[first + (2 * root + 1)]! with
        | true =>
          go_wp2_with (first | (go_at_fn gl; refine (HK.out.less HE.out HW0.out (first + root) (first + (2 * root + 1)) _ _ (by omega) (by omega) (by omega) (by omega)).mono ?_; rw [hlv2]; rintro e w' ⟨rfl, hs1⟩; have hHKB0 := hs1.c0; have hHKB1 := hs1.c1; have HKB := Lib.hid hs1; clear hs1))
          obtain ⟨w3, hrun, hs3⟩ := HKB.out.swap HE.out HW0.out (first + root) (first + (2 * root + 1)) (by omega) (by omega)
          have HKC := Lib.hid hs3
          clear hs3
          rw [hrun _ _ (by omega) (by omega), Oper.upon_value]
          clear hrun
          go_wp2
          go_roundw
          case rel => exact ⟨2 * root + 1, _, by congr 1 <;> omega, by omega, HKC.out, by rw [← HO.out, HR.out, if_pos hlv2]⟩
          case measure => simp [intOf]; omega
        | false =>
          go_wp2_with (first | (go_at_fn gl; refine (HK.out.less HE.out HW0.out (first + root) (first + (2 * root + 1)) _ _ (by omega) (by omega) (by omega) (by omega)).mono ?_; rw [hlv2]; rintro e w' ⟨rfl, hs1⟩; have hHKB0 := hs1.c0; have hHKB1 := hs1.c1; have HKB := Lib.hid hs1; clear hs1))
          go_end0
          refine ⟨rfl, ?_⟩
          rw [← HO.out, HR.out, if_neg (by rw [hlv2]; simp)]
          exact HKB.out.mv

end Go.Proofs.YtgolhmiocjpohaaGreatDoor
