/- sort.Slice (63) at a slice of ints, for a less that lays blocks. -/
import Derived.Test.YtgolhmiocjpohaaGreatDoorSort9
import Derived.Shelf.GgSortFunc.Tiny
set_option linter.unusedVariables false
set_option linter.unusedSimpArgs false
namespace Go.Proofs.YtgolhmiocjpohaaGreatDoor
open Go.RowKit Go.Sort Go.Lib

noncomputable def siT : TypeInfo := (Tryz.prog.info? 23).get (by kernel_rfl)
noncomputable def siE : TypeInfo := (Tryz.prog.info? 3).get (by kernel_rfl)
theorem siK (n : Nat) (h2 : 2 ≤ n) : Lib.swapperK n siE 2 = 5 := by
  have a : siE.hasPointers = false := by kernel_rfl
  have b : siE.bytes = 8 := by kernel_rfl
  have c : (n == 0) = false := by simp; omega
  have d : (n == 1) = false := by simp; omega
  simp [Lib.swapperK, a, b, c, d]
theorem siF (n : Nat) (h2 : 2 ≤ n) : Tryz.prog.funcs.findIdx? (·.name == "internal/reflectlite" ++ ".Swapper$" ++ toString (swapperK n siE 2)) = some 102 := by
  rw [siK n h2]
  kernel_rfl
theorem siX : ∀ args W, (callFunc 102 args).run Tryz.prog W = ((Extern.ReflectliteSwapper.swap true args).run Tryz.prog W).andThen fun v w' => .ok (.value v) w' :=
  fun args W => run_callFunc_extern Tryz.func102 (by kernel_rfl) (by kernel_rfl) (by kernel_rfl) (e := Extern.ReflectliteSwapper.swap true) (by kernel_rfl) args W

set_option maxHeartbeats 1600000 in
theorem sort_Slice {g n m : Nat} {lt : Nat → Nat → Bool} (hO : SWO lt) (lb : Array Value) (d : Array Nat) (c : Nat) (w : World) (h2 : 2 ≤ n) (hn : n ≤ 2147483647) (hw : Moved g n m d w w)
    (hless : ∀ dk wr, Moved g n m dk w wr → ∀ i j, i < n → j < n → Calls Tryz.prog 64 (#[.int .i64 (i : Nat), .int .i64 (j : Nat)] ++ lb) wr fun e w' => e = .returned (.bool (lt dk[i]! dk[j]!)) ∧ Below wr.heap.size wr w') :
    Calls Tryz.prog 63 #[.iface 23 (.slice (some ⟨g, 0, none⟩) n c), .func (.func 64) #[] lb] w (SortsTo g n m (pdq lt d 0 n (Lib.bitLen n) true true) w) := by
  have hS : SwapSwaps Tryz.prog 102 #[.slice (some ⟨g, 0, none⟩) n c, typeHandle Tryz.prog 3] encN g 0 n :=
    swapSwaps_of_literal true 102 siX 3 siE (by kernel_rfl) (by kernel_rfl) (fun _ => by kernel_rfl) encN (fun _ => rfl) g 0 n c
  have E : SortEnv w g n m lt 64 lb 102 #[.slice (some ⟨g, 0, none⟩) n c, typeHandle Tryz.prog 3] :=
    { enter := enters_of Tryz.func64 (by kernel_rfl) rfl
      less := hless
      swap := fun dk wr hm i j hi hj => by
        have h := hS wr dk hm.holds hm.len i j hi hj
        simpa [encN] using h
      hn := hn
      hg := hw.lt }
  refine Any.sort_Slice_of_pdq Tryz.laysGg6 23 3 siT siE (by kernel_rfl) (by kernel_rfl) (by kernel_rfl) (by kernel_rfl) 2 (fun _ => by kernel_rfl) (some ⟨g, 0, none⟩) n c (by omega) 102 (siF n h2) (.func 64) #[] lb w (fun w' => Moved g n m (pdq lt d 0 n (Lib.bitLen n) true true) w w') ?_
  have hB : sliceBound Tryz.prog 3 siE 2 (some ⟨g, 0, none⟩) n c = #[.slice (some ⟨g, 0, none⟩) n c, typeHandle Tryz.prog 3] := by
    unfold sliceBound; rw [if_neg (swapperK_gt _ _ _ h2)]
  rw [hB]
  have hm : Moved g n m d w (sliceWorld Tryz.prog Tryz.laysGg6_ren 23 (some ⟨g, 0, none⟩) n c w) := (hw.alloc _).alloc _
  change Calls Tryz.prog 83 _ _ _
  have hlim : Lib.bitLen n < 2147483647 := Nat.lt_of_le_of_lt (Lib.bitLen_le n 62 (by omega) (by omega)) (by omega)
  exact (sort_pdq hO E hS (n + 1) 0 n (Lib.bitLen n) d _ (by omega) hm (Nat.zero_le _) (Nat.le_refl _) hlim (Or.inl rfl)).mono fun e w' h => ⟨h.1, hm.trans h.2⟩

theorem pdq_perm_sorted {n m : Nat} {lt : Nat → Nat → Bool} (hO : SWO lt) (d : Array Nat) (hd : d.size = n) (L : Nat) : PermIn 0 n d (pdq lt d 0 n L true true) ∧ SortedIn lt 0 n (pdq lt d 0 n L true true) :=
  pdq_sorts lt hO d 0 n L true true (Nat.zero_le _) (by omega) (Or.inl rfl)

theorem Moved.grow {g n m : Nat} {d : Array Nat} {w0 w : World} (h : Moved g n m d w0 w) (os : Array Obj) : Moved g n m d w0 (Sort.grow w os) := by
  have hlt := h.lt
  refine h.below ⟨rfl, rfl, rfl, ?_, fun k hk => ?_⟩
  · show w.heap.size ≤ (w.heap ++ os).size
    simp
  · show (w.heap ++ os)[k]? = _
    rw [Array.getElem?_append_left hk]

theorem siF0 : Tryz.prog.funcs.findIdx? (·.name == "internal/reflectlite" ++ ".Swapper$" ++ toString (swapperK 0 siE 2)) = some 98 := by kernel_rfl
theorem siF1 : Tryz.prog.funcs.findIdx? (·.name == "internal/reflectlite" ++ ".Swapper$" ++ toString (swapperK 1 siE 2)) = some 99 := by kernel_rfl

/-- sort.Slice at a slice of ints of whatever length: a permutation, sorted. -/
theorem sort_Slice_any {g n m : Nat} {lt : Nat → Nat → Bool} (hO : SWO lt) (lb : Array Value) (d : Array Nat) (c : Nat) (w : World) (hn : n ≤ 2147483647) (hw : Moved g n m d w w)
    (hless : ∀ dk wr, Moved g n m dk w wr → ∀ i j, i < n → j < n → Calls Tryz.prog 64 (#[.int .i64 (i : Nat), .int .i64 (j : Nat)] ++ lb) wr fun e w' => e = .returned (.bool (lt dk[i]! dk[j]!)) ∧ Below wr.heap.size wr w') :
    Calls Tryz.prog 63 #[.iface 23 (.slice (some ⟨g, 0, none⟩) n c), .func (.func 64) #[] lb] w fun e w' => e = .returned (.tuple #[]) ∧ ∃ d', PermIn 0 n d d' ∧ SortedIn lt 0 n d' ∧ Moved g n m d' w w' := by
  by_cases h2 : 2 ≤ n
  · obtain ⟨h3, h4⟩ := pdq_perm_sorted (m := m) hO d hw.len (Lib.bitLen n)
    exact (sort_Slice hO lb d c w h2 hn hw hless).mono fun e w' h => ⟨h.1, _, h3, h4, h.2⟩
  · have key : ∀ f, Tryz.prog.funcs.findIdx? (·.name == "internal/reflectlite" ++ ".Swapper$" ++ toString (swapperK n siE 2)) = some f → Calls Tryz.prog 63 #[.iface 23 (.slice (some ⟨g, 0, none⟩) n c), .func (.func 64) #[] lb] w fun e w' => e = .returned (.tuple #[]) ∧ ∃ d', PermIn 0 n d d' ∧ SortedIn lt 0 n d' ∧ Moved g n m d' w w' := by
      intro f hf
      refine Calls.mono (Any.sort_Slice_tiny Tryz.laysGg6 23 3 siT siE (by kernel_rfl) (by kernel_rfl) (by kernel_rfl) (by kernel_rfl) 2 (fun _ => by kernel_rfl) (some ⟨g, 0, none⟩) n c (by omega) f hf (.func 64) #[] lb w) ?_
      rintro e w' ⟨rfl, os, rfl⟩
      exact ⟨rfl, d, permIn_refl _ _ _, fun i j _ h1 h2 => by omega, hw.grow os⟩
    by_cases h0 : n = 0
    · subst h0; exact key 98 siF0
    · have h1 : n = 1 := by omega
      subst h1; exact key 99 siF1

end Go.Proofs.YtgolhmiocjpohaaGreatDoor
