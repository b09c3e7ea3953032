/- The law FnOrderAgain: for every input it answers true, and its arguments read as before: the row and the tied card. The row's own condition: the listed package-level variables start as the program's text lays them (the card ties them to it). -/
import Derived.Test.YtgolhmiocjpohaaGreatDoorCards
import Derived.Test.YtgolhmiocjpohaaGreatDoorTie
import Derived.Test.YtgolhmiocjpohaaGreatDoorAgain2
import Derived.Test.YtgolhmiocjpohaaGreatDoorOpen1
import Derived.ProofKit
import Derived.OpenShut
import Derived.Carry
import Derived.LaidMore
import Derived.Lay
import Derived.MakeChecks
import Derived.SevenTiedAt
import Derived.Stop.Joined
set_option linter.unusedVariables false
set_option linter.unusedSimpArgs false
namespace Go.Proofs.YtgolhmiocjpohaaGreatDoor
open Go.ChangeShapes Go.WideShapes Go.ChangeAt Go.RowKit

theorem own : ownKnob Tryz.prog.godebug = none := by kernel_rfl
theorem laidOut : laidOutB Tryz.prog = true := by kernel_rfl

theorem glob_of_laid {W : World} (h : laidMetH Tryz.prog Rows.fnOrderAgainRow.laid W) : Glob W := by
  rw [MakeChecks.laidMetH_plain _ _ _ (by kernel_rfl)] at h
  obtain ⟨ps, hl, _, _⟩ := h
  unfold Rows.fnOrderAgainRow at hl
  exact (Laid4.mk ⟨_, .tail _ (.tail _ (.tail _ (.tail _ (.tail _ (.tail _ (.tail _ (.tail _ (.tail _ (.tail _ (.tail _ (.head _))))))))))), ps, hl⟩ ⟨_, .tail _ (.tail _ (.tail _ (.tail _ (.head _)))), ps, hl⟩ ⟨_, .tail _ (.tail _ (.tail _ (.head _))), ps, hl⟩ ⟨_, _, .tail _ (.head _), ps, hl⟩).glob

set_option maxRecDepth 100000 in
theorem again_contract (H : Type) (enc : TypeId × Value → H) (W : World) (base : Nat) (args : Array Value) (ds gs : List (DataW H)) (before : List MemPlace)
    (hval : ∀ (j : Nat) t v, Tryz.f4.params[j]? = some t → args[j]? = some v → Value.okWide Tryz.prog W .any base t v)
    (hW : DataW.Whole enc Tryz.prog Tryz.f4.params.toList Rows.fnOrderAgainSpec.vars false W args.toList ds gs before) (hL : laidMetH Tryz.prog Rows.fnOrderAgainRow.laid W) :
    Calls Tryz.prog 4 args W fun e W' => ∃ v, e = .returned v ∧ Rows.fnOrderAgainSpec.post enc Tryz.prog Tryz.f4 false true false false W args v W' := by
  have hW' := hW
  obtain ⟨p, q, hA0, hV, rfl, _, _⟩ := hW
  have hA : DataW.TrodAll enc Tryz.prog W 0 (fun _ => true) true Tryz.f4.params.toList args.toList ds p := hA0
  rw [Tryz.params4] at hA hval
  obtain ⟨v0, v1, v2, d0, d1, d2, p0, p1, p2, rfl, rfl, rfl, h0, h1, h2⟩ := trodAll_three hA
  obtain ⟨rfl, rfl⟩ := trodVars_none hV
  obtain ⟨a0, l0, c0, rfl⟩ := okWide_slice Tryz.underlying38 (hval 0 38 v0 rfl rfl)
  obtain ⟨n, rfl, rfl, rfl, wn⟩ := open_int Tryz.underlying3 (hval 1 3 v1 rfl rfl) h1
  obtain ⟨a2, l2, c2, rfl⟩ := okWide_slice Tryz.underlying39 (hval 2 39 v2 rfl rfl)
  have h0k := h0
  have h2k := h2
  obtain ⟨f0, hf0⟩ := h0
  obtain ⟨f2, hf2⟩ := h2
  clear hA0 hV
  simp only [List.append_nil] at hW'
  have hlt : ∀ x ∈ p0 ++ p2, x.block < W.heap.size := fun x hx => by simpa using hW'.lt x hx
  obtain ⟨rows, rfl, hrows, hlm, hrl⟩ := open_rows hf0
  obtain ⟨rs, rfl, hrs, hsm⟩ := open_rules hf2
  refine (law_again W (glob_of_laid hL) a0 a2 c0 c2 rows rs n hrows hrs hlm hsm hrl).mono ?_
  rintro e W' ⟨rfl, bel⟩
  have e1 : Rows.fnOrderAgainSpec.fn H ([d0, .lit (.int .i64 n), d2] ++ []) = { results := [.lit (.bool true)], args := [d0, .lit (.int .i64 n), d2] } := rfl
  refine ⟨_, rfl, _, _, _, [], p0 ++ ([] ++ p2), [], hW', ?_, ?_, ?_, bel.frame _, fun h => by cases h⟩
  · rw [e1]; exact trodAll_mk1 (shut_bool Tryz.underlying4 _)
  · rw [e1]
    exact trodAll_mk3 (Below.trod laidOut (by kernel_rfl) (of_decide_eq_true (by kernel_rfl)) h0k bel (fun x hx => hlt x (by simp [hx]))) (shut_int Tryz.underlying3 wn) (Below.trod laidOut (by kernel_rfl) (of_decide_eq_true (by kernel_rfl)) h2k bel (fun x hx => hlt x (by simp [hx])))
  · rw [e1]; rfl

set_option maxRecDepth 100000 in
theorem again_lifted (os : Os) (started : os.Started) (H : Type) (enc : TypeId × Value → H) :
    ReturnsInHanded {} Tryz.checked os 4 .any (fun w args => (Rows.fnOrderAgainSpec.pre enc Tryz.prog Tryz.f4 Rows.fnOrderAgainRow.domain false w args ∧ laidMetH Tryz.prog Rows.fnOrderAgainRow.laid w) ∧ sizedMet enc Tryz.prog Tryz.f4 (OpenSpec.ofChange Rows.fnOrderAgainSpec) false w args)
      (Rows.fnOrderAgainSpec.post enc Tryz.prog Tryz.f4 false true false false) := by
  refine returnsInHanded_of_change_and (C := Tryz.checked) (X := fun w _ => laidMetH Tryz.prog Rows.fnOrderAgainRow.laid w) (fun _ _ _ hh h => h.of_heap hh) own started (by kernel_rfl) Tryz.func4
    (ChangeSpec.witness_shaped (enc := enc) (C := Tryz.checked) (os := os) (X := fun w _ => laidMetH Tryz.prog Rows.fnOrderAgainRow.laid w) false (World.laidAll Tryz.prog os Rows.fnOrderAgainRow.laid) #[.slice none 0 0, .int .i64 0, .slice none 0 0] 8 (World.laidAll_os _ _ _)
      (World.shaped_of_ZipB (by kernel_rfl) (by kernel_rfl)) (by kernel_rfl) (by kernel_rfl) (by kernel_rfl)
      (by rw [MakeChecks.laidMetH_plain _ _ _ (by kernel_rfl)]; exact laidMet_laidAll _ (by kernel_rfl) (by kernel_rfl))) ?_
  intro W base args ds gs before hval0 hW _ _ hL _
  exact again_contract H enc W base args ds gs before hval0 hW hL

theorem again_said : Rows.FnOrderAgainSaid :=
  OpenClaim.holds_of_wide 4 Tryz.f4 rfl rfl rfl rfl rfl rfl rfl ⟨rfl, rfl, rfl, rfl, rfl⟩ rfl rfl rfl rfl rfl (by kernel_rfl) Tryz.func4 (by kernel_rfl)
    (of_decide_eq_true (by kernel_rfl)) (by unfold Func.isWrapper; first | (rw [if_pos (by decide +kernel)]; kernel_rfl) | (rw [if_neg (by decide +kernel)]; exact ⟨rfl, rfl⟩))
    (fun os started H enc _ => again_lifted os started H enc)

/-- No parameter wants a stand-in; the program's own looks are off: what the card asks. -/
theorem again_plain (f : FuncId) (fn : Func) (hf : Tryz.pinned.checked.prog.funcNamed "pub-pinstripe/laws.FnOrderAgain" = some f) (hfn : Tryz.pinned.checked.prog.funcs[f]? = some fn) :
    true = Tryz.pinned.checked.prog.looks [] ∧ ∀ (j : Nat) t, fn.params[j]? = some t → Tryz.pinned.checked.prog.wantsStandIn t = false := by
  obtain rfl : f = 4 := Option.some.inj ((show Tryz.prog.funcNamed "pub-pinstripe/laws.FnOrderAgain" = some 4 by kernel_rfl).symm.trans hf) |>.symm
  obtain rfl : fn = Tryz.f4 := (Option.some.inj (Tryz.func4.symm.trans hfn)).symm
  refine ⟨by kernel_rfl, fun j t ht => ?_⟩
  rw [Tryz.params4] at ht
  have hm : t ∈ [38, 3, 39] := by simpa using Array.mem_of_getElem? ht
  have hall : ([38, 3, 39].all fun u => !Tryz.prog.wantsStandIn u) = true := by kernel_rfl
  exact (show Tryz.prog.wantsStandIn t = false by simpa using List.all_eq_true.1 hall t hm)

/-- THE CARD. -/
theorem fnOrderAgain_card : Rows.FnOrderAgainCardSaid :=
  Claim7.holds_tied_plain_at .later [] _ _ _ _ again_said (fun _ h => by cases h) (by kernel_rfl) (fun _ h => by cases h) fnOrderAgain_row_tie rfl ⟨rfl, rfl⟩ (by kernel_rfl) rfl again_plain (by kernel_rfl)

#print axioms fnOrderAgain_card
end Go.Proofs.YtgolhmiocjpohaaGreatDoor
