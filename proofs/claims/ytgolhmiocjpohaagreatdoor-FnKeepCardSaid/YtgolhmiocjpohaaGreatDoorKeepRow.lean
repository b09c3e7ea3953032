/- The law FnKeep: for every input it answers true, and its arguments read as before: the row and the tied card. The row's own condition: the listed package-level variables start as the program's text lays them (the card ties them to it). -/
import Derived.Test.YtgolhmiocjpohaaGreatDoorCards
import Derived.Test.YtgolhmiocjpohaaGreatDoorTie
import Derived.ProofKit
import Derived.OpenShut
import Derived.Carry
import Derived.LaidMore
import Derived.Lay
import Derived.MakeChecks
import Derived.SevenTiedAt
import Derived.Stop.Joined
import Derived.Test.YtgolhmiocjpohaaGreatDoorLaid4
set_option linter.unusedVariables false
set_option linter.unusedSimpArgs false
namespace Go.Proofs.YtgolhmiocjpohaaGreatDoor
open Go.ChangeShapes Go.WideShapes Go.ChangeAt Go.RowKit

theorem own : ownKnob Tryz.prog.godebug = none := by kernel_rfl
theorem laidOut : laidOutB Tryz.prog = true := by kernel_rfl

set_option maxRecDepth 100000 in
theorem keep_contract (H : Type) (enc : TypeId × Value → H) (W : World) (base : Nat) (args : Array Value) (ds gs : List (DataW H)) (before : List MemPlace)
  (hval : ∀ (j : Nat) t v, Tryz.f3.params[j]? = some t → args[j]? = some v → Value.okWide Tryz.prog W .any base t v)
  (hW : DataW.Whole enc Tryz.prog Tryz.f3.params.toList Rows.fnKeepSpec.vars false W args.toList ds gs before) (hL : laidMetH Tryz.prog Rows.fnKeepRow.laid W) :
  Calls Tryz.prog 3 args W fun e W' => ∃ v, e = .returned v ∧ Rows.fnKeepSpec.post enc Tryz.prog Tryz.f3 false true false false W args v W' := by
 have hW' := hW
 obtain ⟨p, q, hA0, hV, rfl, _, _⟩ := hW
 have hA : DataW.TrodAll enc Tryz.prog W 0 (fun _ => true) true Tryz.f3.params.toList args.toList ds p := hA0
 rw [Tryz.params3] at hA hval
 obtain ⟨v0, v1, v2, d0, d1, d2, p0, p1, p2, rfl, rfl, rfl, h0, h1, h2⟩ := trodAll_three hA
 obtain ⟨rfl, rfl⟩ := trodVars_none hV
 obtain ⟨a0, l0, c0, rfl⟩ := okWide_slice Tryz.underlying22 (hval 0 22 v0 rfl rfl)
 obtain ⟨a1, l1, c1, rfl⟩ := okWide_slice Tryz.underlying23 (hval 1 23 v1 rfl rfl)
 obtain ⟨a2, l2, c2, rfl⟩ := okWide_slice Tryz.underlying24 (hval 2 24 v2 rfl rfl)
 have h0k := h0
 have h1k := h1
 have h2k := h2
 obtain ⟨f0, hf0⟩ := h0
 obtain ⟨f1, hf1⟩ := h1
 obtain ⟨f2, hf2⟩ := h2
 clear hA0 hV
 simp only [List.append_nil] at hW'
 have hlt : ∀ x ∈ p0 ++ (p1 ++ p2), x.block < W.heap.size := fun x hx => hW'.lt x (by simpa using hx)
 obtain ⟨rows, rfl, hrows, hnr⟩ := open_grid hf0
 obtain ⟨bs, rfl, hbs⟩ := open_nums hf1
 obtain ⟨fs, rfl, hfs, hnf⟩ := open_filts hf2
 refine (law_keep W a0 a1 a2 c0 c1 c2 rows bs fs hrows hbs hfs (envk_of_laid hL) hnr hnf).mono ?_
 rintro e W' ⟨rfl, bel⟩
 have e1 : Rows.fnKeepSpec.fn H ([d0, d1, d2] ++ []) = { results := [.lit (.bool true)], args := [d0, d1, d2] } := rfl
 refine ⟨_, rfl, _, _, _, [], p0 ++ (p1 ++ p2), [], hW', ?_, ?_, ?_, bel.frame _, fun h => by cases h⟩
 ·rw [e1]; exact trodAll_mk1 (shut_bool Tryz.underlying4 _)
 ·rw [e1]
  exact trodAll_mk3 (Below.trod laidOut (by kernel_rfl) (of_decide_eq_true (by kernel_rfl)) h0k bel (fun x hx => hlt x (by simp [hx]))) (Below.trod laidOut (by kernel_rfl) (of_decide_eq_true (by kernel_rfl)) h1k bel (fun x hx => hlt x (by simp [hx])))
   (Below.trod laidOut (by kernel_rfl) (of_decide_eq_true (by kernel_rfl)) h2k bel (fun x hx => hlt x (by simp [hx])))
 ·rw [e1]; rfl

set_option maxRecDepth 100000 in
theorem keep_lifted (os : Os) (started : os.Started) (H : Type) (enc : TypeId × Value → H) :
  ReturnsInHanded {} Tryz.checked os 3 .any (fun w args => (Rows.fnKeepSpec.pre enc Tryz.prog Tryz.f3 Rows.fnKeepRow.domain false w args ∧ laidMetH Tryz.prog Rows.fnKeepRow.laid w) ∧ sizedMet enc Tryz.prog Tryz.f3 (OpenSpec.ofChange Rows.fnKeepSpec) false w args)
   (Rows.fnKeepSpec.post enc Tryz.prog Tryz.f3 false true false false) := by
 refine returnsInHanded_of_change_and (C := Tryz.checked) (X := fun w _ => laidMetH Tryz.prog Rows.fnKeepRow.laid w) (fun _ _ _ hh h => h.of_heap hh) own started (by kernel_rfl) Tryz.func3
  (ChangeSpec.witness_shaped (enc := enc) (C := Tryz.checked) (os := os) (X := fun w _ => laidMetH Tryz.prog Rows.fnKeepRow.laid w) false (World.laidAll Tryz.prog os Rows.fnKeepRow.laid) #[.slice none 0 0, .slice none 0 0, .slice none 0 0] 8 (World.laidAll_os _ _ _)
   (World.shaped_of_ZipB (by kernel_rfl) (by kernel_rfl)) (by kernel_rfl) (by kernel_rfl) (by kernel_rfl)
   (by rw [MakeChecks.laidMetH_plain _ _ _ (by kernel_rfl)]; exact laidMet_laidAll _ (by kernel_rfl) (by kernel_rfl))) ?_
 intro W base args ds gs before hval0 hW _ _ hL _
 exact keep_contract H enc W base args ds gs before hval0 hW hL

theorem keep_said : Rows.FnKeepSaid :=
 OpenClaim.holds_of_wide 3 Tryz.f3 rfl rfl rfl rfl rfl rfl rfl ⟨rfl, rfl, rfl, rfl, rfl⟩ rfl rfl rfl rfl rfl (by kernel_rfl) Tryz.func3 (by kernel_rfl)
  (of_decide_eq_true (by kernel_rfl)) (by unfold Func.isWrapper; first | (rw [if_pos (by decide +kernel)]; kernel_rfl) | (rw [if_neg (by decide +kernel)]; exact ⟨rfl, rfl⟩))
  (fun os started H enc _ => keep_lifted os started H enc)

/-- No parameter wants a stand-in; the program's own looks are off: what the card asks. -/
theorem keep_plain (f : FuncId) (fn : Func) (hf : Tryz.pinned.checked.prog.funcNamed "pub-pinstripe/laws.FnKeep" = some f) (hfn : Tryz.pinned.checked.prog.funcs[f]? = some fn) :
  true = Tryz.pinned.checked.prog.looks [] ∧ ∀ (j : Nat) t, fn.params[j]? = some t → Tryz.pinned.checked.prog.wantsStandIn t = false := by
 obtain rfl : f = 3 := Option.some.inj ((show Tryz.prog.funcNamed "pub-pinstripe/laws.FnKeep" = some 3 by kernel_rfl).symm.trans hf) |>.symm
 obtain rfl : fn = Tryz.f3 := (Option.some.inj (Tryz.func3.symm.trans hfn)).symm
 refine ⟨by kernel_rfl, fun j t ht => ?_⟩
 rw [Tryz.params3] at ht
 have hm : t ∈ [22, 23, 24] := by simpa using Array.mem_of_getElem? ht
 have hall : ([22, 23, 24].all fun u => !Tryz.prog.wantsStandIn u) = true := by kernel_rfl
 exact (show Tryz.prog.wantsStandIn t = false by simpa using List.all_eq_true.1 hall t hm)

/-- THE CARD. -/
theorem fnKeep_card : Rows.FnKeepCardSaid :=
 Claim7.holds_tied_plain_at .later [] _ _ _ _ keep_said (fun _ h => by cases h) (by kernel_rfl) (fun _ h => by cases h) fnKeep_row_tie rfl ⟨rfl, rfl⟩ (by kernel_rfl) rfl keep_plain (by kernel_rfl)

end Go.Proofs.YtgolhmiocjpohaaGreatDoor
