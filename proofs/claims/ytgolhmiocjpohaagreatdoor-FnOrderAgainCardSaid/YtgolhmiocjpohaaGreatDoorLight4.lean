/- The light ParseFloat reads a whole number of at most fifteen digits as the float that it is. No condition beyond that on the text. -/
import Derived.Test.YtgolhmiocjpohaaGreatDoorLight1
import Derived.Test.YtgolhmiocjpohaaGreatDoorLight3
import Derived.Test.YtgolhmiocjpohaaGreatDoorDec6
import Derived.Laws.Externs
set_option linter.unusedVariables false
set_option linter.unusedSimpArgs false
namespace Go.Proofs.YtgolhmiocjpohaaGreatDoor
open Go.RowKit Go.PlainAid

theorem call168 (n : Int) (w : World) : (callFunc 168 #[.int .u64 n]).run Tryz.prog w = .ok (.value (.float .f64 n.toNat)) w :=
  (run_callFunc_extern Tryz.func168 (by kernel_rfl) (by kernel_rfl) (by kernel_rfl) (e := Extern.MathFloatBits.float64frombits) (by kernel_rfl) #[.int .u64 n] w).trans rfl

set_option maxHeartbeats 400000 in
set_option maxRecDepth 100000 in
theorem light_float (n : Nat) (w : World) : Calls Tryz.prog 144 #[form64, .int .u64 (n : Int)] w fun e w' => e = .returned (.float .f64 n) ∧ Below w.heap.size w w' := by
  go_enter Tryz.func144, Tryz.ntmps144
  go_wp2_with fail
  rw [call168, Oper.upon_value]
  go_wp2_with fail
  go_ret
  exact ⟨rfl, (Below.refl _ _).alloc (Nat.le_refl _) _⟩

theorem formAt_alloc (w : World) : FormAt (w.alloc (.cells #[.int .i64 52, .int .i64 11, .int .i64 (-1023)] 227)) w.heap.size :=
  ⟨by rw [World.cell?_alloc_at _ _ _ _ rfl]; rfl, by rw [World.cell?_alloc_at _ _ _ _ rfl]; rfl, by rw [World.cell?_alloc_at _ _ _ _ rfl]; rfl⟩

theorem FormAt.below {w w' : World} {g : Nat} (h : FormAt w g) (hb : Below w.heap.size w w') (hg : g < w.heap.size) : FormAt w' g := h.only (b := w.heap.size) (Only.of hb) hg (by omega)

/-- The bits of what was read. -/
theorem bits_read {w : World} {base b N : Nat} {es : List Nat} {ep : Int} (h : DecAt w base b es ep) (hN : N < 10 ^ 15) (hc : es = [] ∧ N = 0 ∨ Canon es ∧ Same es ep N 1 ∧ 0 < N) (hl : es.length ≤ 15) :
    Calls Tryz.prog 148 #[.pointer (some ⟨b, 0, none⟩), form64] w fun e w' => e = .returned (.tuple #[.int .u64 (fRung N : Nat), .bool false]) ∧ Only b w w' := by
  rcases hc with ⟨rfl, rfl⟩ | ⟨h1, h2, h3⟩
  · exact bits_zero w base b ep h
  · exact bits_whole w base b es ep N h ⟨h1, h2, h3, hN⟩ hl

/-- A name of a float begins with a letter. -/
theorem fold_head {s word : ByteArray} (h : FoldP s word) (hw : 0 < word.size) (hl : 97 ≤ bt word 0) : 0 < s.size ∧ ¬ (48 ≤ bt s 0 ∧ bt s 0 ≤ 57) ∧ ¬ bt s 0 = 45 := by
  have hs : 0 < s.size := by rw [h.1]; exact hw
  have h1 := h.2 0 hs
  unfold lowerI at h1
  refine ⟨hs, fun h2 => ?_, fun h2 => ?_⟩
  · rw [if_neg (by omega)] at h1
    omega
  · rw [if_neg (by omega)] at h1
    omega

theorem no_fold {s word : ByteArray} (hw : 0 < word.size) (hl : 97 ≤ bt word 0) (h : 0 < s.size → (48 ≤ bt s 0 ∧ bt s 0 ≤ 57) ∨ bt s 0 = 45) : ¬ FoldP s word := by
  intro hf
  obtain ⟨h1, h2, h3⟩ := fold_head hf hw hl
  rcases h h1 with h4 | h4
  · exact h2 h4
  · exact h3 h4

theorem wNan_head : 0 < wNan.size ∧ 97 ≤ bt wNan 0 := by decide
theorem wInf_head : 0 < wInf.size ∧ 97 ≤ bt wInf 0 := by decide
theorem wInfinity_head : 0 < wInfinity.size ∧ 97 ≤ bt wInfinity 0 := by decide

theorem or_zero_u64 (n : Nat) (h : n < 2 ^ 64) : bits .or .u64 0 (n : Int) = (n : Int) := by
  have := bits_or_u64 0 n (by omega) h
  simpa using this

theorem or_sign_u64 (n : Nat) (h : n < 2 ^ 63) : bits .or .u64 9223372036854775808 (n : Int) = ((2 ^ 63 + n : Nat) : Int) := by
  have h1 := bits_or_u64 (2 ^ 63) n (by omega) (by omega)
  have h2 : 2 ^ 63 ||| n = 2 ^ 63 + n := by
    have := Nat.two_pow_add_eq_or_of_lt h 1
    rw [Nat.mul_one] at this
    exact this.symm
  rw [h2] at h1
  exact h1

theorem bt_tail (s : ByteArray) (i : Nat) (h : i + 1 < s.size) : bt (s.extract 1 s.size) i = bt s (i + 1) := by
  unfold bt
  rw [dif_pos (by simp; omega), dif_pos h]
  simp [ByteArray.getElem_extract]
  congr 3
  omega

/-- What the walk behind the sign wants of the text t that is left. -/
structure Tail (t : ByteArray) : Prop where
  digits : DigitsP t
  inf : ∀ w, Calls Tryz.prog 140 #[.string t, .string wInf] w fun e w' => e = .returned (.bool false) ∧ w' = w
  infinity : ∀ w, Calls Tryz.prog 140 #[.string t, .string wInfinity] w fun e w' => e = .returned (.bool false) ∧ w' = w
  read : ∀ w, Calls Tryz.prog 145 #[.string t] w (ReadIs t w)

theorem Tail.of {t : ByteArray} (h : DigitsP t) : Tail t := by
  have h0 := h.2.2 0 h.1
  have hs : t.size ≤ 2147483647 := by have := h.2.1; omega
  exact ⟨h, fun w => fold_no hs (no_fold wInf_head.1 wInf_head.2 fun _ => Or.inl h0), fun w => fold_no hs (no_fold wInfinity_head.1 wInfinity_head.2 fun _ => Or.inl h0), fun w => light_read t w h⟩

set_option maxHeartbeats 3200000 in
set_option maxRecDepth 100000 in
theorem light_whole (s : ByteArray) (w : World) (h : WholeP s) : Calls Tryz.prog 117 #[.string s, .int .i64 64] w (NumIs (numOf s) w) := by
  rw [numOf_whole h]
  have hbody := h.body
  have hb := get_bt s
  by_cases hm : 0 < s.size ∧ bt s 0 = 45
  · have hneg : negP s = true := by unfold negP; simp [hm]
    have hbo : bodyOf s = s.extract 1 s.size := by unfold bodyOf; rw [hneg]; rfl
    rw [hbo] at hbody ⊢
    rw [hneg, fBits_eq true (worth_53 hbody)]
    have hsz : s.size ≤ 16 := by have := hbody.2.1; have := hbody.1; simp at *; omega
    have hs : s.size ≤ 2147483647 := by omega
    have K1 := Lib.hid (fun w => fold_no (w := w) hs (no_fold wNan_head.1 wNan_head.2 fun _ => Or.inr hm.2))
    have KU := Lib.hid (fun w => light_underscores s w hs (fun i hi => by
      rcases Nat.eq_zero_or_pos i with e | e
      · rw [e, hm.2]; decide
      · have := hbody.2.2 (i - 1) (by simp; omega)
        rw [bt_tail s (i - 1) (by omega), show i - 1 + 1 = i by omega] at this
        omega))
    have HT := Lib.hid (Tail.of hbody)
    have hNb : Hid (worth (s.extract 1 s.size) < 10 ^ 15) := worth_lt hbody
    have h1s : (1 : Int) ≤ (s.size : Int) := by omega
    have k1 : (bt s 0 == 43) = false := by simp [hm.2]
    have k2 : (bt s 0 == 45) = true := by simp [hm.2]
    have he : (s.toList == []) = false := by
      cases e : s.toList == []
      · rfl
      · have := (empty_toList s).1 e; omega
    have hp : 0 < s.size := hm.1
    obtain ⟨t, ht⟩ : ∃ t, t = s.extract 1 s.size := ⟨_, rfl⟩
    rw [← ht] at HT hNb ⊢
    have htt : s.extract 1 s.size = t := ht.symm
    unfold wNan at K1
    have K2 := Lib.hid HT.out.inf
    have K3 := Lib.hid HT.out.infinity
    unfold wInf at K2
    unfold wInfinity at K3
    obtain ⟨X, hX⟩ : ∃ X, X = (if true = true then 2 ^ 63 else 0) + fRung (worth t) := ⟨_, rfl⟩
    rw [← hX]
    have eqor : bits .or .u64 9223372036854775808 ((fRung (worth t) : Nat) : Int) = (X : Int) := by
      rw [hX, if_pos rfl]
      exact or_sign_u64 _ (fRung_lt (by have := hNb.out; omega))
    clear hm hbody hbo hneg ht hX
    go_enter Tryz.func117, Tryz.ntmps117
    go_wp2_with (first
      | (go_at_call 140; (with_reducible refine (K1.out _).mono ?_); rintro e w1 ⟨rfl, rfl⟩))
    go_quiet (fail)
    go_wp2_with (first
      | (go_at_call 140; (with_reducible refine (K2.out _).mono ?_); rintro e w2 ⟨rfl, rfl⟩)
      | (go_at_call 140; (with_reducible refine (K3.out _).mono ?_); rintro e w2 ⟨rfl, rfl⟩)
      | (go_at_call 143; (with_reducible refine (light_form _).mono ?_); rintro e w2 ⟨rfl, hb2⟩; have HB2 := Lib.hid hb2; clear hb2; have HF2 := Lib.hid (formAt_alloc w2))
      | (go_at_call 145; (with_reducible refine (HT.out.read _).mono ?_); rintro e w3 ⟨b, es, ep, rfl, r1, r2, r3, r4, r5, hb3⟩; have HB3 := Lib.hid hb3; have HF3 := Lib.hid (HF2.out.below hb3 (by simp)); obtain ⟨f1, f2, f3⟩ := HF3.out; have HBITS := Lib.hid (bits_read r1 hNb.out r2 r3); have HBB : Hid (w2.heap.size < w3.heap.size ∧ w2.heap.size < b ∧ b < w3.heap.size) := And.intro (by have := hb3.size; simp at this; omega) (And.intro (by have := r1.lo; simp at this; omega) r1.lt); clear r1 r2 r3 r4 r5 hb3)
      | (go_at_call 146; (with_reducible refine (KU.out _).mono ?_); rintro e w4 ⟨bb, rfl, rfl, rfl⟩)
      | (go_at_call 148; (with_reducible refine HBITS.out.mono ?_); rintro e w5 ⟨rfl, ho⟩; have HO5 := Lib.hid ho; obtain ⟨f1', f2', f3'⟩ := HF3.out.only ho HBB.out.1 (by have := HBB.out.2.1; omega); clear ho)
      | (go_at_call 144; (with_reducible refine (light_float _ _).mono ?_); rintro e w6 ⟨rfl, hb6⟩; have HB6 := Lib.hid hb6; clear hb6))
    go_ret2
    refine ⟨rfl, ?_⟩
    have q0 : Below w1.heap.size w1 (w1.drewN nq) := below_drewN (Below.refl _ _) nq
    have q1 : Below w1.heap.size w1 w2 := q0.trans (HB2.out.mono (Nat.le_refl _))
    have q2 := q1.alloc q1.size (.cells #[.int .i64 52, .int .i64 11, .int .i64 (-1023)] 227)
    have q3 := q2.trans (HB3.out.mono q2.size)
    have q5 := q3.trans (HO5.out.toBelow (base := w1.heap.size) (by have := HBB.out; have := q1.size; omega) HBB.out.2.2)
    exact q5.trans (HB6.out.mono q5.size)
  · have hneg : negP s = false := by unfold negP; simp [hm]
    have hbo : bodyOf s = s := by unfold bodyOf; rw [hneg]; rfl
    rw [hbo] at hbody ⊢
    rw [hneg, fBits_eq false (worth_53 hbody)]
    have h0 := hbody.2.2 0 hbody.1
    have hs : s.size ≤ 2147483647 := by have := hbody.2.1; omega
    have K1 := Lib.hid (fun w => fold_no (w := w) hs (no_fold wNan_head.1 wNan_head.2 fun _ => Or.inl h0))
    have KU := Lib.hid (fun w => light_underscores s w hs (fun i hi => by have := hbody.2.2 i hi; omega))
    have HT := Lib.hid (Tail.of hbody)
    have hNb : Hid (worth s < 10 ^ 15) := worth_lt hbody
    have k1 : (bt s 0 == 43) = false := by simp; omega
    have k2 : (bt s 0 == 45) = false := by simp; omega
    have he : (s.toList == []) = false := by
      cases e : s.toList == []
      · rfl
      · have := (empty_toList s).1 e; have := hbody.1; omega
    have hp : 0 < s.size := hbody.1
    unfold wNan at K1
    have K2 := Lib.hid HT.out.inf
    have K3 := Lib.hid HT.out.infinity
    unfold wInf at K2
    unfold wInfinity at K3
    obtain ⟨X, hX⟩ : ∃ X, X = (if false = true then 2 ^ 63 else 0) + fRung (worth s) := ⟨_, rfl⟩
    rw [← hX]
    have eqor : bits .or .u64 0 ((fRung (worth s) : Nat) : Int) = (X : Int) := by
      rw [hX, if_neg (by simp), Nat.zero_add]
      exact or_zero_u64 _ (by have := fRung_lt (n := worth s) (by have := hNb.out; omega); omega)
    clear hm hbody hbo hneg hX h0
    go_enter Tryz.func117, Tryz.ntmps117
    go_wp2_with (first
      | (go_at_call 140; (with_reducible refine (K1.out _).mono ?_); rintro e w1 ⟨rfl, rfl⟩)
      | (go_at_call 140; (with_reducible refine (K2.out _).mono ?_); rintro e w2 ⟨rfl, rfl⟩)
      | (go_at_call 140; (with_reducible refine (K3.out _).mono ?_); rintro e w2 ⟨rfl, rfl⟩)
      | (go_at_call 143; (with_reducible refine (light_form _).mono ?_); rintro e w2 ⟨rfl, hb2⟩; have HB2 := Lib.hid hb2; clear hb2; have HF2 := Lib.hid (formAt_alloc w2))
      | (go_at_call 145; (with_reducible refine (HT.out.read _).mono ?_); rintro e w3 ⟨b, es, ep, rfl, r1, r2, r3, r4, r5, hb3⟩; have HB3 := Lib.hid hb3; have HF3 := Lib.hid (HF2.out.below hb3 (by simp)); obtain ⟨f1, f2, f3⟩ := HF3.out; have HBITS := Lib.hid (bits_read r1 hNb.out r2 r3); have HBB : Hid (w2.heap.size < w3.heap.size ∧ w2.heap.size < b ∧ b < w3.heap.size) := And.intro (by have := hb3.size; simp at this; omega) (And.intro (by have := r1.lo; simp at this; omega) r1.lt); clear r1 r2 r3 r4 r5 hb3)
      | (go_at_call 146; (with_reducible refine (KU.out _).mono ?_); rintro e w4 ⟨bb, rfl, rfl, rfl⟩)
      | (go_at_call 148; (with_reducible refine HBITS.out.mono ?_); rintro e w5 ⟨rfl, ho⟩; have HO5 := Lib.hid ho; obtain ⟨f1', f2', f3'⟩ := HF3.out.only ho HBB.out.1 (by have := HBB.out.2.1; omega); clear ho)
      | (go_at_call 144; (with_reducible refine (light_float _ _).mono ?_); rintro e w6 ⟨rfl, hb6⟩; have HB6 := Lib.hid hb6; clear hb6))
    go_ret2
    refine ⟨rfl, ?_⟩
    have q1 : Below w1.heap.size w1 w2 := HB2.out
    have q2 := q1.alloc q1.size (.cells #[.int .i64 52, .int .i64 11, .int .i64 (-1023)] 227)
    have q3 := q2.trans (HB3.out.mono q2.size)
    have q5 := q3.trans (HO5.out.toBelow (base := w1.heap.size) (by have := HBB.out; have := q1.size; omega) HBB.out.2.2)
    exact q5.trans (HB6.out.mono q5.size)

end Go.Proofs.YtgolhmiocjpohaaGreatDoor
