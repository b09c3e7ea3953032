/- A slow decimal as the bits of the nearest float (161). No condition beyond those on the block, on the variables that it reads and on sizes. -/
import Derived.Test.YtgolhmiocjpohaaGreatDoorSl9
set_option linter.unusedVariables false
set_option linter.unusedSimpArgs false
namespace Go.Proofs.YtgolhmiocjpohaaGreatDoor
open Go.RowKit Go.PlainAid

theorem wrap_i64 (a : Nat) (h : a < 2 ^ 63) : IntKind.i64.wrap (a : Int) = (a : Int) := by
 simp [IntKind.wrap, IntKind.bits, IntKind.signed]
 omega

theorem bits_and_i64 (a b : Nat) (ha : a < 2 ^ 63) (hb : b < 2 ^ 63) : bits .and .i64 (a : Int) (b : Int) = ((a &&& b : Nat) : Int) := by
 show IntKind.i64.wrap (((BitVec.ofInt 64 (a : Int)) &&& (BitVec.ofInt 64 (b : Int))).toNat : Int) = _
 rw [BitVec.toNat_and, ofInt_u64 a (by omega), ofInt_u64 b (by omega)]
 exact wrap_i64 _ (Nat.lt_of_le_of_lt Nat.and_le_left ha)

theorem bits_low11 (x : Nat) (h : x < 2048) : bits .and .i64 (x : Int) 2047 = (x : Int) := by
 have := bits_and_i64 x (2 ^ 11 - 1) (by omega) (by omega)
 rw [Nat.and_two_pow_sub_one_eq_mod, Nat.mod_eq_of_lt h] at this
 exact this

theorem or_sign (n : Nat) (h : n < 2 ^ 63) : bits .or .u64 (n : Int) 9223372036854775808 = ((9223372036854775808 + n : Nat) : Int) := by
 have h1 := bits_or_u64 n (2 ^ 63) (by omega) (by omega)
 have h2 : 2 ^ 63 + n = 2 ^ 63 ||| n := by
  have := Nat.two_pow_add_eq_or_of_lt h 1
  rwa [Nat.mul_one] at this
 rw [Nat.or_comm, ← h2] at h1
 exact h1

theorem bits_mask52 (m : Nat) (h : m < 2 ^ 64) : bits .and .u64 (m : Int) 4503599627370495 = ((m % 2 ^ 52 : Nat) : Int) := by
 have h := bits_mask_u64 m 52 (2 ^ 52) rfl (by omega) h
 exact h

/-- A way out by one of two labels. -/
def Exit.two (l0 : Nat) (J0 : Act → World → Prop) (l1 : Nat) (J1 : Act → World → Prop) (Q : Exit → Act → World → Prop) : Exit → Act → World → Prop
 | .goto l, a, w => (l = l0 ∧ J0 a w) ∨ (l = l1 ∧ J1 a w)
 | e, a, w => Q e a w

section
variable {P : Program} {a : Act} {w : World} {Q : Exit → Act → World → Prop} {l0 l1 : Nat} {J0 J1 : Act → World → Prop}

/-- A scope with two labels, none of which is left by a jump. -/
theorem wp_scope_two {c r0 r1 : Code} (l0 l1 : Nat) (J0 J1 : Act → World → Prop) (h0 : findLabel c l0 = some r0) (h1 : findLabel c l1 = some r1) (first : c.wp P (Exit.two l0 J0 l1 J1 Q) a w)
  (pass0 : ∀ a w, J0 a w → r0.wp P (Exit.noGoto Q) a w) (pass1 : ∀ a w, J1 a w → r1.wp P (Exit.noGoto Q) a w) : (Code.scope c).wp P Q a w := by
 intro b k cs
 have key : ∀ (l : Nat) (r : Code) (a : Act) (w : World), findLabel c l = some r → r.wp P (Exit.noGoto Q) a w → ∃ e a' w', Q e a' w' ∧ ∃ rr, gotoIn l (.inScope c :: k) = some (.code rr :: .inScope c :: k) ∧ Arrives P (lone (b.at a (.code rr :: .inScope c :: k)) cs w) b k cs e a' w' := by
  intro l r a w hf hw
  have hg : gotoIn l (.inScope c :: k) = some (.code r :: .inScope c :: k) := by simp [gotoIn, hf]
  obtain ⟨e, a₁, w₁, hq, harr⟩ := hw b (.inScope c :: k) cs
  cases e with
  | normal => exact ⟨.normal, a₁, w₁, hq, r, hg, Steps.trans harr (.one step_inScope)⟩
  | exit id => exact ⟨.exit id, a₁, w₁, hq, r, hg, fun k' hk => harr k' (by simp [exitTo, hk])⟩
  | goto l' => exact hq.elim
  | ret => exact ⟨_, a₁, w₁, hq, r, hg, harr⟩
  | panic ch => exact ⟨_, a₁, w₁, hq, r, hg, harr⟩
  | outgrown => exact ⟨_, a₁, w₁, hq, r, hg, harr⟩
 obtain ⟨e, a₁, w₁, hq, harr⟩ := first b (.inScope c :: k) cs
 cases e with
 | normal => exact ⟨.normal, a₁, w₁, hq, .head step_scope (Steps.trans harr (.one step_inScope))⟩
 | exit id => exact ⟨.exit id, a₁, w₁, hq, fun k' hk => .head step_scope (harr k' (by simp [exitTo, hk]))⟩
 | goto l' =>
  rcases hq with ⟨rfl, hJ⟩ | ⟨rfl, hJ⟩
  ·obtain ⟨e₂, a₂, w₂, hq₂, rr, hg, harr₂⟩ := key _ _ a₁ w₁ h0 (pass0 _ _ hJ)
   exact ⟨e₂, a₂, w₂, hq₂, .of_steps (.head step_scope (harr _ hg)) harr₂⟩
  ·obtain ⟨e₂, a₂, w₂, hq₂, rr, hg, harr₂⟩ := key _ _ a₁ w₁ h1 (pass1 _ _ hJ)
   exact ⟨e₂, a₂, w₂, hq₂, .of_steps (.head step_scope (harr _ hg)) harr₂⟩
 | ret => exact ⟨_, a₁, w₁, hq, .of_steps (.one step_scope) harr⟩
 | panic ch => exact ⟨_, a₁, w₁, hq, .of_steps (.one step_scope) harr⟩
 | outgrown => exact ⟨_, a₁, w₁, hq, .of_steps (.one step_scope) harr⟩

end

/-- The frame of floatBits. -/
def Fr161 (b : Nat) (x5 x6 x7 : Value) (u : Nat → Value) : Act := { tmps := #[.pointer (some ⟨b, 0, none⟩), .pointer (some ⟨10, 0, none⟩), u 2, u 3, u 4, x5, x6, x7, u 8, u 9, u 10, u 11, u 12, u 13, u 14, u 15, u 16, u 17, u 18, u 19, u 20, u 21, u 22, u 23, u 24, u 25, u 26, u 27, u 28, u 29, u 30, u 31, u 32, u 33, u 34, u 35, u 36, u 37, u 38, u 39, u 40, u 41, u 42, u 43, u 44, u 45, u 46, u 47, u 48, u 49, u 50, u 51, u 52, u 53, u 54, u 55, u 56, u 57, u 58, u 59, u 60, u 61, u 62, u 63, u 64, u 65, u 66, u 67, u 68, u 69, u 70, u 71, u 72, u 73, u 74, u 75, u 76, u 77, u 78, u 79, u 80, u 81, u 82, u 83, u 84, u 85, u 86, u 87, u 88, u 89, u 90, u 91, u 92, u 93, u 94, u 95, u 96, u 97, u 98, u 99, u 100, u 101, u 102, u 103, u 104, u 105, u 106, u 107, u 108, u 109, u 110, u 111, u 112, u 113, u 114, u 115, u 116, u 117, u 118, u 119, u 120, u 121, u 122, u 123, u 124, u 125, u 126, u 127, u 128, u 129, u 130, u 131, u 132, u 133, u 134, u 135, u 136, u 137, u 138, u 139, u 140, u 141, u 142, u 143, u 144, u 145, u 146, u 147, u 148, u 149, u 150, u 151, u 152, u 153, u 154, u 155, u 156, u 157, u 158, u 159, u 160, u 161, u 162, u 163, u 164, u 165, u 166, u 167, u 168, u 169, u 170, u 171, u 172, u 173, u 174, u 175, u 176, u 177, u 178, u 179, u 180, u 181, u 182, u 183, u 184, u 185, u 186, u 187, u 188, u 189, u 190, u 191, u 192, u 193, u 194, u 195, u 196, u 197, u 198, u 199, u 200, u 201, u 202, u 203, u 204, u 205, u 206, u 207, u 208, u 209, u 210, u 211, u 212, u 213, u 214, u 215, u 216, u 217, u 218, u 219, u 220, u 221, u 222, u 223, u 224, u 225, u 226, u 227, u 228, u 229, u 230, u 231, u 232, u 233, u 234, u 235, u 236, u 237, u 238, u 239, u 240, u 241, u 242], defers := [] }

/-- The world at a jump. -/
def Land (b : Nat) (neg : Bool) (w wx : World) : Prop := (∃ es ep tr, SDec wx b es ep neg tr) ∧ Only b w wx

/-- What is put together in the end. -/
def FinIs (r : Nat) (v5 v6 v7 : Value) : Prop :=
 ∃ (m c : Nat) (ov : Bool), v5 = .bool ov ∧ v6 = .int .i64 ((c : Int) - 1023) ∧ v7 = .int .u64 (m : Nat) ∧ c < 2048 ∧ m < 2 ^ 53 ∧ c * 2 ^ 52 + m % 2 ^ 52 = cutRung r ∧ ov = overRung r

def JOut (b : Nat) (neg : Bool) (r : Nat) (w : World) (a : Act) (wx : World) : Prop := ∃ (u : Nat → Value) (x5 x6 x7 : Value), a = Fr161 b x5 x6 x7 u ∧ FinIs r x5 x6 x7 ∧ Land b neg w wx
def JOver (b : Nat) (neg : Bool) (r : Nat) (w : World) (a : Act) (wx : World) : Prop := ∃ (u : Nat → Value) (x6 x7 : Value), a = Fr161 b (.bool false) x6 x7 u ∧ (cutRung r = 9218868437227405312 ∧ overRung r = true) ∧ Land b neg w wx

theorem Land.drewN {b : Nat} {neg : Bool} {w wx : World} (h : Land b neg w wx) (n : Nat) : Land b neg w (wx.drewN n) := by
 obtain ⟨⟨es, ep, tr, h1⟩, h2⟩ := h
 exact ⟨⟨es, ep, tr, h1.drewN n⟩, h2.drewN n⟩

theorem jover_of {b : Nat} {neg : Bool} {r : Nat} {w wx : World} {a : Act} {x6 x7 : Value} (h : a = Fr161 b (.bool false) x6 x7 (fun i => a.tmps.getD i undef)) (h1 : cutRung r = 9218868437227405312 ∧ overRung r = true) (h2 : Land b neg w wx) : JOver b neg r w a wx :=
 ⟨_, _, _, h, h1, h2⟩

theorem jout_of {b : Nat} {neg : Bool} {r : Nat} {w wx : World} {a : Act} {x5 x6 x7 : Value} (h : a = Fr161 b x5 x6 x7 (fun i => a.tmps.getD i undef)) (h1 : FinIs r x5 x6 x7) (h2 : Land b neg w wx) : JOut b neg r w a wx :=
 ⟨_, _, _, _, h, h1, h2⟩

theorem InfoAt.drewN {w : World} (h : InfoAt w) (n : Nat) : InfoAt (w.drewN n) :=
 ⟨by rw [cell_heap_eq (heap_drewN _ _)]; exact h.m, by rw [cell_heap_eq (heap_drewN _ _)]; exact h.e, by rw [cell_heap_eq (heap_drewN _ _)]; exact h.b⟩

theorem cut_low {r : Nat} (h : r < 9218868437227405312) : cutRung r = r ∧ overRung r = false := ⟨by unfold cutRung; rw [if_neg (by omega)], decide_eq_false (by omega)⟩

/-- The state while scaling: exponent x. -/
def Scaling (b : Nat) (neg : Bool) (A B : Nat) (E : Int) (p q : Nat) (w wx : World) (es : List Nat) (ep : Int) (tr : Bool) : Prop :=
 SDec wx b es ep neg tr ∧ Slow A B E p q es ep tr ∧ Only b w wx

/-- Behind the first loop. -/
def Scaled1 (b : Nat) (neg : Bool) (A B : Nat) (E : Int) (w wx : World) (v : Value) : Prop :=
 ∃ (p : Nat) (es : List Nat) (ep : Int) (tr : Bool), v = .int .i64 (p : Nat) ∧ Scaling b neg A B E p 0 w wx es ep tr ∧ p ≤ 1099 ∧ -330 ≤ ep ∧ ep ≤ 0

/-- Behind the second loop. -/
def Scaled2 (b : Nat) (neg : Bool) (A B : Nat) (E : Int) (w wx : World) (v : Value) : Prop :=
 ∃ (p q : Nat) (es : List Nat) (tr : Bool), v = .int .i64 (E + 1) ∧ E = (p : Int) - q - 1 ∧ p ≤ 1099 ∧ q ≤ 2300 ∧ Scaling b neg A B E p q w wx es 0 tr

/-- Behind the small ones. -/
def Scaled3 (b : Nat) (neg : Bool) (A B : Nat) (E : Int) (p q : Nat) (w wx : World) (v : Value) : Prop :=
 ∃ (k : Nat) (es : List Nat) (ep : Int) (tr : Bool), v = .int .i64 (expOf E) ∧ (k : Int) = expOf E - E ∧ Scaling b neg A B E (p + k) q w wx es ep tr ∧ -60 ≤ ep ∧ ep ≤ 0

/-- What is put together in the end. -/
def SlowParts (r : Nat) (v6 v7 : Value) : Prop :=
 ∃ (M : Nat) (e : Int), v6 = .int .i64 e ∧ v7 = .int .u64 (M : Nat) ∧ M < 2 ^ 53 ∧ -1022 ≤ e ∧ e ≤ 1023 ∧ (2 ^ 52 ≤ M → (r : Int) = (e + 1022) * 2 ^ 52 + M) ∧ (M < 2 ^ 52 → r = M)

set_option maxHeartbeats 3200000 in
set_option maxRecDepth 100000 in
theorem slow_bits_gen (w : World) (base b : Nat) (ds : List Nat) (dp : Int) (neg : Bool) (A B r : Nat) (E : Int) (h : SDec w b ds dp neg false) (hh : 0 < ds.length) (hA : 0 < A) (hB : 0 < B) (hE : IsLog A B E) (hr : Rung A B r)
  (hv : SlowEnv base w) (hb : base ≤ b) (htiny : dp < -330 → r = 0) (hhuge : 310 < dp → cutRung r = 9218868437227405312 ∧ overRung r = true) (hmid : -330 ≤ dp → dp ≤ 310 → Slow A B E 0 0 ds dp false ∧ -1112 ≤ E ∧ E ≤ 1040) :
  Calls Tryz.prog 161 #[.pointer (some ⟨b, 0, none⟩), .pointer (some ⟨10, 0, none⟩)] w fun e w' => e = .returned (.tuple #[.int .u64 (sgv neg + cutRung r : Nat), .bool (overRung r)]) ∧ Only b w w' := by
 have HV := Lib.hid hv
 have HD := Lib.hid h
 have HR := Lib.hid hr
 have HE := Lib.hid hE
 have HT := Lib.hid htiny
 have HHU := Lib.hid hhuge
 have HMI := Lib.hid hmid
 obtain ⟨c0, c1⟩ : w.cell? ⟨b, 800, none⟩ = some (.int .i64 (ds.length : Nat)) ∧ w.cell? ⟨b, 801, none⟩ = some (.int .i64 dp) := by obtain ⟨g, hr, _⟩ := h.row; exact ⟨hr.cn, hr.cp⟩
 have hne : (((ds.length : Nat) : Int) == 0) = false := decide_eq_false (by omega)
 clear h hr hv hE htiny hhuge hmid
 go_enter Tryz.func161, Tryz.ntmps161
 go_wp2_with fail
 refine wp_scope_two 0 1 (JOut b neg r w) (JOver b neg r w) rfl rfl ?first ?p0 ?p1
 case p0 =>
  rintro a wx ⟨u, x5, x6, x7, rfl, ⟨m, c, ov, rfl, rfl, rfl, hc, hm, hcm, hov⟩, ⟨es, ep, tr, hd⟩, ho⟩
  unfold Fr161
  clear c0 c1 hne
  have HCM := Lib.hid (And.intro hcm hov)
  have HO := Lib.hid ho
  have HVX := HV.out.only ho hb
  have i0 := HVX.info.m
  have i1 := HVX.info.e
  have i2 := HVX.info.b
  have cs : wx.cell? ⟨b, 802, none⟩ = some (.bool neg) := by obtain ⟨g, hr, _⟩ := hd.row; exact hr.cs
  clear hd ho HVX hcm hov
  have hlow : bits .and .u64 (m : Int) 4503599627370495 = ((m % 2 ^ 52 : Nat) : Int) := bits_mask52 m (by omega)
  have hexp : bits .and .i64 ((c : Int) - 1023 + 1023) 2047 = (c : Int) := by rw [show (c : Int) - 1023 + 1023 = (c : Int) by omega]; exact bits_low11 c hc
  have hexp' : bits .and .i64 (c : Int) 2047 = (c : Int) := bits_low11 c hc
  obtain ⟨t, ht⟩ : ∃ t, t = m % 2 ^ 52 := ⟨_, rfl⟩
  have htb : t < 4503599627370496 := by rw [ht]; exact Nat.mod_lt _ (by omega)
  rw [← ht] at hlow HCM
  clear ht
  obtain ⟨F, hF⟩ : ∃ F, F = c * 2 ^ 52 := ⟨_, rfl⟩
  have hFI : (c : Int) * 4503599627370496 = (F : Int) := by rw [hF]; simp
  have hjoin : bits .or .u64 (t : Int) (F : Int) = ((F + t : Nat) : Int) := by rw [hF]; exact bits_joined t c htb hc
  have hFb : F + t < 2 ^ 63 := by rw [hF]; have := HCM.out.1; unfold cutRung at this; split at this <;> omega
  have hsign : bits .or .u64 ((F + t : Nat) : Int) 9223372036854775808 = ((9223372036854775808 + (F + t) : Nat) : Int) := or_sign (F + t) hFb
  rw [← hF] at HCM
  clear hF
  obtain ⟨G, hG⟩ : ∃ G, G = F + t := ⟨_, rfl⟩
  rw [← hG] at hjoin hFb hsign HCM
  clear hG
  have hsgv : Hid (∀ neg : Bool, sgv neg = if neg then 9223372036854775808 else 0) := fun _ => rfl
  cases neg with
  | false =>
   go_wp2_with fail
   go_quiet (fail)
   go_wp2_with fail
   rw [Exit.noGoto_ret]
   have hr : Tryz.f161.results = #[Go.ResultVar.tmp 4, Go.ResultVar.tmp 5] := rfl
   refine bodyPost_ret (v := .tuple #[.int .u64 (G : Nat), .bool ov]) (by simp [results, hr, go_sem]) rfl ⟨?_, (HO.out.drewN _)⟩
   rw [HCM.out.2, ← HCM.out.1]
   simp [sgv]
  | true =>
   go_wp2_with fail
   go_quiet (fail)
   go_wp2_with fail
   go_quiet (fail)
   go_wp2_with fail
   rw [Exit.noGoto_ret]
   have hr : Tryz.f161.results = #[Go.ResultVar.tmp 4, Go.ResultVar.tmp 5] := rfl
   refine bodyPost_ret (v := .tuple #[.int .u64 (9223372036854775808 + G : Nat), .bool ov]) (by simp [results, hr, go_sem]) rfl ⟨?_, ((HO.out.drewN _).drewN _)⟩
   rw [HCM.out.2, ← HCM.out.1]
   simp [sgv]
 case p1 =>
  rintro a wx ⟨u, x6, x7, rfl, hval, ⟨es, ep, tr, hd⟩, ho⟩
  unfold Fr161
  clear c0 c1 hne
  have HCM := Lib.hid hval
  have HO := Lib.hid ho
  have HVX := HV.out.only ho hb
  have i0 := HVX.info.m
  have i1 := HVX.info.e
  have i2 := HVX.info.b
  have cs : wx.cell? ⟨b, 802, none⟩ = some (.bool neg) := by obtain ⟨g, hr, _⟩ := hd.row; exact hr.cs
  clear hd ho HVX hval
  have hexp : bits .and .i64 2047 2047 = 2047 := bits_low11 2047 (by omega)
  have hlow : bits .and .u64 0 4503599627370495 = 0 := bits_mask52 0 (by omega)
  have hjoin : bits .or .u64 0 9218868437227405312 = 9218868437227405312 := bits_joined 0 2047 (by omega) (by omega)
  have hsign : bits .or .u64 9218868437227405312 9223372036854775808 = 18442240474082181120 := or_sign 9218868437227405312 (by omega)
  cases neg with
  | false =>
   go_wp2_with fail
   go_quiet (fail)
   go_wp2_with fail
   go_step3
   go_wp2_with fail
   go_quiet (fail)
   go_wp2_with fail
   rw [Exit.noGoto_ret]
   have hr : Tryz.f161.results = #[Go.ResultVar.tmp 4, Go.ResultVar.tmp 5] := rfl
   refine bodyPost_ret (v := .tuple #[.int .u64 9218868437227405312, .bool true]) (by simp [results, hr, go_sem]) rfl ⟨?_, by first | exact HO.out.drewN _ | exact (HO.out.drewN _).drewN _⟩
   rw [HCM.out.1, HCM.out.2]
   simp [sgv]
  | true =>
   go_wp2_with fail
   go_quiet (fail)
   go_wp2_with fail
   go_step3
   go_wp2_with fail
   go_quiet (fail)
   go_wp2_with fail
   go_quiet (fail)
   go_wp2_with fail
   rw [Exit.noGoto_ret]
   have hr : Tryz.f161.results = #[Go.ResultVar.tmp 4, Go.ResultVar.tmp 5] := rfl
   refine bodyPost_ret (v := .tuple #[.int .u64 18442240474082181120, .bool true]) (by simp [results, hr, go_sem]) rfl ⟨?_, by first | exact (HO.out.drewN _).drewN _ | exact ((HO.out.drewN _).drewN _).drewN _⟩
   rw [HCM.out.1, HCM.out.2]
   simp [sgv]
 have HLW : Hid (Land b neg w w) := ⟨⟨ds, dp, false, HD.out⟩, Only.refl _ _⟩
 by_cases hhi : 310 < dp
 ·have HVAL := Lib.hid (HHU.out hhi)
  go_wp2_with fail
  go_step3
  exact Or.inr ⟨rfl, jover_of rfl HVAL.out HLW.out⟩
 by_cases hlo : dp < -330
 ·have HZ := Lib.hid (HT.out hlo)
  have i2 := HV.out.info.b
  have HFIN : Hid (FinIs r (.bool false) (.int .i64 (-1023)) (.int .u64 0)) := by
   have hcl := cut_low (r := r) (by rw [HZ.out]; omega)
   exact ⟨0, 0, false, rfl, rfl, rfl, by omega, by omega, by rw [hcl.1, HZ.out], hcl.2.symm⟩
  go_wp2_with fail
  go_step3
  exact Or.inl ⟨rfl, jout_of rfl HFIN.out HLW.out⟩
 obtain ⟨hs, hE1, hE2⟩ := HMI.out (by omega) (by omega)
 have HS := Lib.hid hs
 clear hs
 go_upto_block 0 with fail
 clear c0 hne
 go_cut [6] from 8 to 60 (fun s6 wx => Scaled1 b neg A B E w wx s6)
 case first =>
  go_wp2_with fail
  clear c1
  go_loopw [6] (fun s6 wx => ∃ (p : Nat) (es : List Nat) (ep : Int) (tr : Bool), s6 = .int .i64 (p : Nat) ∧ Scaling b neg A B E p 0 w wx es ep tr ∧ p ≤ 1067 ∧ -330 ≤ ep ∧ ep ≤ 310) (fun s6 _ => 1200 - (intOf s6).toNat)
  case atStart => exact ⟨0, ds, dp, false, rfl, ⟨HD.out, HS.out, Only.refl _ _⟩, by omega, by omega, by omega⟩
  case round =>
   clear HD HS
   obtain ⟨p, es, ep, tr, rfl, ⟨hd, hs, ho⟩, hp, hel, heh⟩ := hrel
   have HD := Lib.hid hd
   have HS := Lib.hid hs
   have HO := Lib.hid ho
   have c1 : wr.cell? ⟨b, 801, none⟩ = some (.int .i64 ep) := by obtain ⟨g, hr, _⟩ := hd.row; exact hr.cp
   obtain ⟨Bp, op, cap, _, _, hcap, hsl, hrow⟩ := (HV.out.only ho hb).pow
   clear hd hs ho
   by_cases hpos : 0 < ep
   ·have hpE : (p : Int) - (0 : Nat) ≤ E := HS.out.ge1 hB HE.out hpos
    obtain ⟨m, rfl⟩ : ∃ m : Nat, ep = m := ⟨ep.toNat, by omega⟩
    have hp40 : p ≤ 1040 := by omega
    obtain ⟨k, hk⟩ : ∃ k, k = pw m := ⟨_, rfl⟩
    obtain ⟨_, hk1, hk2⟩ := pw_le m (by omega)
    rw [← hk] at hk1 hk2
    have HH := Lib.hid (fun n => slow_down (wr.drewN n) b es m neg tr A B p 0 k E (HD.out.drewN n) HS.out hB HE.out (by omega) (by omega) hk1 (by omega))
    by_cases h9 : m < 9
    ·have hcm := hrow m h9
     rw [← hk] at hcm
     have h9I : (m : Int) < 9 := by omega
     have h9J : ¬ (9 : Int) ≤ (m : Int) := by omega
     clear hrow hpE hk
     go_wp2_with fail
     go_quiet (fail)
     go_wp2_with fail
     go_quiet (fail)
     go_wp2_with (go_at_call 192; (try simp only [World.drewN_drewN]); (with_reducible refine (HH.out _).mono ?_); rintro e9 w9 ⟨rfl, es', ep', tr', t1, t2, t3, t4, t5, t6⟩; have H9 := Lib.hid (And.intro t1 (And.intro t2 (And.intro t3 (And.intro t4 (And.intro t5 t6))))); clear t1 t2 t3 t4 t5 t6)
     go_roundw
     case rel =>
      obtain ⟨t1, t2, t3, t4, t5, t6⟩ := H9.out
      exact ⟨p + k, es', ep', tr', by go_num, ⟨t1, t2, (HO.out.drewN _).trans t6⟩, by omega, by omega, by omega⟩
     case measure => simp [intOf]; omega
    ·have hk27 : k = 27 := by rw [hk]; exact pw_big (by omega)
     subst hk27
     have HH := Lib.hid (show ∀ n, Calls Tryz.prog 192 #[.pointer (some ⟨b, 0, none⟩), .int .i64 (-27)] (wr.drewN n) (Shifts b neg A B E (p + 27) 0 ((m : Int) - 57) m (wr.drewN n)) from HH.out)
     have h9J : (9 : Int) ≤ (m : Int) := by omega
     clear hrow hpE hk h9
     go_wp2_with fail
     go_quiet (fail)
     go_wp2_with (go_at_call 192; (try simp only [World.drewN_drewN]); (with_reducible refine (HH.out _).mono ?_); rintro e9 w9 ⟨rfl, es', ep', tr', t1, t2, t3, t4, t5, t6⟩; have H9 := Lib.hid (And.intro t1 (And.intro t2 (And.intro t3 (And.intro t4 (And.intro t5 t6))))); clear t1 t2 t3 t4 t5 t6)
     go_roundw
     case rel =>
      obtain ⟨t1, t2, t3, t4, t5, t6⟩ := H9.out
      exact ⟨p + 27, es', ep', tr', by go_num, ⟨t1, t2, (HO.out.drewN _).trans t6⟩, by omega, by omega, by omega⟩
     case measure => simp [intOf]; omega
   ·have hp0 : Hid (ep ≤ 0) := Int.not_lt.1 hpos
    clear hrow
    go_wp2_with fail
    go_meet
    case rel => exact ⟨p, es, ep, tr, rfl, ⟨HD.out, HS.out, HO.out⟩, by omega, hel, hp0.out⟩
 case rest =>
 obtain ⟨p, es, ep, tr, rfl, ⟨hd, hs, ho⟩, hp, hel, heh⟩ := hcut
 have HP := Lib.hid hp
 have HD1 := Lib.hid hd
 have HS1 := Lib.hid hs
 have HO1 := Lib.hid ho
 clear HD HS hd hs ho c1
 go_upto_block 2 with fail
 go_cut [6] from 8 to 102 (fun s6 wx => Scaled2 b neg A B E w wx s6)
 case first =>
  go_wp2_with fail
  go_loopw [6] (fun s6 wx => ∃ (q : Nat) (es : List Nat) (ep : Int) (tr : Bool) (x : Int), s6 = .int .i64 x ∧ x = (p : Int) - q ∧ Scaling b neg A B E p q w wx es ep tr ∧ E < x ∧ -330 ≤ ep ∧ ep ≤ 0) (fun s6 _ => (intOf s6 + 3000).toNat)
  case atStart => exact ⟨0, es, ep, tr, p, rfl, by simp, ⟨HD1.out, HS1.out, HO1.out⟩, by have := HS1.out.lt1 hB HE.out heh; simpa using this, hel, heh⟩
  case round =>
   clear HD1 HS1 HO1 hel heh
   clear ep es tr
   obtain ⟨q, es, ep, tr, x, rfl, hx, ⟨hd, hs, ho⟩, hEx, hel, heh⟩ := hrel
   have HX := Lib.hid (And.intro hx hEx)
   have hx1 : x ≤ 1099 := by omega
   have hx2 : -1112 < x := by omega
   have HD := Lib.hid hd
   have HS := Lib.hid hs
   have HO := Lib.hid ho
   obtain ⟨g, hrd, hgd⟩ := hd.row
   have c1 := hrd.cp
   have c0 := hrd.cd (i := 0) (by omega)
   rw [hgd 0 hs.headed.pos] at c0
   obtain ⟨d0, hd0⟩ : ∃ d0, d0 = dAt es 0 := ⟨_, rfl⟩
   have HD0 := Lib.hid hd0
   have hd9 : d0 < 10 := by rw [hd0]; exact hs.headed.digits.all 0
   rw [← hd0] at c0
   obtain ⟨Bp, op, cap, _, _, hcap, hsl, hrow⟩ := (HV.out.only ho hb).pow
   have HVW := Lib.hid (HV.out.only ho hb)
   clear hd hs ho hrd hgd hd0 hx hEx
   obtain ⟨m, hm⟩ : ∃ m : Nat, ep = -(m : Int) := ⟨(-ep).toNat, by omega⟩
   subst hm
   have hnn : - -(m : Int) = (m : Int) := by omega
   by_cases hneg : 0 < m
   ·have hnegI : -(m : Int) < 0 := by omega
    obtain ⟨k, hk⟩ : ∃ k, k = pw m := ⟨_, rfl⟩
    obtain ⟨hk0, hk1, hk2⟩ := pw_le m hneg
    rw [← hk] at hk0 hk1 hk2
    have HDN := Lib.hid (HS.out.down hB HE.out (k := k) rfl hk0)
    have HH := Lib.hid (fun n => slow_up (wr.drewN n) base b es (-(m : Int)) neg tr A B p q k E (HD.out.drewN n) HS.out hB HE.out (HVW.out.cheat.heap_eq (heap_drewN _ _)) (by omega) (by omega) hk1 (by omega))
    by_cases h9 : m < 9
    ·have hcm := hrow m h9
     rw [← hk] at hcm
     have h9I : (m : Int) < 9 := by omega
     have h9J : ¬ (9 : Int) ≤ (m : Int) := by omega
     clear hrow hk hk0
     go_wp2_with fail
     go_quiet (fail)
     go_wp2_with fail
     go_quiet (fail)
     go_wp2_with (go_at_call 192; (try simp only [World.drewN_drewN]); (with_reducible refine (HH.out _).mono ?_); rintro e9 w9 ⟨rfl, es', ep', tr', t1, t2, t3, t4, t5, t6⟩; have H9 := Lib.hid (And.intro t1 (And.intro t2 (And.intro t3 (And.intro t4 (And.intro t5 t6))))); clear t1 t2 t3 t4 t5 t6)
     go_roundw
     case rel =>
      obtain ⟨t1, t2, t3, t4, t5, t6⟩ := H9.out
      obtain ⟨x1, x2⟩ := HX.out
      have hd := HDN.out
      have h0 : ep' ≤ 0 := by
       apply Classical.byContradiction
       intro hno
       have := t2.ge1 hB HE.out (by omega)
       omega
      exact ⟨q + k, es', ep', tr', x - k, by first | (go_num; done) | (go_num; omega), by omega, ⟨t1, t2, (HO.out.drewN _).trans t6⟩, by omega, by omega, h0⟩
     case measure => simp [intOf]; omega
    ·have hk27 : k = 27 := by rw [hk]; exact pw_big (by omega)
     subst hk27
     have HH := Lib.hid (show ∀ n, Calls Tryz.prog 192 #[.pointer (some ⟨b, 0, none⟩), .int .i64 27] (wr.drewN n) (Shifts b neg A B E p (q + 27) (-(m : Int)) (-(m : Int) + 20) (wr.drewN n)) from HH.out)
     have h9J : (9 : Int) ≤ (m : Int) := by omega
     clear hrow hk hk0 h9
     go_wp2_with fail
     go_quiet (fail)
     go_wp2_with (go_at_call 192; (try simp only [World.drewN_drewN]); (with_reducible refine (HH.out _).mono ?_); rintro e9 w9 ⟨rfl, es', ep', tr', t1, t2, t3, t4, t5, t6⟩; have H9 := Lib.hid (And.intro t1 (And.intro t2 (And.intro t3 (And.intro t4 (And.intro t5 t6))))); clear t1 t2 t3 t4 t5 t6)
     go_roundw
     case rel =>
      obtain ⟨t1, t2, t3, t4, t5, t6⟩ := H9.out
      obtain ⟨x1, x2⟩ := HX.out
      have hd := HDN.out
      have h0 : ep' ≤ 0 := by
       apply Classical.byContradiction
       intro hno
       have := t2.ge1 hB HE.out (by omega)
       omega
      exact ⟨q + 27, es', ep', tr', x - 27, by first | (go_num; done) | (go_num; omega), by omega, ⟨t1, t2, (HO.out.drewN _).trans t6⟩, by omega, by omega, h0⟩
     case measure => simp [intOf]; omega
   ·have hm0 : m = 0 := by omega
    subst hm0
    have c1 : wr.cell? ⟨b, 801, none⟩ = some (.int .i64 0) := by simpa using c1
    by_cases h5 : d0 < 5
    ·have h5I : (48 : Int) + (d0 : Int) < 53 := by omega
     have h5J : ((48 + d0 : Nat) : Int) < 53 := by omega
     have HDN : Hid (E < (p : Int) - (q + 1 : Nat)) := HS.out.halfdown hB HE.out (by rw [← HD0.out]; exact h5)
     have HH := Lib.hid (show ∀ n, Calls Tryz.prog 192 #[.pointer (some ⟨b, 0, none⟩), .int .i64 1] (wr.drewN n) (Shifts b neg A B E p (q + 1) 0 20 (wr.drewN n)) from fun n => slow_up (wr.drewN n) base b es 0 neg tr A B p q 1 E (HD.out.drewN n) HS.out hB HE.out (HVW.out.cheat.heap_eq (heap_drewN _ _)) (by omega) (by omega) (by omega) (by omega))
     have hcm : wr.cell? ⟨Bp, op, none⟩ = some (.int .i64 1) := hrow 0 (by omega)
     clear hrow hnn
     go_wp2_with fail
     go_quiet (fail)
     go_wp2_with fail
     go_quiet (fail)
     go_wp2_with (go_at_call 192; (try simp only [World.drewN_drewN]); (with_reducible refine (HH.out _).mono ?_); rintro e9 w9 ⟨rfl, es', ep', tr', t1, t2, t3, t4, t5, t6⟩; have H9 := Lib.hid (And.intro t1 (And.intro t2 (And.intro t3 (And.intro t4 (And.intro t5 t6))))); clear t1 t2 t3 t4 t5 t6)
     go_roundw
     case rel =>
      obtain ⟨t1, t2, t3, t4, t5, t6⟩ := H9.out
      obtain ⟨x1, x2⟩ := HX.out
      have hd := HDN.out
      have h0 : ep' ≤ 0 := by
       apply Classical.byContradiction
       intro hno
       have := t2.ge1 hB HE.out (by omega)
       omega
      exact ⟨q + 1, es', ep', tr', x - 1, by first | (go_num; done) | (go_num; omega), by omega, ⟨t1, t2, (HO.out.drewN _).trans t6⟩, by omega, by omega, h0⟩
     case measure => simp [intOf]; omega
    ·have h5I : ¬ (48 : Int) + (d0 : Int) < 53 := by omega
     have h5J : ¬ ((48 + d0 : Nat) : Int) < 53 := by omega
     have HTOP : Hid (E = (p : Int) - q - 1) := HS.out.top hB HE.out (by rw [← HD0.out]; omega)
     clear hrow hnn
     go_wp2_with fail
     go_meet
     case rel =>
      obtain ⟨x1, x2⟩ := HX.out
      have x3 := HTOP.out
      exact ⟨p, q, es, tr, by rw [show x = E + 1 by omega], x3, HP.out, by have := HP.out; omega, HD.out, HS.out, HO.out⟩
 case rest =>
 clear HD1 HS1 HO1 hel heh HP hp
 clear p es ep tr
 obtain ⟨p, q, es, tr, rfl, hEp, hp, hq, hd, hs, ho⟩ := hcut
 have HP := Lib.hid (And.intro hEp (And.intro hp hq))
 have HD2 := Lib.hid hd
 have HS2 := Lib.hid hs
 have HO2 := Lib.hid ho
 have HV2 := Lib.hid (HV.out.only ho hb)
 have i0 := HV2.out.info.m
 have i1 := HV2.out.info.e
 have i2 := HV2.out.info.b
 clear hd hs ho hEp
 go_upto_if 111 with fail
 go_cut [6] from 8 to 125 (fun s6 wx => Scaled3 b neg A B E p q w wx s6)
 case first =>
  by_cases hden : E < -1022
  ·obtain ⟨k, hk⟩ : ∃ k : Nat, (k : Int) = -1022 - E := ⟨(-1022 - E).toNat, by omega⟩
   have HH := Lib.hid (slow_down wc b es 0 neg tr A B p q k E HD2.out HS2.out hB HE.out (by omega) (by omega) (by omega) (by omega))
   have eqk : -1022 - E = (k : Int) := hk.symm
   have eqk2 : E + (k : Int) = -1022 := by omega
   have hki : (k : Int) ≤ 90 := by omega
   have HK := Lib.hid hk
   have HDEN := Lib.hid hden
   clear hk
   go_wp2_with (go_at_call 192; (with_reducible refine HH.out.mono ?_); rintro e9 w9 ⟨rfl, es', ep', tr', t1, t2, t3, t4, t5, t6⟩; have H9 := Lib.hid (And.intro t1 (And.intro t2 (And.intro t3 (And.intro t4 (And.intro t5 t6))))); clear t1 t2 t3 t4 t5 t6)
   go_meet
   case rel =>
    obtain ⟨t1, t2, t3, t4, t5, t6⟩ := H9.out
    exact ⟨k, es', ep', tr', by simp [expOf]; have := HDEN.out; omega, by have := HK.out; have := HDEN.out; unfold expOf; omega, ⟨t1, t2, HO2.out.trans t6⟩, by omega, by omega⟩
  ·go_wp2_with fail
   go_meet
   case rel => exact ⟨0, es, 0, tr, by unfold expOf; rw [show max E (-1022) = E by omega], by unfold expOf; omega, ⟨HD2.out, HS2.out, HO2.out⟩, by omega, by omega⟩
 case rest =>
 clear HD2 HS2 HO2 HV2 i0 i1 i2
 clear es tr
 obtain ⟨k, es, ep, tr, rfl, hk, ⟨hd, hs, ho⟩, h60, h0⟩ := hcut
 have HK := Lib.hid hk
 have HD3 := Lib.hid hd
 have HS3 := Lib.hid hs
 have HO3 := Lib.hid ho
 have HV3 := Lib.hid (HV.out.only ho hb)
 have i0 := HV3.out.info.m
 have i1 := HV3.out.info.e
 have i2 := HV3.out.info.b
 have cs : wc.cell? ⟨b, 802, none⟩ = some (.bool neg) := by obtain ⟨g, hr, _⟩ := hd.row; exact hr.cs
 clear hd hs ho hk
 obtain ⟨X, hX⟩ : ∃ X, X = expOf E := ⟨_, rfl⟩
 have HX := Lib.hid hX
 have hX1 : -1022 ≤ X := by rw [hX]; unfold expOf; omega
 have hX2 : X ≤ 1040 := by rw [hX]; unfold expOf; omega
 rw [← hX]
 clear hX
 have HLAND : Hid (Land b neg w wc) := ⟨⟨es, ep, tr, HD3.out⟩, HO3.out⟩
 have hEp := HP.out.1
 by_cases hinf : 1024 ≤ X
 ·have HVAL : Hid (cutRung r = 9218868437227405312 ∧ overRung r = true) := by
   have hXE : X = E := by have := HX.out; unfold expOf at this; omega
   obtain ⟨hM1, hM2, hM3⟩ := (rung_parts hB (show IsLog A B ((p : Int) - q - 1) by rw [← hEp]; exact HE.out) HR.out hA (M := _)).1 (by omega) rfl
   have h3 := hM3 (E + 1022).toNat (by omega)
   have h1 : 9218868437227405312 ≤ r := by omega
   exact ⟨by unfold cutRung; rw [if_pos h1], decide_eq_true h1⟩
  have hge : (2047 : Int) ≤ X + 1023 := by omega
  go_wp2_with fail
  go_quiet (fail)
  go_wp2_with fail
  go_step3
  exact Or.inr ⟨rfl, jover_of rfl HVAL.out (HLAND.out.drewN _)⟩
 ·have hge : ¬ (2047 : Int) ≤ X + 1023 := by omega
  obtain ⟨M, hM⟩ : ∃ M, M = rnd (A * 2 ^ (q + 53)) (B * 2 ^ (p + k)) := ⟨_, rfl⟩
  have HMF : Hid (M ≤ 2 ^ 53 ∧ (r : Int) = (X + 1022) * 2 ^ 52 + M ∧ (M < 2 ^ 52 → X = -1022)) := by
   have hXE := HX.out
   have hkE := HK.out
   by_cases hden : E < -1022
   ·have hX0 : X = -1022 := by unfold expOf at hXE; omega
    obtain ⟨hM1, hM2⟩ := (rung_parts hB (show IsLog A B ((p : Int) - q - 1) by rw [← hEp]; exact HE.out) HR.out hA (M := M)).2 (by omega) k (by omega) hM
    exact ⟨by omega, by rw [hX0, hM2]; omega, fun _ => hX0⟩
   ·have hX0 : X = E := by unfold expOf at hXE; omega
    have hk0 : k = 0 := by omega
    subst hk0
    obtain ⟨hM1, hM2, hM3⟩ := (rung_parts hB (show IsLog A B ((p : Int) - q - 1) by rw [← hEp]; exact HE.out) HR.out hA (M := M)).1 (by omega) hM
    obtain ⟨c, hc⟩ : ∃ c : Nat, (c : Int) = E + 1022 := ⟨(E + 1022).toNat, by omega⟩
    have h3 := hM3 c (by omega)
    exact ⟨hM2, by omega, fun h => by omega⟩
  have HH := Lib.hid (show ∀ n, Calls Tryz.prog 192 #[.pointer (some ⟨b, 0, none⟩), .int .i64 53] (wc.drewN n) (Shifts b neg A B E (p + k) (q + 53) ep (ep + 20) (wc.drewN n)) from fun n => slow_up (wc.drewN n) base b es ep neg tr A B (p + k) q 53 E (HD3.out.drewN n) HS3.out hB HE.out (HV3.out.cheat.heap_eq (heap_drewN _ _)) (by omega) (by omega) (by omega) (by omega))
  have HRD : Hid (∀ w9 es9 ep9 tr9, SDec w9 b es9 ep9 neg tr9 → Slow A B E (p + k) (q + 53) es9 ep9 tr9 → Canon es9 → -1000000 ≤ ep9 → ep9 ≤ 20 → Calls Tryz.prog 193 #[.pointer (some ⟨b, 0, none⟩)] w9 fun e w' => e = .returned (.int .u64 (M : Nat)) ∧ w9 = w') := by
   intro w9 es9 ep9 tr9 q1 q2 q3 q4 q5
   rw [hM]
   exact slow_round w9 b es9 ep9 neg tr9 A B (p + k) (q + 53) E q1 q2 q3 hB (by omega) q4 q5 (by rw [← hM]; have := HMF.out.1; omega)
  clear hM
  go_wp2_with fail
  go_quiet (fail)
  go_upto_if 155 with (first
   | (go_at_call 192; (with_reducible refine (HH.out _).mono ?_); rintro e9 w9 ⟨rfl, es9, ep9, tr9, t1, t2, t3, t4, t5, t6⟩; have HL9 : Hid (Land b neg w w9) := ⟨⟨_, _, _, t1⟩, (HO3.out.drewN _).trans t6⟩; have HV9 := HV.out.only ((HO3.out.drewN _).trans t6) hb; have H9 := Lib.hid (HRD.out w9 es9 ep9 tr9 t1 t2 t3 (by omega) (by omega)); have HI9 := Lib.hid HV9.info; obtain ⟨j0, j1, j2⟩ := HV9.info; clear t1 t2 t3 t4 t5 t6 HV9)
   | (go_at_call 193; (with_reducible refine H9.out.mono ?_); rintro e10 w10 ⟨rfl, rfl⟩))
  go_cut [6, 7] from 8 to 172 (fun v6 v7 wx => SlowParts r v6 v7 ∧ Land b neg w wx ∧ InfoAt wx)
  case first =>
   have hb53 := HMF.out.1
   by_cases hMt : M = 9007199254740992
   ·subst hMt
    by_cases hE3 : X = 1023
    ·have HVAL : Hid (cutRung r = 9218868437227405312 ∧ overRung r = true) := by
      have h1 : 9218868437227405312 ≤ r := by have := HMF.out.2.1; omega
      exact ⟨by unfold cutRung; rw [if_pos h1], decide_eq_true h1⟩
     subst hE3
     go_wp2_with fail
     go_quiet (fail)
     go_wp2_with fail
     go_step3
     exact Or.inr ⟨rfl, jover_of rfl HVAL.out (HL9.out.drewN _)⟩
    ·have hge1 : ¬ (2047 : Int) ≤ X + 1 + 1023 := by omega
     have hge2 : ¬ (2047 : Int) ≤ X + 1024 := by omega
     have HX3 : Hid (X + 1 ≤ 1023) := by show _ ≤ _; omega
     go_wp2_with fail
     go_quiet (fail)
     go_wp2_with fail
     go_meet
     case rel => exact ⟨⟨4503599627370496, X + 1, rfl, rfl, by omega, by omega, HX3.out, fun _ => by have := HMF.out.2.1; omega, fun h => by omega⟩, HL9.out.drewN _, HI9.out.drewN _⟩
   ·have hne : ((M : Int) == 9007199254740992) = false := decide_eq_false (by omega)
    have HM2 : Hid (M < 2 ^ 53) := by show _ < _; omega
    have HX3 : Hid (X ≤ 1023) := by show _ ≤ _; omega
    clear hMt
    go_wp2_with fail
    go_meet
    case rel => exact ⟨⟨M, X, rfl, rfl, HM2.out, hX1, HX3.out, fun _ => HMF.out.2.1, fun h => by have := HMF.out.2.1; have := HMF.out.2.2 h; omega⟩, HL9.out, HI9.out⟩
  case rest =>
   clear H9 HL9 HI9 j0 j1 j2 HMF HH HRD
   obtain ⟨⟨m, e, rfl, rfl, hm, he1, he2, hr1, hr2⟩, hland, hinfo⟩ := hcut
   have HLA := Lib.hid hland
   obtain ⟨j0, j1, j2⟩ := hinfo
   have hm2 : m ≤ 9007199254740991 := by omega
   clear hland
   by_cases hbig : 2 ^ 52 ≤ m
   ·have hHalf := bits_half m hbig hm
    obtain ⟨c, hc⟩ : ∃ c : Nat, (c : Int) = e + 1023 := ⟨(e + 1023).toNat, by omega⟩
    have hrr := hr1 hbig
    have hrv : c * 2 ^ 52 + m % 2 ^ 52 = r := by omega
    have hcl := cut_low (r := r) (by omega)
    have HFIN : Hid (FinIs r (.bool false) (.int .i64 e) (.int .u64 (m : Nat))) := ⟨m, c, false, rfl, by rw [show e = (c : Int) - 1023 by omega], rfl, by omega, hm, by rw [hcl.1]; exact hrv, hcl.2.symm⟩
    clear hr1 hr2 hrr hrv hcl hbig hc
    go_wp2_with fail
    go_step3
    exact Or.inl ⟨rfl, jout_of rfl HFIN.out HLA.out⟩
   ·have hHalf := bits_nohalf m (by omega)
    have hrv := hr2 (by omega)
    have hcl := cut_low (r := r) (by omega)
    have HFIN : Hid (FinIs r (.bool false) (.int .i64 (-1023)) (.int .u64 (m : Nat))) := ⟨m, 0, false, rfl, rfl, rfl, by omega, hm, by rw [hcl.1, hrv, Nat.zero_mul, Nat.zero_add]; exact Nat.mod_eq_of_lt (by omega), hcl.2.symm⟩
    clear hr1 hr2 hrv hcl hbig
    go_wp2_with fail
    go_step3
    exact Or.inl ⟨rfl, jout_of rfl HFIN.out HLA.out⟩

/-- A slow decimal as the bits of the nearest float. -/
theorem slow_bits (w : World) (base b : Nat) (ds : List Nat) (dp : Int) (neg : Bool) (A B r : Nat) (h : SDec w b ds dp neg false) (hl : ds.length ≤ 400) (hh : Headed ds) (hs : Same ds dp A B) (hA : 0 < A) (hB : 0 < B) (hr : Rung A B r)
  (hv : SlowEnv base w) (hb : base ≤ b) :
  Calls Tryz.prog 161 #[.pointer (some ⟨b, 0, none⟩), .pointer (some ⟨10, 0, none⟩)] w fun e w' => e = .returned (.tuple #[.int .u64 (sgv neg + cutRung r : Nat), .bool (overRung r)]) ∧ Only b w w' := by
 obtain ⟨E, hE⟩ := IsLog.exists hA hB
 obtain ⟨cs, t1, t2, t3⟩ := trim_exists hh
 have hcs := hs.trim t1
 refine slow_bits_gen w base b ds dp neg A B r E h hh.pos hA hB hE hr hv hb (fun h1 => ?_) (fun h1 => ?_) (fun h1 h2 => ?_)
 ·exact hr.unique (Rung.none hB hA (hcs.tiny t2 hB h1) hE)
 ·have h3 := hr.over hB (hcs.huge t2 h1)
  exact ⟨by unfold cutRung; rw [if_pos (by omega)], decide_eq_true (by omega)⟩
 ·have hm := hcs.mid t2 hA hB h1 h2
  refine ⟨⟨hh, ⟨A, B, by simpa using hs, Near.start hA hB E⟩, by omega, by omega⟩, ?_, ?_⟩
  ·obtain ⟨z, hz, hlo⟩ : ∃ z : Nat, z = 1110 ∧ B ≤ A * 2 ^ z := ⟨_, rfl, hm.lo⟩
   have h3 := isLog_lo (t := 0) (u := z) (v := 0) hE hB (by rw [Nat.pow_zero, Nat.mul_one, Nat.one_mul]; exact hlo)
   omega
  ·obtain ⟨z, hz, h5⟩ : ∃ z : Nat, z = 1040 ∧ A ≤ B * 2 ^ z := ⟨_, rfl, hm.hi⟩
   have h4 : A * 2 ^ 0 < 2 ^ (z + 1) * (B * 2 ^ 0) := by
    have h6 : B * 2 ^ z * 2 = 2 ^ (z + 1) * B := by rw [Nat.mul_assoc, ← Nat.pow_succ, Nat.mul_comm]
    have h7 : 0 < B * 2 ^ z := Nat.mul_pos hB (two_pos _)
    rw [Nat.pow_zero, Nat.mul_one, Nat.mul_one, ← h6]
    omega
   have h3 := isLog_hi (t := z + 1) (u := 0) (v := 0) hE hB h4
   omega

end Go.Proofs.YtgolhmiocjpohaaGreatDoor
