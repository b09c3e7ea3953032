/- A slow decimal rounded to a whole number (201, 193). No condition beyond that on the block. How large a slow decimal is; what the walk of floatBits reads of variables. Plain. No condition. -/
import Derived.Test.YtgolhmiocjpohaaGreatDoorSl7
import Derived.Test.YtgolhmiocjpohaaGreatDoorFl3
import Derived.Test.YtgolhmiocjpohaaGreatDoorHx2
set_option linter.unusedVariables false
set_option linter.unusedSimpArgs false
namespace Go.Proofs.YtgolhmiocjpohaaGreatDoor
open Go.RowKit Go.PlainAid

set_option maxHeartbeats 1600000 in
set_option maxRecDepth 100000 in
theorem slow_roundup (w : World) (b : Nat) (es : List Nat) (ep : Int) (neg tr : Bool) (h : SDec w b es ep neg tr) (n : Nat) (hn : n ≤ 1000000) :
  Calls Tryz.prog 201 #[.pointer (some ⟨b, 0, none⟩), .int .i64 (n : Int)] w fun e w' => e = .returned (.bool (upT es n tr)) ∧ w = w' := by
 obtain ⟨hd, hl, g, hr, hg⟩ := h
 have c0 := hr.cn
 have ct := hr.ct
 have hn0 : ¬ (n : Int) < 0 := by omega
 by_cases hle : es.length ≤ n
 ·have hleI : (es.length : Int) ≤ (n : Int) := by omega
  have hU : upT es n tr = false := by unfold upT; rw [if_pos hle]
  rw [hU]
  clear hr hg
  go_enter Tryz.func201, Tryz.ntmps201
  go_wp2
  go_ret
  exact ⟨rfl, rfl⟩
 ·have hleI : ¬ (es.length : Int) ≤ (n : Int) := by omega
  have hc := hr.cd (i := n) (by omega)
  rw [hg n (by omega)] at hc
  have h8 : (n : Int) < 800 := by omega
  have hd9 := hd.all n
  have hd9' := hd.all (n - 1)
  by_cases h5 : dAt es n = 5 ∧ n + 1 = es.length
  ·obtain ⟨h51, h52⟩ := h5
   rw [h51] at hc
   have h52I : ((n : Int) + 1 == (es.length : Int)) = true := by rw [← h52]; simp
   have hU : upT es n tr = (tr || (decide (0 < n) && decide (dAt es (n - 1) % 2 ≠ 0))) := by unfold upT; rw [if_neg hle, if_pos ⟨h51, h52⟩]
   rw [hU]
   cases tr with
   | true =>
    clear hr hg hU
    go_enter Tryz.func201, Tryz.ntmps201
    go_wp2
    go_ret
    exact ⟨rfl, rfl⟩
   | false =>
    cases n with
    | zero =>
     have h52J : ((1 : Int) == (es.length : Int)) = true := by rw [← h52]; rfl
     clear hr hg hU h51 h52 h52I hle hleI
     have hleJ : ¬ es = [] := by intro e; rw [e] at h52J; simp at h52J
     go_enter Tryz.func201, Tryz.ntmps201
     go_wp2
     go_ret
     exact ⟨rfl, rfl⟩
    | succ k =>
     have hck := hr.cd (i := k) (by omega)
     rw [hg k (by omega)] at hck
     rw [Nat.add_sub_cancel] at hd9' ⊢
     have hk8 : (k : Int) < 800 := by omega
     obtain ⟨d, hdd⟩ : ∃ d, d = dAt es k := ⟨_, rfl⟩
     rw [← hdd] at hck hd9' ⊢
     clear hr hg hU hdd h51 h52
     have hres : (((48 + (d : Int) - 48) % 2) != 0) = (false || decide (0 < k + 1) && decide (d % 2 ≠ 0)) := by
      rw [show (48 + (d : Int) - 48) = (d : Int) by omega]
      have h2 : d % 2 = 0 ∨ d % 2 = 1 := by omega
      rcases h2 with h2 | h2
      ·have : (d : Int) % 2 = 0 := by omega
       simp [this, h2]
      ·have : (d : Int) % 2 = 1 := by omega
       simp [this, h2]
     have HR := Lib.hid hres
     rw [← hres]
     clear hres
     go_enter Tryz.func201, Tryz.ntmps201
     go_wp2
     go_ret
     exact ⟨rfl, rfl⟩
  ·have hU : upT es n tr = decide (5 ≤ dAt es n) := by unfold upT; rw [if_neg hle, if_neg h5]
   rw [hU]
   obtain ⟨d, hdd⟩ : ∃ d, d = dAt es n := ⟨_, rfl⟩
   rw [← hdd] at hc hd9 h5 ⊢
   by_cases hd5 : d = 5
   ·have h52 : ¬ n + 1 = es.length := fun e => h5 ⟨hd5, e⟩
    have h52I : ((n : Int) + 1 == (es.length : Int)) = false := by simp; omega
    subst hd5
    clear hr hg hU h5 hdd h52
    go_enter Tryz.func201, Tryz.ntmps201
    go_wp2
    go_ret
    exact ⟨rfl, rfl⟩
   ·have hd5I : ((48 + d : Nat) : Int) ≠ 53 := by omega
    have hd5b : ((48 + (d : Int)) == 53) = false := by simp; omega
    clear hr hg hU h5 hdd hd5
    have hres : decide ((53 : Int) ≤ 48 + (d : Int)) = decide (5 ≤ d) := decide_eq_decide.2 (by omega)
    rw [← hres]
    clear hres
    go_enter Tryz.func201, Tryz.ntmps201
    go_wp2
    go_ret
    exact ⟨rfl, rfl⟩

theorem slow_roundneg (w : World) (b : Nat) (es : List Nat) (ep : Int) (neg tr : Bool) (h : SDec w b es ep neg tr) (n : Int) (hn : n < 0) (hn2 : -1000000 ≤ n) :
  Calls Tryz.prog 201 #[.pointer (some ⟨b, 0, none⟩), .int .i64 n] w fun e w' => e = .returned (.bool false) ∧ w = w' := by
 obtain ⟨hd, hl, g, hr, hg⟩ := h
 have c0 := hr.cn
 clear hr hg
 go_enter Tryz.func201, Tryz.ntmps201
 go_wp2
 go_ret
 exact ⟨rfl, rfl⟩

/-- What is below a half is rounded away. -/
theorem Slow.small {A B p q : Nat} {E ep : Int} {es : List Nat} {tr : Bool} (hs : Slow A B E p q es ep tr) (hc : Canon es) (hB : 0 < B) (he : E - 53 + q - p ≤ -1) (hep : ep < 0) : rnd (A * 2 ^ q) (B * 2 ^ p) = 0 := by
 obtain ⟨A2, B2, h1, h2⟩ := hs.val
 obtain ⟨m, hm⟩ : ∃ m : Nat, ep = ((0 : Nat) : Int) - (m + 1 : Nat) := ⟨(-ep - 1).toNat, by omega⟩
 have h3 := h1.lt hc.digits (Nat.mul_pos h2.posB (two_pos p)) hm
 rw [Nat.pow_zero, Nat.one_mul] at h3
 have h4 : A2 * 2 ^ q * 10 ≤ A2 * 2 ^ q * 10 ^ (m + 1) := by
  rw [Nat.pow_succ, Nat.mul_comm (10 ^ m), ← Nat.mul_assoc]
  have := Nat.mul_le_mul_left (A2 * 2 ^ q * 10) (ten_pos m)
  omega
 have h5 := h2.half (p := p) (q := q) he 1
 refine rnd_down (N := 0) (by omega) ?_
 apply Classical.byContradiction
 intro hno
 have := h5 (by omega)
 omega

set_option maxHeartbeats 1600000 in
set_option maxRecDepth 100000 in
theorem slow_round (w : World) (b : Nat) (es : List Nat) (ep : Int) (neg tr : Bool) (A B p q : Nat) (E : Int) (h : SDec w b es ep neg tr) (hs : Slow A B E p q es ep tr) (hc : Canon es) (hB : 0 < B) (he : E - 53 + q - p ≤ -1)
  (h1 : -1000000 ≤ ep) (h2 : ep ≤ 20) (hM : rnd (A * 2 ^ q) (B * 2 ^ p) ≤ 9223372036854775807) :
  Calls Tryz.prog 193 #[.pointer (some ⟨b, 0, none⟩)] w fun e w' => e = .returned (.int .u64 (rnd (A * 2 ^ q) (B * 2 ^ p) : Nat)) ∧ w = w' := by
 by_cases hep : ep < 0
 ·rw [hs.small hc hB he hep]
  have HN := Lib.hid (slow_roundneg w b es ep neg tr h ep hep h1)
  obtain ⟨hd, hl, g, hr, hg⟩ := h
  have c0 := hr.cn
  have c1 := hr.cp
  have hno : ¬ 0 < ep := by omega
  clear hr hg hM
  go_enter Tryz.func193, Tryz.ntmps193
  go_wp2_with fail
  refine wp_loop_rounds 1 ?_
  rw [rounds_succ]
  go_wp2_with fail
  refine wp_loop_rounds 1 ?_
  rw [rounds_succ]
  go_wp2_with (go_at_call 201; (with_reducible refine HN.out.mono ?_); rintro e w1 ⟨rfl, rfl⟩)
  go_ret
  exact ⟨rfl, rfl⟩
 ·obtain ⟨n, rfl⟩ : ∃ n : Nat, ep = n := ⟨ep.toNat, by omega⟩
  have hrd := round_slow hs hc hB he
  have HN := Lib.hid (slow_roundup w b es n neg tr h n (by omega))
  obtain ⟨R, hR⟩ : ∃ R, R = rnd (A * 2 ^ q) (B * 2 ^ p) := ⟨_, rfl⟩
  rw [← hR] at hrd hM ⊢
  have hpM : pre es n ≤ 9223372036854775807 := by omega
  have HB : Hid (∀ k, k < n → pre es (k + 1) = pre es k * 10 + dAt es k ∧ pre es (k + 1) ≤ 9223372036854775807 ∧ dAt es k < 10) := fun k hk => ⟨rfl, by
   have h1 := pre_le (ds := es) (i := k + 1) n (by omega)
   have h2 : 0 < 10 ^ (n - (k + 1)) := Nat.pow_pos (by omega)
   have h3 : pre es (k + 1) * 1 ≤ pre es (k + 1) * 10 ^ (n - (k + 1)) := Nat.mul_le_mul_left _ h2
   omega, hc.digits.all k⟩
  have HM := Lib.hid (And.intro hM hrd)
  have HL := Lib.hid h.len
  obtain ⟨hd, hl, g, hr, hg⟩ := h
  have HR := Lib.hid hr
  have HG := Lib.hid hg
  have c0 := hr.cn
  have c1 := hr.cp
  have h20 : ¬ (20 : Int) < (n : Int) := by omega
  obtain ⟨U, hU⟩ : ∃ U, U = upT es n tr := ⟨_, rfl⟩
  rw [← hU] at HN HM
  clear hr hg hM hrd hs hc hR hU
  cases U
  case' true => have HE : Hid (R = pre es n + 1) := by show _ = _; have := HM.out.2; simpa using this
  case' false => have HE : Hid (R = pre es n) := by show _ = _; have := HM.out.2; simpa using this
  all_goals
   go_enter Tryz.func193, Tryz.ntmps193
   go_wp2_with fail
   go_loop [3, 4] (fun v u => ∃ k : Nat, u = .int .u64 (pre es k : Nat) ∧ v = .int .i64 (k : Int) ∧ k ≤ n ∧ k ≤ es.length) (fun v _ => n - (intOf v).toNat)
   case atStart => exact ⟨0, rfl, rfl, by omega, by omega⟩
   case round =>
    obtain ⟨k, rfl, rfl, hk, hkl⟩ := hrel
    by_cases hlt : k < n ∧ k < es.length
    ·obtain ⟨hlt1, hlt2⟩ := hlt
     obtain ⟨e1, e2, e3⟩ := HB.out k hlt1
     have E1 := Lib.hid e1
     have hk2 : (k : Int) < (n : Int) := by omega
     have hk3 : (k : Int) < (es.length : Int) := by omega
     have hk8 : (k : Int) < 800 := by have := HL.out; omega
     have hck := HR.out.cd (i := k) (by have := HL.out; omega)
     rw [HG.out k hlt2] at hck
     have b1 : ((pre es k : Nat) : Int) * 10 ≤ 9223372036854775807 := by omega
     have b2 : ((pre es k : Nat) : Int) * 10 + ((dAt es k : Nat) : Int) ≤ 9223372036854775807 := by omega
     have b3 : ((dAt es k : Nat) : Int) < 10 := by omega
     have b4 : ((48 + dAt es k : Nat) : Int) - 48 = ((dAt es k : Nat) : Int) := by omega
     have b5 : (48 + ((dAt es k : Nat) : Int)) - 48 = ((dAt es k : Nat) : Int) := by omega
     clear e1 e2 e3
     go_wp2_with fail
     go_round
     case rel => exact ⟨k + 1, by rw [E1.out]; go_num, by go_num, by omega, by omega⟩
     case measure => simp [intOf]; omega
    ·by_cases hkn : k = n
     ·subst hkn
      have hk2 : ¬ (k : Int) < (k : Int) := by omega
      clear hlt
      go_wp2_with fail
      refine wp_loop_rounds 1 ?_
      rw [rounds_succ]
      try have hb2 : ((pre es k : Nat) : Int) + 1 ≤ 9223372036854775807 := by have := HE.out; have := HM.out.1; omega
      go_wp2_with (go_at_call 201; (with_reducible refine HN.out.mono ?_); rintro e w1 ⟨rfl, rfl⟩)
      go_ret
      exact ⟨by rw [HE.out]; rfl, rfl⟩
     ·have hk1 : (k : Int) < (n : Int) := by omega
      have hk2 : ¬ (k : Int) < (es.length : Int) := by omega
      have HK : Hid (es.length ≤ k ∧ k ≤ n) := ⟨by omega, by omega⟩
      clear hlt hkn
      go_wp2_with fail
      clear hk1 hk2
      go_loop [3, 4] (fun v u => ∃ i : Nat, u = .int .u64 (pre es i : Nat) ∧ v = .int .i64 (i : Int) ∧ i ≤ n ∧ es.length ≤ i) (fun v _ => n - (intOf v).toNat)
      case atStart => exact ⟨k, rfl, rfl, HK.out.2, HK.out.1⟩
      case round =>
       clear HK hk hkl
       obtain ⟨i, rfl, rfl, hi, hil⟩ := hrel
       by_cases hin : i < n
       ·obtain ⟨e1, e2, e3⟩ := HB.out i hin
        rw [dAt_beyond hil, Nat.add_zero] at e1
        have E1 := Lib.hid e1
        have hk2 : (i : Int) < (n : Int) := by omega
        have b1 : ((pre es i : Nat) : Int) * 10 ≤ 9223372036854775807 := by omega
        clear e1 e2 e3
        go_wp2_with fail
        go_round
        case rel => exact ⟨i + 1, by rw [E1.out]; go_num, by go_num, by omega, by omega⟩
        case measure => simp [intOf]; omega
       ·have hii : i = n := by omega
        subst hii
        have hk2 : ¬ (i : Int) < (i : Int) := by omega
        try have hb2 : ((pre es i : Nat) : Int) + 1 ≤ 9223372036854775807 := by have := HE.out; have := HM.out.1; omega
        go_wp2_with (go_at_call 201; (with_reducible refine HN.out.mono ?_); rintro e w1 ⟨rfl, rfl⟩)
        go_ret
        exact ⟨by rw [HE.out]; rfl, rfl⟩

end Go.Proofs.YtgolhmiocjpohaaGreatDoor

namespace Go.Proofs.YtgolhmiocjpohaaGreatDoor
open Go.RowKit Go.PlainAid

theorem trim_exists {es : List Nat} (h : Headed es) : ∃ cs, Trimmed es cs ∧ Canon cs ∧ dAt cs 0 = dAt es 0 := by
 have key : ∀ n, n ≤ es.length → (∀ i, n ≤ i → i < es.length → dAt es i = 0) → ∃ m, m ≤ es.length ∧ (∀ i, m ≤ i → i < es.length → dAt es i = 0) ∧ (m = 0 ∨ dAt es (m - 1) ≠ 0) := by
  intro n
  induction n with
  | zero => intro _ h2; exact ⟨0, by omega, h2, Or.inl rfl⟩
  | succ n ih =>
   intro h1 h2
   by_cases e : dAt es n = 0
   ·refine ih (by omega) fun i h3 h4 => ?_
    by_cases e2 : i = n
    ·rw [e2]; exact e
    ·exact h2 i (by omega) h4
   ·exact ⟨n + 1, h1, h2, Or.inr (by rwa [Nat.add_sub_cancel])⟩
 obtain ⟨m, h1, h2, h3⟩ := key es.length (Nat.le_refl _) (fun i _ _ => by omega)
 have ht : Trimmed es (es.take m) := ⟨m, h1, rfl, h2, h3⟩
 refine ⟨es.take m, ht, ht.canon h.digits h.first h.pos, ?_⟩
 rw [dAt_take]
 by_cases hm : 0 < m
 ·rw [if_pos hm]
 ·exact absurd (h2 0 (by omega) h.pos) h.first

theorem Slow.st {A B p q : Nat} {E ep : Int} {es : List Nat} {tr : Bool} (h : Slow A B E p q es ep tr) : ∃ cs A2 B2, St A2 B2 p q cs ep ∧ dAt cs 0 = dAt es 0 ∧ Near A B A2 B2 E tr := by
 obtain ⟨A2, B2, h1, h2⟩ := h.val
 obtain ⟨cs, t1, t2, t3⟩ := trim_exists h.headed
 exact ⟨cs, A2, B2, ⟨t2, h1.trim t1⟩, t3, h2⟩

section
variable {A B p q : Nat} {E ep : Int} {es : List Nat} {tr : Bool}

theorem Slow.ge1 (h : Slow A B E p q es ep tr) (hB : 0 < B) (hE : IsLog A B E) (hp : 0 < ep) : (p : Int) - q ≤ E := by
 obtain ⟨cs, A2, B2, h1, _, h2⟩ := h.st
 have := isLog_lo (t := 0) (u := q) (v := p) (h2.log hB hE) h2.posB (by rw [Nat.pow_zero, Nat.one_mul]; exact h1.ge_one hp)
 omega

theorem Slow.lt1 (h : Slow A B E p q es ep tr) (hB : 0 < B) (hE : IsLog A B E) (hp : ep ≤ 0) : E < (p : Int) - q := by
 obtain ⟨cs, A2, B2, h1, _, h2⟩ := h.st
 have := isLog_hi (t := 0) (u := q) (v := p) (h2.log hB hE) h2.posB (by rw [Nat.pow_zero, Nat.one_mul]; exact h1.lt_one h2.posB hp)
 omega

theorem Slow.top (h : Slow A B E p q es 0 tr) (hB : 0 < B) (hE : IsLog A B E) (h5 : 5 ≤ dAt es 0) : E = (p : Int) - q - 1 := by
 obtain ⟨cs, A2, B2, h1, h3, h2⟩ := h.st
 exact (h2.log hB hE).unique (h1.top (by rw [h3]; exact h5) (h1.lt_one h2.posB (Int.le_refl 0)))

theorem Slow.halfdown (h : Slow A B E p q es 0 tr) (hB : 0 < B) (hE : IsLog A B E) (h5 : dAt es 0 < 5) : E < (p : Int) - (q + 1 : Nat) := by
 obtain ⟨cs, A2, B2, h1, h3, h2⟩ := h.st
 have h4 := h1.room h2.posB (k := 1) (Or.inl ⟨rfl, by rw [h3]; exact h5, rfl⟩)
 have := isLog_hi (t := 0) (u := q + 1) (v := p) (h2.log hB hE) h2.posB (by rw [Nat.pow_zero, Nat.one_mul]; exact h4)
 omega

theorem Slow.down (h : Slow A B E p q es ep tr) (hB : 0 < B) (hE : IsLog A B E) {m k : Nat} (hm : ep = -(m : Int)) (hk : 2 ^ k ≤ 10 ^ m) : E < (p : Int) - (q + k : Nat) := by
 obtain ⟨cs, A2, B2, h1, h3, h2⟩ := h.st
 have h4 := h1.same.lt h1.canon.digits (Nat.mul_pos h2.posB (two_pos p)) (n := 0) (m := m) (by omega)
 rw [Nat.pow_zero, Nat.one_mul] at h4
 have h5 : A2 * 2 ^ q * 2 ^ k ≤ A2 * 2 ^ q * 10 ^ m := Nat.mul_le_mul_left _ hk
 rw [Nat.mul_assoc, ← Nat.pow_add] at h5
 have := isLog_hi (t := 0) (u := q + k) (v := p) (h2.log hB hE) h2.posB (by rw [Nat.pow_zero, Nat.one_mul]; exact Nat.lt_of_le_of_lt h5 h4)
 omega
end

/-- The steps by which the slow decimal is scaled. -/
def pw (i : Nat) : Nat := [1, 3, 6, 9, 13, 16, 19, 23, 26].getD i 27

theorem pw_le (m : Nat) (h : 0 < m) : 2 ^ (pw m) ≤ 10 ^ m ∧ 0 < pw m ∧ pw m ≤ 27 := by
 match m, h with
 | 1, _ => decide
 | 2, _ => decide
 | 3, _ => decide
 | 4, _ => decide
 | 5, _ => decide
 | 6, _ => decide
 | 7, _ => decide
 | 8, _ => decide
 | n + 9, _ =>
  have e : pw (n + 9) = 27 := rfl
  rw [e]
  have h1 : 10 ^ 9 ≤ 10 ^ (n + 9) := Nat.pow_le_pow_right (by omega) (by omega)
  exact ⟨by omega, by omega, by omega⟩

theorem pw_big {m : Nat} (h : 9 ≤ m) : pw m = 27 := by
 obtain ⟨n, rfl⟩ : ∃ n, m = n + 9 := ⟨m - 9, by omega⟩
 rfl

def PowAt (base : Nat) (w : World) : Prop := ∃ B o cap, B < base ∧ 13 < base ∧ 9 ≤ cap ∧ w.cell? ⟨13, 0, none⟩ = some (.slice (some ⟨B, o, none⟩) 9 cap) ∧ ∀ i, i < 9 → w.cell? ⟨B, o + i, none⟩ = some (.int .i64 (pw i : Nat))

/-- What the walks of the slow decimal read of variables. -/
structure SlowEnv (base : Nat) (w : World) : Prop where
 cheat : CheatAt base w
 pow : PowAt base w
 info : InfoAt w
 size : base ≤ w.heap.size
 base : 20 ≤ base

theorem SlowEnv.only {base b : Nat} {w w' : World} (h : SlowEnv base w) (ho : Only b w w') (hb : base ≤ b) : SlowEnv base w' := by
 obtain ⟨h1, ⟨B, o, cap, q1, q2, q3, q4, q5⟩, h3, h4, h5⟩ := h
 refine ⟨h1.only ho hb h4, ⟨B, o, cap, q1, q2, q3, ?_, fun i hi => ?_⟩, ⟨?_, ?_, ?_⟩, Nat.le_trans h4 ho.size, h5⟩
 ·rw [ho.cell (by omega) (by omega)]; exact q4
 ·rw [ho.cell (by omega) (by omega)]; exact q5 i hi
 ·rw [ho.cell (by omega) (by omega)]; exact h3.m
 ·rw [ho.cell (by omega) (by omega)]; exact h3.e
 ·rw [ho.cell (by omega) (by omega)]; exact h3.b

end Go.Proofs.YtgolhmiocjpohaaGreatDoor
