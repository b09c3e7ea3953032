/- What the walks of Go's own reading of floats read of variables, below a block's number; which of the two ways the look for names goes. Plain, but for the contracts of the callees. No condition. What the light reading reads, beside what Go's own does. Plain. No condition. -/
import Derived.Test.YtgolhmiocjpohaaGreatDoorNv2
import Derived.Test.YtgolhmiocjpohaaGreatDoorRd2
import Derived.Test.YtgolhmiocjpohaaGreatDoorHx2
import Derived.Test.YtgolhmiocjpohaaGreatDoorSl10
import Derived.Test.YtgolhmiocjpohaaGreatDoorLU1
set_option linter.unusedVariables false
set_option linter.unusedSimpArgs false
namespace Go.Proofs.YtgolhmiocjpohaaGreatDoor
open Go.RowKit Go.PlainAid

/-- The variables that the reading of floats reads. -/
structure Env (B : Nat) (w : World) : Prop where
 glob : Glob w
 tab : TabAt w
 tens : ∃ g o c, g < B ∧ w.cell? ⟨14, 0, none⟩ = some (.slice (some ⟨g, o, none⟩) 23 c) ∧ ∀ k, k < 23 → w.cell? ⟨g, o + k, none⟩ = some (.float .f64 (f10 k))
 slow : SlowEnv B w
 forms : FormsAt w
 er : ∃ t x, w.cell? ⟨7, 0, none⟩ = some (.iface t x)

theorem Env.ten {B : Nat} {w : World} (h : Env B w) : TensAt w := by
 obtain ⟨g, o, c, _, h1, h2⟩ := h.tens
 exact ⟨g, o, c, h1, h2⟩

theorem Env.le {B : Nat} {w : World} (h : Env B w) : 20 ≤ B ∧ B ≤ w.heap.size := ⟨h.slow.base, h.slow.size⟩

theorem SlowEnv.below {B : Nat} {w w' : World} (h : SlowEnv B w) (hb : Below B w w') : SlowEnv B w' := by
 obtain ⟨⟨C, co, c, a1, a2, a3, a4, a5⟩, ⟨D, d0, cap, q1, q2, q3, q4, q5⟩, h3, h4, h5⟩ := h
 have hc : ∀ b o, b < B → w'.cell? ⟨b, o, none⟩ = w.cell? ⟨b, o, none⟩ := fun b o h => hb.cell (p := ⟨b, o, none⟩) h
 refine ⟨⟨C, co, c, a1, a2, a3, ?_, fun i hi => ⟨?_, ?_⟩⟩, ⟨D, d0, cap, q1, q2, q3, ?_, fun i hi => ?_⟩, ⟨?_, ?_, ?_⟩, Nat.le_trans h4 hb.size, h5⟩
 ·rw [hc _ _ (by omega)]; exact a4
 ·rw [hc _ _ a1]; exact (a5 i hi).1
 ·rw [hc _ _ a1]; exact (a5 i hi).2
 ·rw [hc _ _ (by omega)]; exact q4
 ·rw [hc _ _ q1]; exact q5 i hi
 ·rw [hc _ _ (by omega)]; exact h3.m
 ·rw [hc _ _ (by omega)]; exact h3.e
 ·rw [hc _ _ (by omega)]; exact h3.b

theorem Env.below {B : Nat} {w w' : World} (h : Env B w) (hb : Below B w w') : Env B w' := by
 have h20 := h.le
 have hc : ∀ b o, b < B → w'.cell? ⟨b, o, none⟩ = w.cell? ⟨b, o, none⟩ := fun b o h => hb.cell (p := ⟨b, o, none⟩) h
 obtain ⟨g, o, c, g1, g2, g3⟩ := h.tens
 obtain ⟨ca, cb, ta, tb, f1, f2⟩ := h.forms
 have hs := hb.size
 refine ⟨⟨?_, ?_, ?_, ?_⟩, fun i hi => ⟨?_, ?_⟩, ⟨g, o, c, g1, ?_, fun k hk => ?_⟩, h.slow.below hb, ⟨ca, cb, ta, tb, ?_, ?_⟩, ?_⟩
 ·rw [hc _ _ (by omega)]; exact h.glob.mb
 ·rw [hc _ _ (by omega)]; exact h.glob.op
 ·rw [hc _ _ (by omega)]; exact h.glob.es
 ·omega
 ·rw [hc _ _ (by omega)]; exact (h.tab i hi).1
 ·rw [hc _ _ (by omega)]; exact (h.tab i hi).2
 ·rw [hc _ _ (by omega)]; exact g2
 ·rw [hc _ _ g1]; exact g3 k hk
 ·rw [hb.block 10 (by omega)]; exact f1
 ·rw [hb.block 8 (by omega)]; exact f2
 ·rw [hc _ _ (by omega)]; exact h.er

theorem HeadIs.unique {s word : ByteArray} {o a b : Nat} (h : HeadIs s o word a) (k : HeadIs s o word b) : a = b := by
 have key : ∀ {a b}, HeadIs s o word a → HeadIs s o word b → ¬ a < b := by
  intro a b h k hlt
  obtain ⟨_, _, _, h4⟩ := h
  obtain ⟨k1, k2, k3, _⟩ := k
  rcases h4 with h4 | h4 | h4
  ·omega
  ·omega
  ·exact h4 (k3 a hlt)
 have := key h k
 have := key k h
 omega

theorem inf_not_nan {s : ByteArray} {k m : Nat} (h : HeadIs s 0 wInfinity k) (h0 : 0 < k) (g : HeadIs s 0 wNan m) (g0 : 0 < m) : False := by
 have h1 := h.2.2.1 0 h0
 have h2 := g.2.2.1 0 g0
 rw [h1] at h2
 revert h2
 decide

theorem name_ok {s : ByteArray} {x n y m : Nat} {a b : Bool} (h : NameIs s x n a) (g : NameIs s y m b) : a = b := by
 rcases h with ⟨k, c, hh, hp, hm, hok, _⟩ | ⟨k, ho, hh, hp, hok, _⟩ | ⟨hok, ho, hi, hn⟩
 ·rcases g with ⟨k', c', hh', hp', hm', hok', _⟩ | ⟨k', ho', hh', hp', hok', _⟩ | ⟨hok', ho', hi', hn'⟩
  ·have := hh.unique hh'
   subst this
   rw [hok, hok', hm, hm']
  ·rw [ho'] at hh hp
   exact (inf_not_nan hh (by omega) hh' hp').elim
  ·rw [ho'] at hh hp
   have := hh.unique hi'
   omega
 ·rcases g with ⟨k', c', hh', hp', hm', hok', _⟩ | ⟨k', ho', hh', hp', hok', _⟩ | ⟨hok', ho', hi', hn'⟩
  ·rw [ho] at hh' hp'
   exact (inf_not_nan hh' (by omega) hh hp).elim
  ·have := hh.unique hh'
   subst this
   rw [hok, hok']
  ·have := hh.unique hn'
   omega
 ·rcases g with ⟨k', c', hh', hp', hm', hok', _⟩ | ⟨k', ho', hh', hp', hok', _⟩ | ⟨hok', ho', hi', hn'⟩
  ·rw [ho] at hh' hp'
   have := hh'.unique hi
   omega
  ·have := hh'.unique hn
   omega
  ·rw [hok, hok']

/-- A post of the look for names: one that is met. -/
def Named (s : ByteArray) (w : World) (e : Ending) (w' : World) : Prop :=
 ∃ x n : Nat, e = .returned (.tuple #[.float .f64 x, .int .i64 n, .bool true]) ∧ ((n = s.size → fltOf s = some x) ∧ (n ≠ s.size → fltOf s = none)) ∧ w = w'
/-- The like: none is met. -/
def Unnamed (s : ByteArray) (w : World) (e : Ending) (w' : World) : Prop :=
 ∃ x n : Nat, e = .returned (.tuple #[.float .f64 x, .int .i64 n, .bool false]) ∧ NoNames s ∧ w = w'

theorem special_ways (s : ByteArray) (hs : s.size ≤ 2147483647) : (∀ w, Calls Tryz.prog 153 #[.string s] w (Named s w)) ∨ (∀ w, Calls Tryz.prog 153 #[.string s] w (Unnamed s w)) := by
 by_cases h : ∃ x n, NameIs s x n true
 ·obtain ⟨x0, n0, h0⟩ := h
  refine Or.inl fun w => (special_any s w hs).mono ?_
  rintro e w' ⟨x, n, ok, he, hn, hw⟩
  have := name_ok hn h0
  subst this
  exact ⟨x, n, he, (name_law hn).1 rfl, hw⟩
 ·refine Or.inr fun w => (special_any s w hs).mono ?_
  rintro e w' ⟨x, n, ok, he, hn, hw⟩
  cases ok with
  | true => exact (h ⟨x, n, hn⟩).elim
  | false => exact ⟨x, n, he, (name_law hn).2 rfl, hw⟩

/-- A post of readFloat: refused. -/
def Refused (w : World) (e : Ending) (w' : World) : Prop :=
 ∃ (m x n : Int) (a b c : Bool), e = .returned (.tuple #[.int .u64 m, .int .i64 x, .bool a, .bool b, .bool c, .int .i64 n, .bool false]) ∧ w = w'
/-- The like: taken. -/
def Taken (s : ByteArray) (R : Read) (w : World) (e : Ending) (w' : World) : Prop :=
 e = .returned (.tuple #[.int .u64 (mantOf R.hex R.st.ds : Nat), .int .i64 (expOfRead R), .bool (negB s), .bool (truncOf R.hex R.st.ds), .bool R.hex, .int .i64 (R.stop : Nat), .bool true]) ∧ w = w'

theorem bad_not_good {s : ByteArray} {R : Read} (h : ReadBad s) (g : ReadGood s R) : False := by
 obtain ⟨g1, g2⟩ := g
 rcases h with h | ⟨R', h1, h2, h3⟩
 ·rw [g1] at h; simp at h
 ·rw [g1] at h1
  simp only [Option.some.injEq] at h1
  subst h1
  rw [g2 h2] at h3
  simp at h3

theorem read_ways (s : ByteArray) (hs : s.size ≤ 100000) : (ReadBad s ∧ ∀ w, Calls Tryz.prog 154 #[.string s] w (Refused w)) ∨ ∃ R, ReadGood s R ∧ ∀ w, Calls Tryz.prog 154 #[.string s] w (Taken s R w) := by
 by_cases h0 : s.size = 0
 ·have hr : readOf s = none := by
   cases h : readOf s with
   | none => rfl
   | some R => have := (read_facts h).pos; omega
  refine Or.inl ⟨Or.inl hr, fun w => (std_read_none s w (by omega) (Or.inl h0)).mono ?_⟩
  rintro e w' ⟨m, x, n, a, b, c, he, hw⟩
  exact ⟨m, x, n, a, b, c, he, hw⟩
 ·have K : ∀ w, Calls Tryz.prog 154 #[.string s] w (ReadPost s w) := fun w => by
   cases hh : hexAt s with
   | false => exact std_read_dec s w hs (by omega) hh
   | true => exact std_read_hex s w hs (by omega) hh
  by_cases hb : ReadBad s
  ·refine Or.inl ⟨hb, fun w => (K w).mono ?_⟩
   rintro e w' ⟨⟨_, m, x, n, a, b, c, he⟩ | ⟨R, hg, he⟩, hw⟩
   ·exact ⟨m, x, n, a, b, c, he, hw⟩
   ·exact (bad_not_good hb hg).elim
  ·cases hr : readOf s with
   | none => exact (hb (Or.inl hr)).elim
   | some R =>
    refine Or.inr ⟨R, ⟨hr, fun hu => ?_⟩, fun w => (K w).mono ?_⟩
    ·cases hk : usOK (s.extract 0 R.stop) with
     | true => rfl
     | false => exact (hb (Or.inr ⟨R, hr, hu, hk⟩)).elim
    ·rintro e w' ⟨⟨hb', _⟩ | ⟨R', hg, he⟩, hw⟩
     ·exact (hb hb').elim
     ·have := hg.1
      rw [hr] at this
      simp only [Option.some.injEq] at this
      subst this
      exact ⟨he, hw⟩

/-- A post of atof64: the float and that all was read; or that the text tells none. -/
def AtofIs (s : ByteArray) (w : World) (e : Ending) (w' : World) : Prop :=
 ∃ (x : Nat) (n : Int) (v : Value), e = .returned (.tuple #[.float .f64 x, .int .i64 n, v]) ∧
  ((v = .nilIface ∧ n = s.size ∧ fltOf s = some x) ∨ (fltOf s = none ∧ (v = .nilIface ∧ n ≠ s.size ∨ v = .iface 180 (.int .i64 1) ∨ v = .iface 180 (.int .i64 2)))) ∧ Below w.heap.size w w'

theorem extract_all (s : ByteArray) : s.extract 0 s.size = s := by simp

/-- What is handed back behind a number that was read. -/
theorem atof_good {s : ByteArray} {R : Read} (hn : NoNames s) (hg : ReadGood s R) {v : Value} (hv : v = if overRung (rungOf R) then .iface 180 (.int .i64 1) else .nilIface) :
  (v = .nilIface ∧ ((R.stop : Nat) : Int) = s.size ∧ fltOf s = some (sgv (negB s) + cutRung (rungOf R))) ∨ (fltOf s = none ∧ (v = .nilIface ∧ ((R.stop : Nat) : Int) ≠ s.size ∨ v = .iface 180 (.int .i64 1) ∨ v = .iface 180 (.int .i64 2))) := by
 rw [fltOf_value hn]
 unfold valueOf
 rw [hg.1]
 simp only
 cases ho : overRung (rungOf R) with
 | true =>
  rw [ho, if_pos rfl] at hv
  rw [if_neg (fun h => by simp at h)]
  exact Or.inr ⟨rfl, Or.inr (Or.inl hv)⟩
 | false =>
  rw [ho, if_neg (by simp)] at hv
  by_cases hst : R.stop = s.size
  ·have hu : R.us = true → usOK s = true := fun h => by
    have := hg.2 h
    rwa [hst, extract_all] at this
   rw [if_pos ⟨hst, hu, rfl⟩]
   exact Or.inl ⟨hv, by omega, rfl⟩
  ·rw [if_neg (fun h => hst h.1)]
   exact Or.inr ⟨rfl, Or.inl ⟨hv, by omega⟩⟩

theorem atof_bad {s : ByteArray} (hn : NoNames s) (hb : ReadBad s) : fltOf s = none := by
 rw [fltOf_value hn]
 rcases hb with h | ⟨R, h1, h2, h3⟩
 ·exact valueOf_none h
 ·unfold valueOf
  rw [h1]
  simp only
  refine if_neg fun h => ?_
  rw [h.1, extract_all] at h3
  rw [h.2.1 h2] at h3
  simp at h3

end Go.Proofs.YtgolhmiocjpohaaGreatDoor

namespace Go.Proofs.YtgolhmiocjpohaaGreatDoor
open Go.RowKit Go.PlainAid

/-- What the light reading reads of a text without sign and mark: to its end, or nothing. -/
def readU (hex : Bool) (u : ByteArray) : Option (Sc × Int) :=
 if (scanAt hex u 0 sc0).2.sm then
  (match tailAt hex u (scanAt hex u 0 sc0).1 (scanAt hex u 0 sc0).2.us with
   | some t => if t.1 = u.size then some ((scanAt hex u 0 sc0).2, t.2.1) else none
   | none => none)
 else none

theorem readU_sm {hex : Bool} {u : ByteArray} {j : Nat} {st : Sc} (h : scanAt hex u 0 sc0 = (j, st)) (hs : st.sm = false) : readU hex u = none := by
 unfold readU
 rw [h]
 simp only [hs]
 rfl

theorem readU_tail {hex : Bool} {u : ByteArray} {j : Nat} {st : Sc} (h : scanAt hex u 0 sc0 = (j, st)) (hs : st.sm = true) : readU hex u = (match tailAt hex u j st.us with
   | some t => if t.1 = u.size then some (st, t.2.1) else none
   | none => none) := by
 unfold readU
 rw [h]
 simp only [hs]
 rfl

/-- A text, cut ahead. -/
structure Behind (s u : ByteArray) (p : Nat) : Prop where
 at' : ∀ i, i < u.size → bt u i = bt s (p + i)
 size : u.size + p = s.size

theorem scan_shift {hex : Bool} {s u : ByteArray} {p : Nat} (h : Behind s u p) : ∀ (n j : Nat) (st : Sc), j + n = u.size → scanFrom hex s n (p + j) st = (p + (scanFrom hex u n j st).1, (scanFrom hex u n j st).2) := by
 intro n
 induction n with
 | zero => intro j st _; rfl
 | succ n ih =>
  intro j st hj
  rw [scanFrom, scanFrom, h.at' j (by omega)]
  cases hs : stepC hex st (bt s (p + j)) with
  | none => rfl
  | some st' =>
   simp only
   rw [show p + j + 1 = p + (j + 1) by omega, ih (j + 1) st' (by omega)]

theorem exp_shift {s u : ByteArray} {p : Nat} (h : Behind s u p) : ∀ (n j e : Nat) (us : Bool), j + n = u.size → expFrom s n (p + j) e us = (p + (expFrom u n j e us).1, (expFrom u n j e us).2) := by
 intro n
 induction n with
 | zero => intro j e us _; rfl
 | succ n ih =>
  intro j e us hj
  rw [expFrom, expFrom, h.at' j (by omega)]
  by_cases h1 : 48 ≤ bt s (p + j) ∧ bt s (p + j) ≤ 57
  ·rw [if_pos h1, if_pos h1, show p + j + 1 = p + (j + 1) by omega, ih (j + 1) _ us (by omega)]
  ·rw [if_neg h1, if_neg h1]
   by_cases h2 : bt s (p + j) = 95
   ·rw [if_pos h2, if_pos h2, show p + j + 1 = p + (j + 1) by omega, ih (j + 1) e true (by omega)]
   ·rw [if_neg h2, if_neg h2]

theorem tail_shift {hex : Bool} {s u : ByteArray} {p : Nat} (h : Behind s u p) (j : Nat) (us : Bool) (hj : j ≤ u.size) : tailAt hex s (p + j) us = (tailAt hex u j us).map fun t => (p + t.1, t.2.1, t.2.2) := by
 have hz := h.size
 by_cases h1 : j < u.size ∧ lowB (bt u j) = (if hex then 112 else 101)
 ·have h1' : p + j < s.size ∧ lowB (bt s (p + j)) = (if hex then 112 else 101) := ⟨by omega, by rw [← h.at' j h1.1]; exact h1.2⟩
  have hfe : expFromAt s (p + j) = p + expFromAt u j := by
   unfold expFromAt
   by_cases hl : j + 1 < u.size
   ·rw [h.at' (j + 1) hl, show p + j + 1 = p + (j + 1) by omega]
    by_cases hc : bt s (p + (j + 1)) = 43 ∨ bt s (p + (j + 1)) = 45
    ·rw [if_pos ⟨by omega, hc⟩, if_pos ⟨hl, hc⟩]; omega
    ·rw [if_neg (fun hh => hc hh.2), if_neg (fun hh => hc hh.2)]
   ·rw [if_neg (by omega), if_neg (by omega)]; omega
  have hne : expNeg s (p + j) = expNeg u j := by
   unfold expNeg
   by_cases hl : j + 1 < u.size
   ·rw [h.at' (j + 1) hl, show p + j + 1 = p + (j + 1) by omega]
    congr 1
    exact propext ⟨fun hh => ⟨hl, hh.2⟩, fun hh => ⟨by omega, hh.2⟩⟩
   ·rw [decide_eq_false (by omega), decide_eq_false (by omega)]
  by_cases h2 : expFromAt u j < u.size ∧ 48 ≤ bt u (expFromAt u j) ∧ bt u (expFromAt u j) ≤ 57
  ·have h2' : expFromAt s (p + j) < s.size ∧ 48 ≤ bt s (expFromAt s (p + j)) ∧ bt s (expFromAt s (p + j)) ≤ 57 := by
    rw [hfe, ← h.at' _ h2.1]
    exact ⟨by omega, h2.2⟩
   obtain ⟨r, hr⟩ : ∃ r, expAt u (expFromAt u j) 0 us = r := ⟨_, rfl⟩
   obtain ⟨r1, r2, r3⟩ := r
   have hr' : expAt s (expFromAt s (p + j)) 0 us = (p + r1, r2, r3) := by
    rw [hfe]
    unfold expAt at hr ⊢
    rw [show s.size - (p + expFromAt u j) = u.size - expFromAt u j by omega, exp_shift h _ _ 0 us (by omega), hr]
   rw [tail_good h1 h2 hr, tail_good h1' h2' hr', hne]
   rfl
  ·rw [tail_bad h1 h2, tail_bad h1' (fun hh => h2 (by rw [hfe] at hh; exact ⟨by omega, by rw [h.at' _ (by omega)]; exact hh.2⟩))]
   rfl
 ·have h1' : ¬ (p + j < s.size ∧ lowB (bt s (p + j)) = (if hex then 112 else 101)) := fun hh => h1 ⟨by omega, by rw [h.at' j (by omega)]; exact hh.2⟩
  rw [tail_none h1, tail_none h1']
  cases hex <;> rfl

/-- The whole text of a number, by both. -/
theorem read_both {s u : ByteArray} (h : Behind s u (digFrom s)) :
  (∀ st ex, readU (hexAt s) u = some (st, ex) → ∃ us, readOf s = some ⟨hexAt s, st, s.size, ex, us⟩) ∧ (readU (hexAt s) u = none → ∀ R, readOf s = some R → R.stop ≠ s.size) := by
 obtain ⟨E, hE⟩ : ∃ E, scanAt (hexAt s) u 0 sc0 = E := ⟨_, rfl⟩
 obtain ⟨j, st⟩ := E
 have hg := scanFrom_good (hex := hexAt s) (s := u) (u.size - 0) 0 sc0 (scok0 _)
 rw [show scanFrom (hexAt s) u (u.size - 0) 0 sc0 = (j, st) from hE] at hg
 have hj : j ≤ u.size := by have := hg.2.2.1; simp only at this; omega
 have hz := h.size
 have hE2 : scanAt (hexAt s) s (digFrom s) sc0 = (digFrom s + j, st) := by
  unfold scanAt at hE ⊢
  have := scan_shift (hex := hexAt s) h (u.size - 0) 0 sc0 (by omega)
  rw [Nat.add_zero, show u.size - 0 = s.size - digFrom s by omega] at this
  rw [this]
  rw [show u.size - 0 = s.size - digFrom s by omega] at hE
  rw [hE]
 cases hsm : st.sm with
 | false =>
  rw [readU_sm hE hsm, readOf_sm hE2 hsm]
  exact ⟨fun _ _ h => by simp at h, fun _ R h => by simp at h⟩
 | true =>
  rw [readU_tail hE hsm, readOf_tail hE2 hsm, tail_shift h j st.us hj]
  cases ht : tailAt (hexAt s) u j st.us with
  | none => exact ⟨fun _ _ h => by simp at h, fun _ R h => by simp at h⟩
  | some t =>
   obtain ⟨t1, t2, t3⟩ := t
   simp only [Option.map_some]
   by_cases he : t1 = u.size
   ·rw [if_pos he]
    refine ⟨fun st' ex h => ?_, fun h => by simp at h⟩
    simp only [Option.some.injEq, Prod.mk.injEq] at h
    obtain ⟨rfl, rfl⟩ := h
    exact ⟨t3, by rw [he, show digFrom s + u.size = s.size by omega]⟩
   ·rw [if_neg he]
    refine ⟨fun st' ex h => by simp at h, fun _ R h => ?_⟩
    simp only [Option.some.injEq] at h
    rw [← h]
    simp only
    omega

/-- Without underscores the rule is kept. -/
theorem usFrom_free {hex : Bool} {t : ByteArray} (h : ∀ i, i < t.size → bt t i ≠ 95) : ∀ (n j l : Nat), j + n = t.size → l ≠ 2 → usFrom hex t n j l = true := by
 intro n
 induction n with
 | zero => intro j l _ hl; rw [usFrom_end]; exact decide_eq_true hl
 | succ n ih =>
  intro j l hj hl
  rw [usFrom]
  split
  ·exact ih (j + 1) 1 (by omega) (by omega)
  ·rw [if_neg (h j (by omega))]
   exact ih (j + 1) 0 (by omega) (by omega)

theorem usOK_free {s : ByteArray} (h : ∀ i, i < s.size → bt s i ≠ 95) : usOK s = true := by
 have hz := bodyT_size s
 have ht : ∀ i, i < (bodyT s).size → bt (bodyT s) i ≠ 95 := fun i hi => by
  rw [bodyT_at hi]
  exact h _ (by omega)
 unfold usOK usT
 split
 ·rename_i hp
  have h2 : 2 ≤ (bodyT s).size := by unfold preAt at hp; exact (of_decide_eq_true hp).1
  exact usFrom_free ht _ 2 1 (by omega) (by omega)
 ·exact usFrom_free ht _ 0 0 (by omega) (by omega)

theorem step_us {hex : Bool} {st st' : Sc} {c : Int} (h : stepC hex st c = some st') : (st.us = true → st'.us = true) ∧ (c = 95 → st'.us = true) := by
 unfold stepC at h
 split at h
 ·cases h; exact ⟨fun _ => rfl, fun _ => rfl⟩
 ·rename_i hc
  split at h
  ·split at h
   ·cases h
   ·cases h; exact ⟨fun h => h, fun h => (hc h).elim⟩
  ·cases hd : digV hex c with
   | none => rw [hd] at h; cases h
   | some d =>
    rw [hd] at h
    cases h
    refine ⟨fun h => ?_, fun h => (hc h).elim⟩
    unfold addD
    split <;> exact h

theorem scan_us {hex : Bool} {s : ByteArray} : ∀ (n j : Nat) (st : Sc), (st.us = true → (scanFrom hex s n j st).2.us = true) ∧ (∀ i, j ≤ i → i < (scanFrom hex s n j st).1 → bt s i = 95 → (scanFrom hex s n j st).2.us = true) := by
 intro n
 induction n with
 | zero => intro j st; exact ⟨fun h => h, fun i h1 h2 => by simp [scanFrom] at h2; omega⟩
 | succ n ih =>
  intro j st
  rw [scanFrom]
  cases hs : stepC hex st (bt s j) with
  | none => exact ⟨fun h => h, fun i h1 h2 => by simp at h2; omega⟩
  | some st' =>
   simp only
   obtain ⟨a, b⟩ := ih (j + 1) st'
   obtain ⟨c, d⟩ := step_us hs
   refine ⟨fun h => a (c h), fun i h1 h2 h3 => ?_⟩
   by_cases e : i = j
   ·subst e; exact a (d h3)
   ·exact b i (by omega) h2 h3

theorem exp_us {s : ByteArray} : ∀ (n j e : Nat) (us : Bool), (us = true → (expFrom s n j e us).2.2 = true) ∧ (∀ i, j ≤ i → i < (expFrom s n j e us).1 → bt s i = 95 → (expFrom s n j e us).2.2 = true) := by
 intro n
 induction n with
 | zero => intro j e us; exact ⟨fun h => h, fun i h1 h2 => by simp [expFrom] at h2; omega⟩
 | succ n ih =>
  intro j e us
  rw [expFrom]
  split
  ·rename_i hc
   obtain ⟨a, b⟩ := ih (j + 1) (if e < 10000 then e * 10 + (bt s j - 48).toNat else e) us
   refine ⟨a, fun i h1 h2 h3 => ?_⟩
   by_cases ei : i = j
   ·subst ei; omega
   ·exact b i (by omega) h2 h3
  ·split
   ·obtain ⟨a, b⟩ := ih (j + 1) e true
    exact ⟨fun _ => a rfl, fun i _ _ _ => a rfl⟩
   ·exact ⟨fun h => h, fun i h1 h2 => by simp at h2; omega⟩

theorem low_under : lowB 95 ≠ 112 ∧ lowB 95 ≠ 101 := by decide

theorem tail_us {hex : Bool} {s : ByteArray} {j j' : Nat} {us us' : Bool} {ex : Int} (h : tailAt hex s j us = some (j', ex, us')) : (us = true → us' = true) ∧ (∀ i, j ≤ i → i < j' → bt s i = 95 → us' = true) := by
 by_cases h1 : j < s.size ∧ lowB (bt s j) = (if hex then 112 else 101)
 ·by_cases h2 : expFromAt s j < s.size ∧ 48 ≤ bt s (expFromAt s j) ∧ bt s (expFromAt s j) ≤ 57
  ·obtain ⟨r, hr⟩ : ∃ r, expAt s (expFromAt s j) 0 us = r := ⟨_, rfl⟩
   obtain ⟨r1, r2, r3⟩ := r
   obtain ⟨a, b⟩ := exp_us (s := s) (s.size - expFromAt s j) (expFromAt s j) 0 us
   rw [show expFrom s (s.size - expFromAt s j) (expFromAt s j) 0 us = (r1, r2, r3) from hr] at a b
   rw [tail_good h1 h2 hr] at h
   simp only [Option.some.injEq, Prod.mk.injEq] at h
   obtain ⟨e1, _, e3⟩ := h
   subst e1
   subst e3
   refine ⟨a, fun i hi1 hi2 hi3 => ?_⟩
   by_cases e : expFromAt s j ≤ i
   ·exact b i e hi2 hi3
   ·exfalso
    by_cases e2 : i = j
    ·subst e2
     have := h1.2
     rw [hi3] at this
     cases hex
     ·exact low_under.2 this
     ·exact low_under.1 this
    ·unfold expFromAt at e
     split at e
     ·rename_i hc
      have : i = j + 1 := by omega
      subst this
      omega
     ·omega
  ·rw [tail_bad h1 h2] at h; simp at h
 ·rw [tail_none h1] at h
  cases hex with
  | true => simp at h
  | false =>
   simp only [Bool.false_eq_true, if_false, Option.some.injEq, Prod.mk.injEq] at h
   obtain ⟨e1, _, e3⟩ := h
   subst e3
   exact ⟨fun h => h, fun i h1 h2 _ => by omega⟩

/-- An underscore in a text that is read to its end was noticed. -/
theorem us_seen {s : ByteArray} {R : Read} (h : readOf s = some R) (hst : R.stop = s.size) {i : Nat} (hi : i < s.size) (hc : bt s i = 95) : R.us = true := by
 obtain ⟨E, hE⟩ : ∃ E, scanAt (hexAt s) s (digFrom s) sc0 = E := ⟨_, rfl⟩
 obtain ⟨j, st⟩ := E
 cases hsm : st.sm with
 | false => rw [readOf_sm hE hsm] at h; simp at h
 | true =>
  rw [readOf_tail hE hsm] at h
  cases ht : tailAt (hexAt s) s j st.us with
  | none => rw [ht] at h; simp at h
  | some t =>
   obtain ⟨t1, t2, t3⟩ := t
   rw [ht] at h
   simp only [Option.map_some, Option.some.injEq] at h
   subst h
   simp only at hst ⊢
   obtain ⟨a, b⟩ := tail_us ht
   obtain ⟨c, d⟩ := scan_us (hex := hexAt s) (s := s) (s.size - digFrom s) (digFrom s) sc0
   rw [show scanFrom (hexAt s) s (s.size - digFrom s) (digFrom s) sc0 = (j, st) from hE] at c d
   have hpre : digFrom s ≤ i := by
    apply Classical.byContradiction
    intro hlt
    have hs := sign_cases s
    have hd : digFrom s = if hexAt s then signLen s + 2 else signLen s := rfl
    cases hx : hexAt s with
    | false =>
     rw [hx] at hd
     simp only [Bool.false_eq_true, if_false] at hd
     have : i = 0 := by rcases hs with ⟨e, _⟩ | ⟨e, _⟩ | ⟨e, _⟩ <;> omega
     subst this
     rcases hs with ⟨e, _⟩ | ⟨e, _, e2, _⟩ | ⟨e, _, e2, _⟩ <;> omega
    | true =>
     rw [hx] at hd
     simp only [if_true] at hd
     obtain ⟨q1, q2, q3⟩ := hex_sizes hx
     by_cases e0 : i < signLen s
     ·have : i = 0 := by rcases hs with ⟨e, _⟩ | ⟨e, _⟩ | ⟨e, _⟩ <;> omega
      subst this
      rcases hs with ⟨e, _⟩ | ⟨e, _, e2, _⟩ | ⟨e, _, e2, _⟩ <;> omega
     ·by_cases e1 : i = signLen s
      ·rw [← e1] at q2; omega
      ·have : i = signLen s + 1 := by omega
       rw [← this, hc] at q3
       revert q3
       decide
   by_cases hij : i < j
   ·exact a (d i hpre hij hc)
   ·exact b i (by omega) (by omega) hc

end Go.Proofs.YtgolhmiocjpohaaGreatDoor
