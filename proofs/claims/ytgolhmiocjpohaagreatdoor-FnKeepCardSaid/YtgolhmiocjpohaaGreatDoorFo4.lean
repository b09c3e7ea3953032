/- strings.EqualFold (42) on any texts computes eqfB where the tables lie as laid. No condition beyond the tables and sizes. Printed by gen_fo4.py. -/
import Derived.Laws.RangeString
import Derived.Laws.RangeAny
import Derived.Lib.OthersKept
import Derived.Lib.MapLaws
import Derived.Lib.TrimUEq
import Derived.Laws.BitsAllLaws
import Derived.Test.YtgolhmiocjpohaaGreatDoorFo3
import Derived.Test.YtgolhmiocjpohaaGreatDoorSl10
set_option linter.unusedVariables false
set_option linter.unusedSimpArgs false
namespace Go.Proofs.YtgolhmiocjpohaaGreatDoor
open Go.RowKit Go.Lib Go.PlainAid

section
variable {a : Act} {w : World} {Q : Exit → Act → World → Prop} {l0 l1 : Nat} {J0 J1 : Act → World → Prop}
@[go_sem] theorem Exit.two_normal : Exit.two l0 J0 l1 J1 Q .normal a w = Q .normal a w := rfl
@[go_sem] theorem Exit.two_exit (id : Nat) : Exit.two l0 J0 l1 J1 Q (.exit id) a w = Q (.exit id) a w := rfl
@[go_sem] theorem Exit.two_ret : Exit.two l0 J0 l1 J1 Q .ret a w = Q .ret a w := rfl
@[go_sem] theorem Exit.two_panic (ch : List PanicEntry) : Exit.two l0 J0 l1 J1 Q (.panic ch) a w = Q (.panic ch) a w := rfl
end

/-! ### Plain -/
def upTo (sr tr : Int) : Nat → Int → Bool
 | 0, _ => false
 | g + 1, r => if r ≠ sr ∧ r < tr then upTo sr tr g (foldR r) else decide (r = tr)
def chaseB (sr tr : Int) : Bool := if tr < 128 then decide (65 ≤ sr ∧ sr ≤ 90 ∧ tr = sr + 32) else upTo sr tr 5 (foldR sr)
def runeEq (r q : Int) : Bool := if r = q then true else if r < q then chaseB r q else chaseB q r
def uniB (S : ByteArray) : Nat → Nat → ByteArray → Bool
 | 0, _, T => decide (T.size = 0)
 | g + 1, pos, T => if T.size = 0 then false else if runeEq (Utf8.decode S pos).1 (decodeGo T).1 then (if pos + (Utf8.decode S pos).2 < S.size then uniB S g (pos + (Utf8.decode S pos).2) (T.extract (decodeGo T).2 T.size) else decide ((T.extract (decodeGo T).2 T.size).size = 0)) else false
def uniOf (S T : ByteArray) : Bool := if 0 < S.size then uniB S S.size 0 T else decide (T.size = 0)
def pairB (x y : Nat) : Bool := decide (x = y ∨ (65 ≤ x ∧ x ≤ 90 ∧ y = x + 32) ∨ (65 ≤ y ∧ y ≤ 90 ∧ x = y + 32))
def byteN (s : ByteArray) (i : Nat) : Nat := (s.data.toList.getD i 0).toNat
def asciiB (s t : ByteArray) : Nat → Nat → Bool
 | 0, _ => decide (s.size = t.size)
 | g + 1, i => if 128 ≤ byteN s i ∨ 128 ≤ byteN t i then uniOf (s.extract i s.size) (t.extract i t.size) else if pairB (byteN s i) (byteN t i) then asciiB s t g (i + 1) else false
def eqfB (s t : ByteArray) : Bool := asciiB s t (min s.size t.size) 0

def foldN : Nat → Int → Int
 | 0, r => r
 | c + 1, r => foldN c (foldR r)
/-- The chase comes back within so many steps. -/
def Back (sr : Int) (g : Nat) (r : Int) : Prop := ∃ c, c < g ∧ foldN c r = sr

theorem back_first (sr : Int) : Back sr 5 (foldR sr) := by
 have h := closes_all sr
 unfold closes at h
 simp only [Bool.or_eq_true, beq_iff_eq] at h
 rcases h with h | h | h | h | h
 ·exact ⟨0, by omega, h⟩
 ·exact ⟨1, by omega, h⟩
 ·exact ⟨2, by omega, h⟩
 ·exact ⟨3, by omega, h⟩
 ·exact ⟨4, by omega, h⟩
theorem Back.next {sr r : Int} {g : Nat} (h : Back sr (g + 1) r) (hne : ¬ r = sr) : Back sr g (foldR r) := by
 obtain ⟨c, h1, h2⟩ := h
 cases c with
 | zero => exact absurd h2 hne
 | succ c => exact ⟨c, by omega, h2⟩
theorem Back.pos {sr r : Int} {g : Nat} (h : Back sr g r) : 0 < g := by
 obtain ⟨c, h1, _⟩ := h
 omega

/-- The tables as they lie, below B. -/
structure CaseEnv (B : Nat) (w : World) : Prop where
 base : 20 ≤ B
 size : B ≤ w.heap.size
 ascii : AsciiVar w
 orb : ∃ R oR cap, R < B ∧ w.cell? ⟨1, 0, none⟩ = some (.slice (some ⟨R, oR, none⟩) 94 cap) ∧ OrbTab R oR w
 cases : ∃ R oR cap, R < B ∧ w.cell? ⟨2, 0, none⟩ = some (.slice (some ⟨R, oR, none⟩) caseA.size cap) ∧ CaseTab R oR caseA w
 utf : Lib.Utf8Tabs 3 4 w

theorem CaseEnv.below {B : Nat} {w w' : World} (h : CaseEnv B w) (hb : Below B w w') : CaseEnv B w' := by
 obtain ⟨h1, h2, h3, ⟨R, oR, cap, r1, r2, r3⟩, ⟨R2, oR2, cap2, q1, q2, q3⟩, h4⟩ := h
 have hc : ∀ b o, b < B → w'.cell? ⟨b, o, none⟩ = w.cell? ⟨b, o, none⟩ := fun b o h => hb.cell (p := ⟨b, o, none⟩) h
 refine ⟨h1, Nat.le_trans h2 hb.size, fun i hi => ?_, ⟨R, oR, cap, r1, ?_, fun i hi => ⟨?_, ?_⟩⟩, ⟨R2, oR2, cap2, q1, ?_, fun i hi => ⟨?_, ?_, ?_, ?_, ?_⟩⟩, fun c hc2 => ?_, fun i hi => ⟨?_, ?_⟩⟩
 ·rw [hc _ _ (by omega)]; exact h3 i hi
 ·rw [hc _ _ (by omega)]; exact r2
 ·rw [hc _ _ r1]; exact (r3 i hi).1
 ·rw [hc _ _ r1]; exact (r3 i hi).2
 ·rw [hc _ _ (by omega)]; exact q2
 ·rw [hc _ _ q1]; exact (q3 i hi).1
 ·rw [hc _ _ q1]; exact (q3 i hi).2.1
 ·rw [hc _ _ q1]; exact (q3 i hi).2.2.1
 ·rw [hc _ _ q1]; exact (q3 i hi).2.2.2.1
 ·rw [hc _ _ q1]; exact (q3 i hi).2.2.2.2
 ·rw [hc _ _ (by omega)]; exact h4.1 c hc2
 ·rw [hc _ _ (by omega)]; exact (h4.2 i hi).1
 ·rw [hc _ _ (by omega)]; exact (h4.2 i hi).2

theorem CaseEnv.fold {B : Nat} {w : World} (h : CaseEnv B w) (r : Int) : Calls Tryz.prog 61 #[.int .i32 r] w (RuneOut (foldR r) w) := by
 obtain ⟨R, oR, cap, _, r2, r3⟩ := h.orb
 obtain ⟨R2, oR2, cap2, _, q2, q3⟩ := h.cases
 exact simpleFold r w h.ascii ⟨R, oR, cap, r2, r3⟩ ⟨R2, oR2, cap2, q2, q3⟩
theorem CaseEnv.dec {B : Nat} {w : World} (h : CaseEnv B w) (s : ByteArray) : Calls Tryz.prog 60 #[.string s] w fun e w' => e = .returned (.tuple #[.int .i32 (decodeGo s).1, .int .i64 (decodeGo s).2]) ∧ Below w.heap.size w w' :=
 Tryz.utf8_DecodeRuneInString s w h.utf

/-- The frame of EqualFold. -/
def Fr42 (s t : ByteArray) (i : Nat) (u : Nat → Value) : Act := { tmps := #[  .string s, .string t, u 2, u 3, u 4, .int .i64 i, u 6, u 7, u 8, u 9, u 10, u 11, u 12, u 13, u 14, u 15, u 16, u 17, u 18, u 19, u 20, u 21, u 22, u 23, u 24, u 25, u 26, u 27, u 28, u 29, u 30, u 31, u 32, u 33, u 34, u 35, u 36, u 37, u 38, u 39, u 40, u 41, u 42, u 43, u 44, u 45, u 46, u 47, u 48, u 49, u 50, u 51, u 52, u 53, u 54, u 55, u 56, u 57, u 58, u 59, u 60, u 61, u 62, u 63, u 64, u 65, u 66, u 67, u 68, u 69, u 70, u 71, u 72, u 73, u 74, u 75, u 76, u 77, u 78, u 79, u 80, u 81, u 82, u 83, u 84, u 85, u 86, u 87, u 88, u 89, u 90, u 91, u 92, u 93, u 94, u 95, u 96, u 97, u 98, u 99, u 100, u 101, u 102, u 103, u 104, u 105, u 106, u 107, u 108, u 109, u 110, u 111, u 112, u 113, u 114, u 115, u 116, u 117, u 118, u 119, u 120, u 121, u 122], defers := [] }

/-- The iterator stands; old memory as it was. -/
structure Iter (k : Nat) (S : ByteArray) (pos : Nat) (w0 w : World) : Prop where
 at' : w.heap[k]? = some (.stringIter S pos)
 below : Below w0.heap.size w0 w
theorem Iter.next {k pos : Nat} {S : ByteArray} {w0 w w1 : World} (h : Iter k S pos w0 w) (hb : Below w.heap.size w w1) : Iter k S pos w0 w1 :=
 ⟨by rw [hb.block k (Array.getElem?_eq_some_iff.1 h.at').1]; exact h.at', h.below.trans (hb.mono h.below.size)⟩
theorem Iter.drewN {k pos : Nat} {S : ByteArray} {w0 w : World} (h : Iter k S pos w0 w) (n : Nat) : Iter k S pos w0 (w.drewN n) := h.next (below_drewN (Below.refl _ _) n)

/-- At the jump: the first place with a byte beyond ASCII. -/
def JUni (s t : ByteArray) (w : World) (a : Act) (wx : World) : Prop := ∃ (u : Nat → Value) (i : Nat), a = Fr42 s t i u ∧ wx = w ∧ i < s.size ∧ i < t.size ∧ uniOf (s.extract i s.size) (t.extract i t.size) = eqfB s t

theorem juni_of {s t : ByteArray} {w wx : World} {a : Act} {i : Nat} (h : a = Fr42 s t i (fun i => a.tmps.getD i undef)) (h1 : wx = w) (h2 : i < s.size) (h3 : i < t.size) (h4 : uniOf (s.extract i s.size) (t.extract i t.size) = eqfB s t) : JUni s t w a wx :=
 ⟨_, _, h, h1, h2, h3, h4⟩

set_option maxHeartbeats 3200000 in
set_option maxRecDepth 100000 in
theorem std_equalFold (s t : ByteArray) (w : World) (B : Nat) (hs : s.size ≤ 2147483647) (ht : t.size ≤ 2147483647) (hE : CaseEnv B w) :
  Calls Tryz.prog 42 #[.string s, .string t] w fun e w' => e = .returned (.bool (eqfB s t)) ∧ Below w.heap.size w w' := by
 have HE := Lib.hid hE
 clear hE
 obtain ⟨ANS, hANS⟩ : ∃ ANS, eqfB s t = ANS := ⟨_, rfl⟩
 have HA0 := Lib.hid hANS
 obtain ⟨M, hM⟩ : ∃ M : Nat, min (s.size : Int) (t.size : Int) = (M : Int) := ⟨min s.size t.size, by omega⟩
 have hM2 : min s.size t.size = M := by omega
 have hMs : M ≤ s.size := by omega
 have hMt : M ≤ t.size := by omega
 have hMe : M = s.size ∨ M = t.size := by omega
 rw [hANS]
 have HI0 : Hid (asciiB s t M 0 = ANS) := by rw [← hM2]; exact hANS
 clear hANS
 go_enter Tryz.func42, Tryz.ntmps42
 go_wp2_with fail
 refine wp_scope_two 0 0 (JUni s t w) (fun _ _ => False) rfl rfl ?first ?p0 ?p1
 case p1 => exact fun _ _ h => h.elim
 case p0 =>
  rintro a wx ⟨u, i, rfl, hwx, hi1, hi2, hU⟩
  subst hwx
  unfold Fr42
  rw [HA0.out] at hU
  have hiz1 : (i : Int) ≤ (s.size : Int) := by omega
  have hiz2 : (i : Int) ≤ (t.size : Int) := by omega
  obtain ⟨S, hS⟩ : ∃ S, s.extract i s.size = S := ⟨_, rfl⟩
  obtain ⟨T0, hT0⟩ : ∃ T, t.extract i t.size = T := ⟨_, rfl⟩
  have zS : S.size ≤ 2147483647 := by rw [← hS, ByteArray.size_extract]; omega
  have zT : T0.size ≤ 2147483647 := by rw [← hT0, ByteArray.size_extract]; omega
  rw [hS, hT0] at hU
  unfold uniOf at hU
  have HU := Lib.hid hU
  clear hU hM hM2 hMs hMt hMe HI0 HA0
  go_wp2_with fail
  try rw [hS]
  try rw [hT0]
  clear hS hT0 hiz1 hiz2 hi1 hi2 hs ht
  go_loopg [1, 10, 11, 12, 13] S.size (fun g s1 s10 s11 s12 s13 wr => ∃ (pos : Nat) (T : ByteArray), s1 = .string T ∧ T.size ≤ 2147483647 ∧ wr.heap[wx.heap.size]? = some (.stringIter S pos) ∧ Below wx.heap.size wx wr ∧ pos ≤ S.size ∧ S.size ≤ pos + g ∧ Hid ((if pos < S.size then uniB S g pos T else decide (T.size = 0)) = ANS))
  case atStart =>
   exact ⟨0, T0, rfl, zT, World.iter_heap wx S 0, (Below.refl _ _).alloc (Nat.le_refl _) _, by omega, by omega, HU⟩
  case round =>
   obtain ⟨pos, T, rfl, zT2, hit, hbw, hps, hfu, hu⟩ := hrel
   clear HU zT
   by_cases hlt : pos < S.size
   ·obtain ⟨g', rfl⟩ : ∃ g', gk = g' + 1 := ⟨gk - 1, by omega⟩
    have hnx : ∀ ty, (Instr.next (.pointer (some ⟨wx.heap.size, 0, none⟩)) true ty).run Tryz.prog wr = _ := fun ty => Lib.run_next_any_at wr wx.heap.size S pos ty hit hlt
    have hwd := Lib.width_pos S pos
    have hwn : pos + (Utf8.decode S pos).2 ≤ S.size := by
     have hlen : S.data.toList.length = S.size := (Lib.size_eq S).symm
     have hne : S.data.toList.drop pos ≠ [] := by
      intro h0
      have := congrArg List.length h0
      rw [List.length_drop, hlen] at this
      simp at this
      omega
     have := Lib.decodeL_le _ hne
     rw [Lib.decodeL_drop, List.length_drop, hlen] at this
     omega
    have hrl := Lib.rune_le S pos
    have hu2 := hu.out
    rw [if_pos hlt] at hu2
    unfold uniB at hu2
    obtain ⟨R, hR⟩ : ∃ R, (Utf8.decode S pos).1 = R := ⟨_, rfl⟩
    obtain ⟨K, hK⟩ : ∃ K, (Utf8.decode S pos).2 = K := ⟨_, rfl⟩
    rw [hR, hK] at hnx hu2
    rw [hK] at hwd hwn
    rw [hR] at hrl
    have hit2 := Lib.iterAt_heap wr wx.heap.size S pos (pos + K) hit
    have hbw2 := Lib.below_iterAt hbw (k := wx.heap.size) (by omega) S (pos + K)
    obtain ⟨W, hWd⟩ : ∃ W, wr.iterAt wx.heap.size S (pos + K) = W := ⟨_, rfl⟩
    rw [hWd] at hnx hit2 hbw2
    clear hit hbw hWd hu hR hK
    by_cases hT : T.size = 0
    ·rw [if_pos hT] at hu2
     have hz : ((T.size : Int) == 0) = true := beq_iff_eq.2 (by omega)
     have HW := Lib.hid (And.intro hu2 hbw2)
     clear hu2 hbw2 hit2
     go_wp2_with fail
     first | go_ret | (rw [Exit.noGoto_ret]; go_ret)
     exact ⟨by rw [← HW.out.1]; rfl, HW.out.2⟩
    ·rw [if_neg hT] at hu2
     have hz : ((T.size : Int) == 0) = false := beq_eq_false_iff_ne.2 (by omega)
     have KD := Lib.hid ((HE.out.below (hbw2.mono HE.out.size)).dec T)
     have hJ : (decodeGo T).2 ≤ T.size := by
      unfold decodeGo
      rw [if_neg hT]
      have hlen : T.data.toList.length = T.size := (Lib.size_eq T).symm
      have hne : T.data.toList ≠ [] := by
       intro h0
       have := congrArg List.length h0
       rw [hlen] at this
       exact hT this
      have := Lib.decodeL_le _ hne
      rw [hlen] at this
      have e := Lib.decodeL_drop T 0
      rw [List.drop_zero] at e
      rw [← e]
      exact this
     generalize (decodeGo T).1 = Q at *
     generalize (decodeGo T).2 = J at *
     have zT' : (T.extract J T.size).size ≤ 2147483647 := by rw [ByteArray.size_extract]; omega
     have hJz : (J : Int) ≤ (T.size : Int) := by omega
     have HU2 := Lib.hid hu2
     clear hu2
     have KF := Lib.hid (fun (r : Int) (w1 : World) (hb : Below W.heap.size W w1) => ((HE.out.below (hbw2.mono HE.out.size)).below (hb.mono (HE.out.below (hbw2.mono HE.out.size)).size)).fold r)
     have HIT : Hid (Iter wx.heap.size S (pos + K) wx W) := ⟨hit2, hbw2⟩
     clear hT hit2 hbw2
     by_cases hq : R = Q
     ·subst hq
      have HU3 : Hid ((if pos + K < S.size then uniB S g' (pos + K) (T.extract J T.size) else decide ((T.extract J T.size).size = 0)) = ANS) := by
       have := HU2.out
       rw [show runeEq (R : Int) (R : Int) = true by unfold runeEq; rw [if_pos rfl]] at this
       exact this
      clear HU2 KF
      go_wp2_with (go_at_call 60; (with_reducible refine KD.out.mono ?_); rintro e w1 ⟨rfl, hb⟩; have HB := Lib.hid (HIT.out.next hb); clear hb)
      go_roundg g'
      case measure => omega
      case rel => exact ⟨pos + K, T.extract J T.size, rfl, zT', HB.out.at', HB.out.below, by omega, by omega, HU3⟩
     ·by_cases hlt2 : R < Q
      ·obtain ⟨b, hb0⟩ : ∃ b, chaseB (R : Int) (Q : Int) = b := ⟨_, rfl⟩
       have hrq : runeEq (R : Int) (Q : Int) = b := by unfold runeEq; rw [if_neg (by omega), if_pos (by omega)]; exact hb0
       have o1 : ¬ ((Q : Int) < (R : Int)) := by omega
       have o2 : ¬ Q < R := by omega
       have e1 : ((Q : Int) == (R : Int)) = false := beq_eq_false_iff_ne.2 (by omega)
       have HU3 : Hid ((if b then (if pos + K < S.size then uniB S g' (pos + K) (T.extract J T.size) else decide ((T.extract J T.size).size = 0)) else false) = ANS) := by have := HU2.out; rw [hrq] at this; exact this
       clear HU2 hrq hq
       unfold chaseB at hb0
       by_cases h128 : (Q : Int) < 128
       ·rw [if_pos h128] at hb0
        have h128n : Q < 128 := by omega
        have HB0 := Lib.hid hb0
        clear hb0 KF
        go_wp2_with (go_at_call 60; (with_reducible refine KD.out.mono ?_); rintro e w1 ⟨rfl, hb⟩; have HB := Lib.hid (HIT.out.next hb); clear hb)
        all_goals (try simp only [beq_iff_eq, beq_eq_false_iff_ne, ne_eq] at *)
        all_goals first
         | (go_roundg g'
            case measure => omega
            case rel => exact ⟨pos + K, T.extract J T.size, rfl, zT', HB.out.at', HB.out.below, by omega, by omega, by have h1 := HU3.out; rw [← HB0.out, if_pos (decide_eq_true (by omega))] at h1; exact h1⟩)
         | (first | go_ret | (rw [Exit.noGoto_ret]; go_ret)
            refine ⟨?_, HB.out.below⟩
            have h1 := HU3.out
            rw [← HB0.out, decide_eq_false (by omega)] at h1
            rw [← h1]
            rfl)
       ·rw [if_neg h128] at hb0
        have h128n : ¬ Q < 128 := by omega
        have HB0 : Hid (upTo (R : Int) (Q : Int) 5 (foldR (R : Int)) = b) := hb0
        clear hb0
        go_wp2_with (first
         | (go_at_call 60; (with_reducible refine KD.out.mono ?_); rintro e w1 ⟨rfl, hb⟩; have HB := Lib.hid (And.intro hb (HIT.out.next hb)); clear hb)
         | (go_at_call 61; (with_reducible refine (KF.out _ _ HB.out.1).mono ?_); rintro e w2 ⟨rfl, n0, rfl⟩))
        go_loopg [13] 5 (fun g s13 wy => ∃ (r : Int) (n : Nat), s13 = .int .i32 r ∧ wy = w1.drewN n ∧ Hid (upTo (R : Int) (Q : Int) g r = b) ∧ Hid (Back (R : Int) g r))
        case atStart => exact ⟨_, n0, rfl, rfl, HB0, back_first _⟩
        case round =>
         obtain ⟨r, n, rfl, rfl, hb1, hback⟩ := hrel
         obtain ⟨g2, rfl⟩ : ∃ g2, gk = g2 + 1 := ⟨gk - 1, by have := hback.out.pos; omega⟩
         have hb2 := hb1.out
         unfold upTo at hb2
         by_cases hr1 : r = (R : Int)
         ·rw [if_neg (fun h => h.1 hr1), decide_eq_false (by omega)] at hb2
          have f1 : (r != (R : Int)) = false := by rw [hr1]; simp
          have f2 : (r == (Q : Int)) = false := beq_eq_false_iff_ne.2 (by omega)
          have HB2 := Lib.hid hb2
          clear hb2 hb1 hback HB0
          go_wp2_with fail
          first | go_ret | (rw [Exit.noGoto_ret]; go_ret)
          exact ⟨by have h1 := HU3.out; rw [← HB2.out] at h1; rw [← h1]; rfl, below_drewN HB.out.2.below _⟩
         ·by_cases hr2 : r < (Q : Int)
          ·rw [if_pos ⟨hr1, hr2⟩] at hb2
           have f1 : (r != (R : Int)) = true := bne_iff_ne.2 hr1
           have HB2 := Lib.hid hb2
           clear hb2 hb1 HB0
           go_wp2_with (go_at_call 61; (with_reducible refine (KF.out _ _ (below_drewN HB.out.1 n)).mono ?_); rintro e w2 ⟨rfl, q, rfl⟩)
           go_roundg g2
           case measure => omega
           case rel => exact ⟨foldR r, n + q, rfl, rfl, HB2, hback.out.next hr1⟩
          ·rw [if_neg (fun h => hr2 h.2)] at hb2
           have f1 : (r != (R : Int)) = true := bne_iff_ne.2 hr1
           by_cases hr3 : r = (Q : Int)
           ·rw [decide_eq_true hr3] at hb2
            have f2 : (r == (Q : Int)) = true := beq_iff_eq.2 hr3
            have HB2 := Lib.hid hb2
            have HIT2 := Lib.hid (HB.out.2.drewN n)
            clear hb2 hb1 hback HB0
            go_wp2_with fail
            go_roundg g'
            case measure => omega
            case rel => exact ⟨pos + K, T.extract J T.size, rfl, zT', HIT2.out.at', HIT2.out.below, by omega, by omega, by have h1 := HU3.out; rw [← HB2.out] at h1; exact h1⟩
           ·rw [decide_eq_false hr3] at hb2
            have f2 : (r == (Q : Int)) = false := beq_eq_false_iff_ne.2 hr3
            have HB2 := Lib.hid hb2
            clear hb2 hb1 hback HB0
            go_wp2_with fail
            first | go_ret | (rw [Exit.noGoto_ret]; go_ret)
            exact ⟨by have h1 := HU3.out; rw [← HB2.out] at h1; rw [← h1]; rfl, below_drewN HB.out.2.below _⟩
      ·obtain ⟨b, hb0⟩ : ∃ b, chaseB (Q : Int) (R : Int) = b := ⟨_, rfl⟩
       have hrq : runeEq (R : Int) (Q : Int) = b := by unfold runeEq; rw [if_neg (by omega), if_neg (by omega)]; exact hb0
       have o1 : (Q : Int) < (R : Int) := by omega
       have o2 : Q < R := by omega
       have e1 : ((Q : Int) == (R : Int)) = false := beq_eq_false_iff_ne.2 (by omega)
       have HU3 : Hid ((if b then (if pos + K < S.size then uniB S g' (pos + K) (T.extract J T.size) else decide ((T.extract J T.size).size = 0)) else false) = ANS) := by have := HU2.out; rw [hrq] at this; exact this
       clear HU2 hrq hq
       unfold chaseB at hb0
       by_cases h128 : (R : Int) < 128
       ·rw [if_pos h128] at hb0
        have h128n : R < 128 := by omega
        have HB0 := Lib.hid hb0
        clear hb0 KF
        go_wp2_with (go_at_call 60; (with_reducible refine KD.out.mono ?_); rintro e w1 ⟨rfl, hb⟩; have HB := Lib.hid (HIT.out.next hb); clear hb)
        all_goals (try simp only [beq_iff_eq, beq_eq_false_iff_ne, ne_eq] at *)
        all_goals first
         | (go_roundg g'
            case measure => omega
            case rel => exact ⟨pos + K, T.extract J T.size, rfl, zT', HB.out.at', HB.out.below, by omega, by omega, by have h1 := HU3.out; rw [← HB0.out, if_pos (decide_eq_true (by omega))] at h1; exact h1⟩)
         | (first | go_ret | (rw [Exit.noGoto_ret]; go_ret)
            refine ⟨?_, HB.out.below⟩
            have h1 := HU3.out
            rw [← HB0.out, decide_eq_false (by omega)] at h1
            rw [← h1]
            rfl)
       ·rw [if_neg h128] at hb0
        have h128n : ¬ R < 128 := by omega
        have HB0 : Hid (upTo (Q : Int) (R : Int) 5 (foldR (Q : Int)) = b) := hb0
        clear hb0
        go_wp2_with (first
         | (go_at_call 60; (with_reducible refine KD.out.mono ?_); rintro e w1 ⟨rfl, hb⟩; have HB := Lib.hid (And.intro hb (HIT.out.next hb)); clear hb)
         | (go_at_call 61; (with_reducible refine (KF.out _ _ HB.out.1).mono ?_); rintro e w2 ⟨rfl, n0, rfl⟩))
        go_loopg [13] 5 (fun g s13 wy => ∃ (r : Int) (n : Nat), s13 = .int .i32 r ∧ wy = w1.drewN n ∧ Hid (upTo (Q : Int) (R : Int) g r = b) ∧ Hid (Back (Q : Int) g r))
        case atStart => exact ⟨_, n0, rfl, rfl, HB0, back_first _⟩
        case round =>
         obtain ⟨r, n, rfl, rfl, hb1, hback⟩ := hrel
         obtain ⟨g2, rfl⟩ : ∃ g2, gk = g2 + 1 := ⟨gk - 1, by have := hback.out.pos; omega⟩
         have hb2 := hb1.out
         unfold upTo at hb2
         by_cases hr1 : r = (Q : Int)
         ·rw [if_neg (fun h => h.1 hr1), decide_eq_false (by omega)] at hb2
          have f1 : (r != (Q : Int)) = false := by rw [hr1]; simp
          have f2 : (r == (R : Int)) = false := beq_eq_false_iff_ne.2 (by omega)
          have HB2 := Lib.hid hb2
          clear hb2 hb1 hback HB0
          go_wp2_with fail
          first | go_ret | (rw [Exit.noGoto_ret]; go_ret)
          exact ⟨by have h1 := HU3.out; rw [← HB2.out] at h1; rw [← h1]; rfl, below_drewN HB.out.2.below _⟩
         ·by_cases hr2 : r < (R : Int)
          ·rw [if_pos ⟨hr1, hr2⟩] at hb2
           have f1 : (r != (Q : Int)) = true := bne_iff_ne.2 hr1
           have HB2 := Lib.hid hb2
           clear hb2 hb1 HB0
           go_wp2_with (go_at_call 61; (with_reducible refine (KF.out _ _ (below_drewN HB.out.1 n)).mono ?_); rintro e w2 ⟨rfl, q, rfl⟩)
           go_roundg g2
           case measure => omega
           case rel => exact ⟨foldR r, n + q, rfl, rfl, HB2, hback.out.next hr1⟩
          ·rw [if_neg (fun h => hr2 h.2)] at hb2
           have f1 : (r != (Q : Int)) = true := bne_iff_ne.2 hr1
           by_cases hr3 : r = (R : Int)
           ·rw [decide_eq_true hr3] at hb2
            have f2 : (r == (R : Int)) = true := beq_iff_eq.2 hr3
            have HB2 := Lib.hid hb2
            have HIT2 := Lib.hid (HB.out.2.drewN n)
            clear hb2 hb1 hback HB0
            go_wp2_with fail
            go_roundg g'
            case measure => omega
            case rel => exact ⟨pos + K, T.extract J T.size, rfl, zT', HIT2.out.at', HIT2.out.below, by omega, by omega, by have h1 := HU3.out; rw [← HB2.out] at h1; exact h1⟩
           ·rw [decide_eq_false hr3] at hb2
            have f2 : (r == (R : Int)) = false := beq_eq_false_iff_ne.2 hr3
            have HB2 := Lib.hid hb2
            clear hb2 hb1 hback HB0
            go_wp2_with fail
            first | go_ret | (rw [Exit.noGoto_ret]; go_ret)
            exact ⟨by have h1 := HU3.out; rw [← HB2.out] at h1; rw [← h1]; rfl, below_drewN HB.out.2.below _⟩
   ·have hz : pos = S.size := by omega
    have hnx : ∀ ty, (Instr.next (.pointer (some ⟨wx.heap.size, 0, none⟩)) true ty).run Tryz.prog wr = _ := fun ty => Lib.run_next_end_at wr wx.heap.size S pos ty hit hlt
    have hu2 := hu.out
    rw [if_neg hlt] at hu2
    have HW := Lib.hid (And.intro hu2 hbw)
    clear hu2 hbw hit hu
    by_cases hT : T.size = 0
    ·have hz2 : ((T.size : Int) == 0) = true := beq_iff_eq.2 (by omega)
     go_wp2_with fail
     first | go_ret | (rw [Exit.noGoto_ret]; go_ret)
     exact ⟨by rw [← HW.out.1, decide_eq_true hT]; rfl, HW.out.2⟩
    ·have hz2 : ((T.size : Int) == 0) = false := beq_eq_false_iff_ne.2 (by omega)
     go_wp2_with fail
     first | go_ret | (rw [Exit.noGoto_ret]; go_ret)
     exact ⟨by rw [← HW.out.1, decide_eq_false hT]; rfl, HW.out.2⟩
 case first =>
  go_wp2_with fail
  go_loopg [5] M (fun g s5 wx => w = wx ∧ ∃ i : Nat, i + g = M ∧ s5 = .int .i64 i ∧ Hid (asciiB s t g i = ANS))
  case atStart => exact ⟨rfl, 0, by omega, rfl, HI0⟩
  case round =>
   obtain ⟨rfl, i, hig, rfl, HI⟩ := hrel
   clear hM HI0
   cases gk with
   | zero =>
    have hiM : ¬ ((i : Int) < (M : Int)) := by omega
    obtain rfl : i = M := by omega
    have hE : Hid (decide (s.size = t.size) = ANS) := HI
    by_cases hst : s.size = t.size
    ·have hb : ((s.size : Int) == (t.size : Int)) = true := beq_iff_eq.2 (by omega)
     have hE2 : Hid (true = ANS) := by have := hE.out; rw [decide_eq_true hst] at this; exact this
     clear hE hM2
     go_wp2_with fail
     go_ret
     exact ⟨by rw [← hE2.out]; rfl, Below.refl _ _⟩
    ·have hb : ((s.size : Int) == (t.size : Int)) = false := beq_eq_false_iff_ne.2 (by omega)
     have hE2 : Hid (false = ANS) := by have := hE.out; rw [decide_eq_false hst] at this; exact this
     clear hE hM2
     go_wp2_with fail
     go_ret
     exact ⟨by rw [← hE2.out]; rfl, Below.refl _ _⟩
   | succ g =>
    have hiM : (i : Int) < (M : Int) := by omega
    have hisz : (i : Int) < (s.size : Int) := by omega
    have hitz : (i : Int) < (t.size : Int) := by omega
    obtain ⟨x, hx⟩ : ∃ x : UInt8, s[i]'(by omega) = x := ⟨_, rfl⟩
    obtain ⟨y, hy⟩ : ∃ y : UInt8, t[i]'(by omega) = y := ⟨_, rfl⟩
    have hxl : s.data.toList[i]? = some x := by rw [← hx]; exact Lib.data_getElem? s i (by omega)
    have hyl : t.data.toList[i]? = some y := by rw [← hy]; exact Lib.data_getElem? t i (by omega)
    have hbx : byteN s i = x.toNat := by unfold byteN; rw [List.getD_eq_getElem?_getD, hxl]; rfl
    have hby : byteN t i = y.toNat := by unfold byteN; rw [List.getD_eq_getElem?_getD, hyl]; rfl
    have h1 := HI.out
    unfold asciiB at h1
    rw [hbx, hby] at h1
    have hx256 := x.toNat_lt
    have hy256 := y.toNat_lt
    have hor : bits .or .u8 (x.toNat : Int) (y.toNat : Int) = ((x.toNat ||| y.toNat : Nat) : Int) := u8_or_nat _ _ (by omega) (by omega)
    by_cases hc : 128 ≤ x.toNat ∨ 128 ≤ y.toNat
    ·rw [if_pos hc] at h1
     have hor128 : (128 : Int) ≤ ((x.toNat ||| y.toNat : Nat) : Int) := by
      have e1 : x.toNat ≤ x.toNat ||| y.toNat := Nat.left_le_or
      have e2 : y.toNat ≤ x.toNat ||| y.toNat := Nat.right_le_or
      omega
     have H1 := Lib.hid h1
     clear h1 HI hbx hby hxl hyl hc hM2 hMe
     go_wp2_with fail
     go_step3
     exact Or.inl ⟨rfl, juni_of rfl rfl (by omega) (by omega) (by rw [H1.out]; exact HA0.out.symm)⟩
    ·rw [if_neg hc] at h1
     have hx128 : x.toNat < 128 := by omega
     have hy128 : y.toNat < 128 := by omega
     have hor128 : ¬ ((128 : Int) ≤ ((x.toNat ||| y.toNat : Nat) : Int)) := by have := Nat.or_lt_two_pow (n := 7) hx128 hy128; omega
     have H1 := Lib.hid h1
     clear h1 HI hbx hby hxl hyl hc hM2
     go_wp2
     all_goals (try simp only [beq_iff_eq, beq_eq_false_iff_ne, ne_eq] at *)
     all_goals first
      | (go_roundg g
         case measure => omega
         case rel => exact ⟨rfl, i + 1, by omega, by first | rfl | simp, by have := H1.out; rw [if_pos (by unfold pairB; exact decide_eq_true (by omega))] at this; exact this⟩)
      | (go_ret
         refine ⟨?_, Below.refl _ _⟩
         have := H1.out
         rw [if_neg (by unfold pairB; rw [decide_eq_false (by omega)]; decide)] at this
         rw [← this]
         rfl)

end Go.Proofs.YtgolhmiocjpohaaGreatDoor
