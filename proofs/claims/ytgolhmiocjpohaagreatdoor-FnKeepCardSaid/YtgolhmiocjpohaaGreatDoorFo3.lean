/- unicode.SimpleFold (61) computes foldR where the tables lie as laid; every orbit of foldR closes within five steps. No condition beyond the tables. unicode.SimpleFold (61) computes foldR where the tables lie as laid. No condition beyond the tables. -/
import Derived.PlainAid
import Derived.Test.YtgolhmiocjpohaaGreatDoorFo1
import Derived.Test.YtgolhmiocjpohaaGreatDoorDec5
import Derived.Test.YtgolhmiocjpohaaGreatDoorGen1
set_option linter.unusedVariables false
set_option linter.unusedSimpArgs false
namespace Go.Proofs.YtgolhmiocjpohaaGreatDoor
open Go.RowKit Go.Lib Go.PlainAid

theorem rows_close_of : ∀ (ns : List Nat), (∀ n ∈ ns, rowsClose ((caseT.drop (28 * n)).take 28) = true) → ∀ i, i / 28 ∈ ns → ∀ x, caseT[i]? = some x → closesFrom x.1 (x.2.1 + 1 - x.1) = true := by
 intro ns h i hi x hx
 have h1 := h _ hi
 unfold rowsClose at h1
 refine List.all_eq_true.1 h1 x (List.mem_of_getElem? (i := i % 28) ?_)
 rw [List.getElem?_take, if_pos (by omega), List.getElem?_drop]
 rw [show 28 * (i / 28) + i % 28 = i by omega]
 exact hx

theorem row_closes (i : Nat) (x : CaseRow) (hx : caseT[i]? = some x) : closesFrom x.1 (x.2.1 + 1 - x.1) = true := by
 have hi : i < 336 := by
  have h := (List.getElem?_eq_some_iff.1 hx).1
  have e : caseT.length = 336 := by kernel_rfl
  omega
 refine rows_close_of [0, 1, 2, 3, 4, 5, 6, 7, 8, 9, 10, 11] ?_ i ?_ x hx
 ·intro n hn
  simp only [List.mem_cons, List.mem_nil_iff, or_false] at hn
  rcases hn with rfl | rfl | rfl | rfl | rfl | rfl | rfl | rfl | rfl | rfl | rfl | rfl
  ·exact rows_close_0
  ·exact rows_close_28
  ·exact rows_close_56
  ·exact rows_close_84
  ·exact rows_close_112
  ·exact rows_close_140
  ·exact rows_close_168
  ·exact rows_close_196
  ·exact rows_close_224
  ·exact rows_close_252
  ·exact rows_close_280
  ·exact rows_close_308
 ·simp only [List.mem_cons, List.mem_nil_iff, or_false]
  omega

theorem closes_of_fix {r : Int} (h : foldR r = r) : closes r = true := by
 unfold closes
 simp [h]

theorem orb_size : orbA.size = 94 := by kernel_rfl
theorem ascii_size : asciiA.size = 128 := by kernel_rfl

theorem closes_all (r : Int) : closes r = true := by
 by_cases h0 : r < 0 ∨ 1114111 < r
 ·exact closes_of_fix (by unfold foldR; rw [if_pos h0])
 ·obtain ⟨n, rfl⟩ : ∃ n : Nat, r = n := ⟨r.toNat, by omega⟩
  by_cases h1 : (n : Int) < 128
  ·exact closesFrom_all 128 0 ascii_closes n (by omega) (by omega)
  ·by_cases h2 : orbAt n < orbA.size ∧ ((orbA.getD (orbAt n) (0, 0)).1 : Int) = n
   ·have hm : orbA.getD (orbAt n) (0, 0) ∈ orbL := by
     have hlt := h2.1
     unfold orbA at hlt ⊢
     simp only [List.size_toArray] at hlt
     rw [Array.getD_eq_getD_getElem?, List.getElem?_toArray, List.getElem?_eq_getElem hlt]
     exact List.getElem_mem hlt
    have := List.all_eq_true.1 orb_closes _ hm
    rw [h2.2] at this
    exact this
   ·cases hl : lookupIdx caseA n (caseA.size + 1) 0 caseA.size with
    | none =>
     refine closes_of_fix ?_
     unfold foldR
     rw [if_neg h0, if_neg h1, if_neg h2, hl]
    | some i =>
     obtain ⟨hil, hlo, hhi⟩ := lookupIdx_some _ _ _ _ _ i hl
     have hil2 : i < caseT.length := by unfold caseA at hil; simpa using hil
     have hg : caseA.getD i (0, 0, 0, 0, 0) = caseT[i] := by
      unfold caseA
      rw [Array.getD_eq_getD_getElem?, List.getElem?_toArray, List.getElem?_eq_getElem hil2]
      rfl
     rw [hg] at hlo hhi
     exact closesFrom_all _ _ (row_closes i _ (List.getElem?_eq_getElem hil2)) n (by omega) (by omega)

/-- The tables as they lie. -/
def AsciiVar (w : World) : Prop := ∀ i, i < 128 → w.cell? ⟨0, i, none⟩ = some (.int .u16 (asciiA.getD i 0 : Nat))
def OrbTab (R oR : Nat) (w : World) : Prop := ∀ i, i < orbA.size → w.cell? ⟨R, oR + i * 2, none⟩ = some (.int .u16 ((orbA.getD i (0, 0)).1 : Nat)) ∧ w.cell? ⟨R, oR + i * 2 + 1, none⟩ = some (.int .u16 ((orbA.getD i (0, 0)).2 : Nat))
def OrbVar (w : World) : Prop := ∃ R oR cap, w.cell? ⟨1, 0, none⟩ = some (.slice (some ⟨R, oR, none⟩) 94 cap) ∧ OrbTab R oR w

theorem orb_small : (orbL.all fun x => decide (x.1 < 65536) && decide (x.2 < 65536)) = true := by kernel_rfl
theorem ascii_small : (asciiL.all fun x => decide (x < 65536)) = true := by kernel_rfl

theorem orb_lt (i : Nat) (hi : i < 94) : (orbA.getD i (0, 0)).1 < 65536 ∧ (orbA.getD i (0, 0)).2 < 65536 := by
 have hlt : i < orbL.length := by have := orb_size; unfold orbA at this; simp at this; omega
 have hm : orbA.getD i (0, 0) ∈ orbL := by
  unfold orbA
  rw [Array.getD_eq_getD_getElem?, List.getElem?_toArray, List.getElem?_eq_getElem hlt]
  exact List.getElem_mem hlt
 simpa using List.all_eq_true.1 orb_small _ hm
theorem ascii_lt (i : Nat) (hi : i < 128) : asciiA.getD i 0 < 65536 := by
 have hlt : i < asciiL.length := by have := ascii_size; unfold asciiA at this; simp at this; omega
 have hm : asciiA.getD i 0 ∈ asciiL := by
  unfold asciiA
  rw [Array.getD_eq_getD_getElem?, List.getElem?_toArray, List.getElem?_eq_getElem hlt]
  exact List.getElem_mem hlt
 simpa using List.all_eq_true.1 ascii_small _ hm

theorem orbIdx_le (r : Int) : ∀ f lo hi, lo ≤ hi → hi ≤ 94 → orbIdx r f lo hi ≤ 94
 | 0, lo, hi, h, h2 => by unfold orbIdx; omega
 | f + 1, lo, hi, h, h2 => by
  unfold orbIdx
  split
  ·split
   ·exact orbIdx_le r f _ _ (by omega) h2
   ·exact orbIdx_le r f _ _ (by omega) (by omega)
  ·omega

end Go.Proofs.YtgolhmiocjpohaaGreatDoor

namespace Go.Proofs.YtgolhmiocjpohaaGreatDoor
open Go.RowKit Go.Lib Go.PlainAid

theorem std_lookupT (T : Array CaseRow) (R oR cap : Nat) (r : Int) (w : World) (hT : CaseTab R oR T w) (hok : CaseOk T) (hn : T.size ≤ 1000000000) :
  Calls Tryz.prog 77 #[.int .i32 r, .slice (some ⟨R, oR, none⟩) T.size cap] w fun e w' =>
   e = .returned (match lookupIdx T r (T.size + 1) 0 T.size with | some i => .pointer (some ⟨R, oR + i * 5, none⟩) | none => .pointer none) ∧ w' = w :=
 Any.unicode_lookupCaseRange { Tryz.lays262 with } T R oR cap r w hT hok hn
theorem std_convertCase (c : Nat) (hc : c < 3) (r : Int) (A o : Nat) (x : CaseRow) (w : World) (hlo : (x.1 : Int) ≤ r) (hhi : r ≤ (x.2.1 : Int)) (hH : x.2.1 < 2147483647)
  (c0 : w.cell? ⟨A, o, none⟩ = some (.int .u32 x.1)) (cD : w.cell? ⟨A, o + 2 + c, none⟩ = some (.int .i32 (x.delta c))) :
  Calls Tryz.prog 78 #[.int .i64 c, .int .i32 r, .pointer (some ⟨A, o, none⟩)] w fun e w' => e = .returned (.int .i32 (wrap32 (convertR c r x))) ∧ ∃ q, w' = w.drewN q :=
 Any.unicode_convertCase { Tryz.lays262 with } c hc r A o x w hlo hhi hH c0 cD

theorem drew_self (w : World) : ∃ q, w = w.drewN q := ⟨0, rfl⟩
theorem drew_some (w : World) (n : Nat) : ∃ q, w.drewN n = w.drewN q := ⟨n, rfl⟩

def RuneOut (r : Int) (w : World) (e : Ending) (w' : World) : Prop := e = .returned (.int .i32 r) ∧ ∃ q, w' = w.drewN q

set_option maxHeartbeats 1000000 in
set_option maxRecDepth 100000 in
theorem simpleFold (r : Int) (w : World) (hA : AsciiVar w) (hO : OrbVar w) (hV : CaseVar 2 caseA w) : Calls Tryz.prog 61 #[.int .i32 r] w (RuneOut (foldR r) w) := by
 by_cases h0 : r < 0
 ·have e : foldR r = r := by unfold foldR; rw [if_pos (Or.inl h0)]
  rw [e]
  clear e hA hO hV
  go_enter Tryz.func61, Tryz.ntmps61
  go_wp2_with fail
  go_ret
  exact ⟨rfl, 0, rfl⟩
 by_cases h01 : 1114111 < r
 ·have e : foldR r = r := by unfold foldR; rw [if_pos (Or.inr h01)]
  rw [e]
  clear e hA hO hV
  go_enter Tryz.func61, Tryz.ntmps61
  go_wp2_with fail
  go_ret
  exact ⟨rfl, 0, rfl⟩
 obtain ⟨n, rfl⟩ : ∃ n : Nat, r = n := ⟨r.toNat, by omega⟩
 have hn : ¬ ((n : Int) < 0 ∨ 1114111 < (n : Int)) := by omega
 by_cases h1 : (n : Int) < 128
 ·have c := hA n (by omega)
  have cl := ascii_lt n (by omega)
  have e : foldR n = (asciiA.getD n 0 : Nat) := by unfold foldR; rw [if_neg hn, if_pos h1]; rfl
  rw [e]
  generalize asciiA.getD n 0 = v at *
  have h2 : n < 128 := by omega
  clear hA hO hV e hn
  go_enter Tryz.func61, Tryz.ntmps61
  go_wp2_with fail
  go_ret
  exact ⟨rfl, 0, rfl⟩
 obtain ⟨R, oR, cap, cO, hOT⟩ := hO
 obtain ⟨R2, oR2, cap2, cV, hVT⟩ := hV
 have HF0 : foldR n = if orbAt n < 94 ∧ ((orbA.getD (orbAt n) (0, 0)).1 : Int) = n then ((orbA.getD (orbAt n) (0, 0)).2 : Int)
   else match lookupIdx caseA n 337 0 336 with
    | some i => if wrap32 (convertR 1 n (caseA.getD i (0, 0, 0, 0, 0))) = n then wrap32 (convertR 0 n (caseA.getD i (0, 0, 0, 0, 0))) else wrap32 (convertR 1 n (caseA.getD i (0, 0, 0, 0, 0)))
    | none => n := by
  unfold foldR
  rw [if_neg hn, if_neg h1, orb_size, caseA_size]
  rfl
 have hsz := caseA_size
 have hok := caseA_ok2
 generalize foldR n = F at *
 generalize caseA = T at *
 rw [hsz] at cV
 have KL : Hid (Calls Tryz.prog 77 #[.int .i32 n, .slice (some ⟨R2, oR2, none⟩) 336 cap2] w fun e w' =>
   e = .returned (match lookupIdx T n 337 0 336 with | some i => .pointer (some ⟨R2, oR2 + i * 5, none⟩) | none => .pointer none) ∧ w' = w) := by
  have := std_lookupT T R2 oR2 cap2 n w hVT hok.ok (by omega)
  rw [hsz] at this
  exact this
 have KC : Hid (∀ i, lookupIdx T n 337 0 336 = some i → ∀ c : Nat, c < 3 → ∀ w2, (∃ q, w2 = w.drewN q) →
   Calls Tryz.prog 78 #[.int .i64 c, .int .i32 n, .pointer (some ⟨R2, oR2 + i * 5, none⟩)] w2 fun e w' => e = .returned (.int .i32 (wrap32 (convertR c n (T.getD i (0, 0, 0, 0, 0))))) ∧ ∃ q, w' = w2.drewN q) := by
  intro i hi c hc w2 ⟨q, hq⟩
  subst hq
  obtain ⟨hil, hlo, hhi⟩ := lookupIdx_some _ _ _ _ _ i hi
  have hil2 : i < T.size := by rw [hsz]; exact hil
  exact std_convertCase c hc n R2 (oR2 + i * 5) _ (w.drewN q) hlo hhi (hok i hil2).2 (hVT i hil2).1 (hVT.delta i hil2 c hc)
 have KD : Hid ((∀ i, lookupIdx T n 337 0 336 = some i → ∀ w2, (∃ q, w2 = w.drewN q) → Calls Tryz.prog 78 #[.int .i64 1, .int .i32 n, .pointer (some ⟨R2, oR2 + i * 5, none⟩)] w2 fun e w' => e = .returned (.int .i32 (wrap32 (convertR 1 n (T.getD i (0, 0, 0, 0, 0))))) ∧ ∃ q, w' = w2.drewN q) ∧
   (∀ i, lookupIdx T n 337 0 336 = some i → ∀ w2, (∃ q, w2 = w.drewN q) → Calls Tryz.prog 78 #[.int .i64 0, .int .i32 n, .pointer (some ⟨R2, oR2 + i * 5, none⟩)] w2 fun e w' => e = .returned (.int .i32 (wrap32 (convertR 0 n (T.getD i (0, 0, 0, 0, 0))))) ∧ ∃ q, w' = w2.drewN q)) :=
  ⟨fun i hi => KC.out i hi 1 (by omega), fun i hi => KC.out i hi 0 (by omega)⟩
 clear KC
 have HF := Lib.hid HF0
 clear HF0 hok
 have h2 : ¬ n < 128 := by omega
 have hn2 : n ≤ 1114111 := by omega
 have hle : orbAt n ≤ 94 := by unfold orbAt; rw [orb_size]; exact orbIdx_le _ _ _ _ (by omega) (by omega)
 have hAt : Hid (orbIdx n 95 0 94 = orbAt n) := by unfold orbAt; rw [orb_size]; rfl
 generalize orbAt n = M at *
 have HT : Hid (OrbTab R oR w) := hOT
 clear hOT hA hVT hn h0 h01 h1
 go_enter Tryz.func61, Tryz.ntmps61
 go_wp2_with fail
 go_loopg [3, 4, 5] 95 (fun g s3 s4 s5 wx => wx = w ∧ ∃ lo hi : Nat, s3 = .int .i64 lo ∧ s4 = .int .i64 hi ∧ lo ≤ hi ∧ hi ≤ 94 ∧ hi - lo < g ∧ Hid (orbIdx n g lo hi = M))
 case atStart => exact ⟨rfl, 0, 94, rfl, rfl, by omega, by omega, by omega, hAt⟩
 case round =>
  obtain ⟨rfl, lo, hi, rfl, rfl, hlh, hhn, hg, hl⟩ := hrel
  by_cases hlt : lo < hi
  ·obtain ⟨g', rfl⟩ : ∃ g', gk = g' + 1 := ⟨gk - 1, by omega⟩
   have hz : (lo : Int) < (hi : Int) := by omega
   obtain ⟨m, hm⟩ : ∃ m, (lo + hi) / 2 = m := ⟨_, rfl⟩
   have hmr : lo ≤ m ∧ m < hi := by omega
   have hmz : ((lo : Int) + (hi : Int)) / 2 = (m : Int) := by omega
   have c0 := (HT.out m (by rw [orb_size]; omega)).1
   have o0 := (orb_lt m (by omega)).1
   have hl2 := hl.out
   unfold orbIdx at hl2
   rw [if_pos hlt, hm] at hl2
   generalize (orbA.getD m (0, 0)).1 = Fm at *
   by_cases hb : (Fm : Int) < n
   ·rw [if_pos hb] at hl2
    have HL := Lib.hid hl2
    have hb2 : Fm < n := by omega
    clear hl2 hl hAt
    go_wp2_with fail
    go_roundg g'
    case measure => omega
    case rel => exact ⟨rfl, m + 1, hi, by first | rfl | simp, rfl, by omega, by omega, by omega, HL⟩
   ·rw [if_neg hb] at hl2
    have HL := Lib.hid hl2
    have hb2 : ¬ Fm < n := by omega
    clear hl2 hl hAt
    go_wp2_with fail
    go_roundg g'
    case measure => omega
    case rel => exact ⟨rfl, lo, m, rfl, rfl, by omega, by omega, by omega, HL⟩
  ·have hz : ¬ ((lo : Int) < (hi : Int)) := by omega
   have hM : lo = M := by
    have := hl.out
    cases gk with
    | zero => unfold orbIdx at this; exact this
    | succ g => unfold orbIdx at this; rw [if_neg hlt] at this; exact this
   subst hM
   clear hAt hl
   have hle2 : lo ≤ 94 := hle
   clear hle
   have KL2 := KL.out
   have KC2 := KD.out
   have HF2 := HF.out
   clear KL KD HF
   by_cases hq : lo < 94 ∧ ((orbA.getD lo (0, 0)).1 : Int) = n
   ·obtain ⟨q1, q2⟩ := hq
    rw [if_pos ⟨q1, q2⟩] at HF2
    obtain ⟨c0, c1⟩ := HT.out lo (by rw [orb_size]; omega)
    obtain ⟨o0, o1⟩ := orb_lt lo q1
    have z : (lo : Int) < 94 := by omega
    generalize (orbA.getD lo (0, 0)).1 = X at *
    generalize (orbA.getD lo (0, 0)).2 = Y at *
    have hX : X = n := by omega
    subst hX
    subst HF2
    clear KL2 KC2
    go_wp2_with fail
    go_ret
    exact ⟨rfl, 0, rfl⟩
   ·rw [if_neg hq] at HF2
    cases hi : lookupIdx T n 337 0 336 with
    | none =>
     rw [hi] at KL2 HF2
     have KL := Lib.hid KL2
     subst HF2
     clear KL2 KC2 hi
     by_cases q1 : lo < 94
     ·obtain ⟨c0, _⟩ := HT.out lo (by rw [orb_size]; omega)
      obtain ⟨o0, _⟩ := orb_lt lo q1
      have z : (lo : Int) < 94 := by omega
      have hX : ¬ ((orbA.getD lo (0, 0)).1 : Int) = n := fun h => hq ⟨q1, h⟩
      have hX2 : ¬ (orbA.getD lo (0, 0)).1 = n := by omega
      clear hq HT
      generalize (orbA.getD lo (0, 0)).1 = X at *
      go_wp2_with (go_at_call 77; (with_reducible refine KL.out.mono ?_); rintro e w1 ⟨rfl, rfl⟩)
      go_ret
      exact ⟨rfl, 0, rfl⟩
     ·have z : ¬ (lo : Int) < 94 := by omega
      clear hq HT
      go_wp2_with (go_at_call 77; (with_reducible refine KL.out.mono ?_); rintro e w1 ⟨rfl, rfl⟩)
      go_ret
      exact ⟨rfl, 0, rfl⟩
    | some i =>
     rw [hi] at KL2 HF2
     have KL := Lib.hid KL2
     have K1 := Lib.hid (KC2.1 i hi)
     have K0 := Lib.hid (KC2.2 i hi)
     clear KL2 KC2 hi
     dsimp only at HF2
     generalize wrap32 (convertR 1 n (T.getD i (0, 0, 0, 0, 0))) = L1 at *
     generalize wrap32 (convertR 0 n (T.getD i (0, 0, 0, 0, 0))) = L0 at *
     by_cases q1 : lo < 94
     ·obtain ⟨c0, _⟩ := HT.out lo (by rw [orb_size]; omega)
      obtain ⟨o0, _⟩ := orb_lt lo q1
      have z : (lo : Int) < 94 := by omega
      have hX : ¬ ((orbA.getD lo (0, 0)).1 : Int) = n := fun h => hq ⟨q1, h⟩
      have hX2 : ¬ (orbA.getD lo (0, 0)).1 = n := by omega
      clear hq HT
      generalize (orbA.getD lo (0, 0)).1 = X at *
      by_cases hL : L1 = n
      ·rw [if_pos hL] at HF2
       subst HF2
       subst hL
       go_wp2_with (first
        | (go_at_call 77; (with_reducible refine KL.out.mono ?_); rintro e w1 ⟨rfl, rfl⟩)
        | (go_at_call 78; (with_reducible refine (K1.out _ (drew_self _)).mono ?_); rintro e w2 ⟨rfl, q, rfl⟩)
        | (go_at_call 78; (with_reducible refine (K0.out _ (drew_some _ _)).mono ?_); rintro e w3 ⟨rfl, q2, rfl⟩))
       go_ret
       exact ⟨rfl, _, rfl⟩
      ·rw [if_neg hL] at HF2
       subst HF2
       go_wp2_with (first
        | (go_at_call 77; (with_reducible refine KL.out.mono ?_); rintro e w1 ⟨rfl, rfl⟩)
        | (go_at_call 78; (with_reducible refine (K1.out _ (drew_self _)).mono ?_); rintro e w2 ⟨rfl, q, rfl⟩))
       go_ret
       exact ⟨rfl, _, rfl⟩
     ·have z : ¬ (lo : Int) < 94 := by omega
      clear hq HT
      by_cases hL : L1 = n
      ·rw [if_pos hL] at HF2
       subst HF2
       subst hL
       go_wp2_with (first
        | (go_at_call 77; (with_reducible refine KL.out.mono ?_); rintro e w1 ⟨rfl, rfl⟩)
        | (go_at_call 78; (with_reducible refine (K1.out _ (drew_self _)).mono ?_); rintro e w2 ⟨rfl, q, rfl⟩)
        | (go_at_call 78; (with_reducible refine (K0.out _ (drew_some _ _)).mono ?_); rintro e w3 ⟨rfl, q2, rfl⟩))
       go_ret
       exact ⟨rfl, _, rfl⟩
      ·rw [if_neg hL] at HF2
       subst HF2
       go_wp2_with (first
        | (go_at_call 77; (with_reducible refine KL.out.mono ?_); rintro e w1 ⟨rfl, rfl⟩)
        | (go_at_call 78; (with_reducible refine (K1.out _ (drew_self _)).mono ?_); rintro e w2 ⟨rfl, q, rfl⟩))
       go_ret
       exact ⟨rfl, _, rfl⟩

end Go.Proofs.YtgolhmiocjpohaaGreatDoor
