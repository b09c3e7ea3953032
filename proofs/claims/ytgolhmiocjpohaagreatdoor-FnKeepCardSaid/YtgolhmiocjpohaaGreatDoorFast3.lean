/- The small functions of the library's fast road to floats, walked: log2Pow10 (185), bool2 (188), unmin (189), round (191). No condition beyond those on the numbers. The library's unrounded scaling, walked: uscale (187). No condition beyond those on the numbers and on the block. The library's unrounded scaling by its contract, and prescale (186). No condition beyond those on the numbers and on the block. -/
import Derived.Test.YtgolhmiocjpohaaGreatDoorFo1
import Derived.Test.YtgolhmiocjpohaaGreatDoorUc1
import Derived.Test.YtgolhmiocjpohaaGreatDoorFl3
set_option linter.unusedVariables false
set_option linter.unusedSimpArgs false
namespace Go.Proofs.YtgolhmiocjpohaaGreatDoor
open Go.RowKit Go.PlainAid

theorem fast_lp (p : Int) (w : World) (h1 : -1000 ≤ p) (h2 : p ≤ 1000) : Calls Tryz.prog 185 #[.int .i64 p] w fun e w' => e = .returned (.int .i64 (lpOf p)) ∧ w = w' := by
 unfold lpOf
 go_enter Tryz.func185, Tryz.ntmps185
 go_wp2
 go_ret
 exact ⟨rfl, rfl⟩

theorem fast_bool2 (b : Bool) (w : World) : Calls Tryz.prog 188 #[.bool b] w fun e w' => e = .returned (.int .i64 (if b then 1 else 0)) ∧ w = w' := by
 cases b with
 | true =>
  go_enter Tryz.func188, Tryz.ntmps188
  go_wp2
  go_ret
  exact ⟨rfl, rfl⟩
 | false =>
  go_enter Tryz.func188, Tryz.ntmps188
  go_wp2
  go_ret
  exact ⟨rfl, rfl⟩

theorem fast_unmin (w : World) : Calls Tryz.prog 189 #[.int .u64 9007199254740992] w fun e w' => e = .returned (.int .u64 36028797018963966) ∧ w = w' := by
 go_enter Tryz.func189, Tryz.ntmps189
 go_wp2
 go_ret
 exact ⟨rfl, rfl⟩

theorem fast_round (u : Nat) (w : World) (h : u ≤ 9223372036854775807) : Calls Tryz.prog 191 #[.int .u64 (u : Int)] w fun e w' => e = .returned (.int .u64 (rnd4 u : Nat)) ∧ w = w' := by
 unfold rnd4
 have hb := bits_mask_u64 (u / 4) 1 2 rfl (by omega) (by omega)
 have e1 : ((2 : Nat) : Int) - 1 = 1 := rfl
 have e2 : ((u / 4 : Nat) : Int) = (u : Int) / 4 := by omega
 rw [e1, e2] at hb
 clear e1 e2
 obtain ⟨r, hr⟩ : ∃ r, r = u / 4 % 2 := ⟨_, rfl⟩
 rw [← hr] at hb ⊢
 have hr1 : r ≤ 1 := by omega
 clear hr
 go_enter Tryz.func191, Tryz.ntmps191
 go_wp2
 go_ret
 refine ⟨congrArg (fun x => Ending.returned (.int .u64 x)) ?_, rfl⟩
 omega

end Go.Proofs.YtgolhmiocjpohaaGreatDoor

namespace Go.Proofs.YtgolhmiocjpohaaGreatDoor
open Go.RowKit Go.PlainAid

theorem mul64_same (x y h m : Nat) (hx : x < 2 ^ 64) (hy : y < 2 ^ 64) (h1 : x * y / 2 ^ 64 = h) (h2 : x * y % 2 ^ 64 = m) (w : World) :
  Calls Tryz.prog 198 #[.int .u64 x, .int .u64 y] w fun e w' => e = .returned (.tuple #[.int .u64 (h : Int), .int .u64 (m : Int)]) ∧ w = w' := by
 refine (Tryz.bits_Mul64 x y (by omega) (by omega) w).mono fun _ _ ⟨a, b⟩ => ⟨?_, b.symm⟩
 rw [a, ← h1, ← h2]

theorem b2_true (w : World) : Calls Tryz.prog 162 #[.bool true] w fun e w' => e = .returned (.int .u64 1) ∧ w' = w := std_bool2 true w
theorem b2_false (w : World) : Calls Tryz.prog 162 #[.bool false] w fun e w' => e = .returned (.int .u64 0) ∧ w' = w := std_bool2 false w

theorem bits_63 (s : Nat) (hs : s ≤ 63) : bits .and .i64 (s : Int) 63 = (s : Int) := by
 have := bits_mask .i64 63 (by decide) (fun n h1 h2 => by rw [IntKind.wrap_i64]; omega) 6 (by omega) (s : Int) (by omega) (by omega)
 rw [show (2 : Int) ^ 6 - 1 = 63 by decide, show (2 : Int) ^ 6 = 64 by decide] at this
 omega

/-- uscale where the upper part has a bit below. -/
theorem uscale_one (x hi s b H mid T W : Nat) (w : World) (hx : x < 2 ^ 64) (hhi : hi < 2 ^ 64) (hs : s ≤ 63) (hH : x * hi / 2 ^ 64 = H) (hmid : x * hi % 2 ^ 64 = mid) (hT : H / 2 ^ s = T) (hW : T * 2 ^ s = W) (hne : W ≠ H) (hHl : H < 2 ^ 64)
  (c0 : w.cell? ⟨b, 0, none⟩ = some (.int .u64 hi)) (c2 : w.cell? ⟨b, 2, none⟩ = some (.int .i64 s)) :
  Calls Tryz.prog 187 #[.int .u64 x, .pointer (some ⟨b, 0, none⟩)] w fun e w' => e = .returned (.int .u64 ((T ||| 1 : Nat) : Int)) ∧ w = w' := by
 have hm1 := Lib.hid (mul64_same x hi H mid hx hhi hH hmid)
 have h63 := bits_63 s hs
 have hTH : T ≤ H := by rw [← hT]; exact Nat.div_le_self _ _
 have hWH : W ≤ H := by rw [← hW, ← hT]; exact Nat.div_mul_le_self _ _
 have eT : (H : Int) / 2 ^ s = (T : Int) := by rw [← hT]; simp
 have eW : IntKind.u64.wrap ((T : Int) * 2 ^ s) = (W : Int) := by
  rw [show (T : Int) * 2 ^ s = ((T * 2 ^ s : Nat) : Int) by simp, hW]
  exact wrap_u64 _ (by omega)
 have eN : ((W : Int) != (H : Int)) = true := by simp; omega
 have eO := bits_or_u64 T 1 (by omega) (by omega)
 rw [show ((1 : Nat) : Int) = 1 from rfl] at eO
 clear hH hmid hT hW hne hHl hTH hWH
 go_enter Tryz.func187, Tryz.ntmps187
 go_wp2_with (first
  | (go_at_call 198; (with_reducible refine (hm1.out _).mono ?_); rintro e w1 ⟨rfl, rfl⟩))
 go_ret
 exact ⟨rfl, rfl⟩

set_option maxRecDepth 100000 in
/-- uscale where it has none. -/
theorem uscale_two (x hi lo s b H mid mid2 T W L δ U K : Nat) (w : World) (hx : x < 2 ^ 64) (hhi : hi < 2 ^ 64) (hlo : lo < 2 ^ 64) (hs : s ≤ 63) (hH : x * hi / 2 ^ 64 = H) (hmid : x * hi % 2 ^ 64 = mid)
  (hmid2 : x * lo / 2 ^ 64 = mid2) (hlow : x * lo % 2 ^ 64 = L) (hT : H / 2 ^ s = T) (hW : T * 2 ^ s = H) (hHl : H < 2 ^ 64) (hm1l : mid < 2 ^ 64) (hm2l : mid2 < 2 ^ 64) (hU : H = U + (if mid < mid2 then 1 else 0)) (hd : (mid + 2 ^ 64 - mid2) % 2 ^ 64 = δ) (hK : U / 2 ^ s = K)
  (c0 : w.cell? ⟨b, 0, none⟩ = some (.int .u64 hi)) (c1 : w.cell? ⟨b, 1, none⟩ = some (.int .u64 lo)) (c2 : w.cell? ⟨b, 2, none⟩ = some (.int .i64 s)) :
  Calls Tryz.prog 187 #[.int .u64 x, .pointer (some ⟨b, 0, none⟩)] w fun e w' => e = .returned (.int .u64 ((K ||| (if 1 < δ then 1 else 0) : Nat) : Int)) ∧ ∃ n, w' = w.drewN n := by
 have hm1 := Lib.hid (mul64_same x hi H mid hx hhi hH hmid)
 have hm2 := Lib.hid (mul64_same x lo mid2 L hx hlo hmid2 hlow)
 have h63 := bits_63 s hs
 have hTH : T ≤ H := by rw [← hT]; exact Nat.div_le_self _ _
 have hUH : U ≤ H := by omega
 have hKU : K ≤ U := by rw [← hK]; exact Nat.div_le_self _ _
 have eT : (H : Int) / 2 ^ s = (T : Int) := by rw [← hT]; simp
 have eW : IntKind.u64.wrap ((T : Int) * 2 ^ s) = (H : Int) := by
  rw [show (T : Int) * 2 ^ s = ((T * 2 ^ s : Nat) : Int) by simp, hW]
  exact wrap_u64 _ (by omega)
 have eN : ((H : Int) != (H : Int)) = false := by simp
 have eK : (U : Int) / 2 ^ s = (K : Int) := by rw [← hK]; simp
 have eD : IntKind.u64.wrap ((mid : Int) - (mid2 : Int)) = (δ : Int) := by
  unfold IntKind.wrap
  simp [IntKind.signed, IntKind.bits]
  omega
 have eO1 := bits_or_u64 K 1 (by omega) (by omega)
 rw [show ((1 : Nat) : Int) = 1 from rfl] at eO1
 have eO0 := bits_or_u64 K 0 (by omega) (by omega)
 rw [show ((0 : Nat) : Int) = 0 from rfl] at eO0
 have hcs : (decide (mid < mid2) = true ∧ IntKind.u64.wrap ((H : Int) - 1) = (U : Int)) ∨ (decide (mid < mid2) = false ∧ IntKind.u64.wrap (H : Int) = (U : Int)) := by
  by_cases h : mid < mid2
  ·rw [if_pos h] at hU
   refine Or.inl ⟨decide_eq_true h, ?_⟩
   rw [show (H : Int) - 1 = (U : Int) by omega]
   exact wrap_u64 _ (by omega)
  ·rw [if_neg h] at hU
   refine Or.inr ⟨decide_eq_false h, ?_⟩
   rw [show (H : Int) = (U : Int) by omega]
   exact wrap_u64 _ (by omega)
 have hcd : (decide ((1 : Int) < (δ : Int)) = true ∧ (if 1 < δ then 1 else 0) = 1) ∨ (decide ((1 : Int) < (δ : Int)) = false ∧ (if 1 < δ then 1 else 0) = 0) := by
  by_cases h : 1 < δ
  ·exact Or.inl ⟨decide_eq_true (by omega), if_pos h⟩
  ·exact Or.inr ⟨decide_eq_false (by omega), if_neg h⟩
 clear hH hmid hmid2 hlow hT hW hHl hTH hKU hUH hU hd hK hm1l hm2l
 rcases hcs with ⟨k1, k2⟩ | ⟨k1, k2⟩ <;> rcases hcd with ⟨k3, k4⟩ | ⟨k3, k4⟩
 all_goals
  rw [k4]
  clear k4
  go_enter Tryz.func187, Tryz.ntmps187
  go_wp2_with (first
   | (go_at_call 198; (with_reducible refine (hm1.out _).mono ?_); rintro e w1 ⟨rfl, rfl⟩)
   | (go_at_call 198; (with_reducible refine (hm2.out _).mono ?_); rintro e w1 ⟨rfl, rfl⟩)
   | (go_at_call 162; (with_reducible refine (b2_true _).mono ?_); rintro e w1 ⟨rfl, rfl⟩)
   | (go_at_call 162; (with_reducible refine (b2_false _).mono ?_); rintro e w1 ⟨rfl, rfl⟩))
  go_quiet ((first | (go_at_call 162; exact Calls.quiet_of_same (b2_true _)) | (go_at_call 162; exact Calls.quiet_of_same (b2_false _))))
  go_wp2
  go_ret
  exact ⟨by first | (rw [← eO1]; rfl) | (rw [Nat.or_zero]; rfl), nq, rfl⟩

end Go.Proofs.YtgolhmiocjpohaaGreatDoor

namespace Go.Proofs.YtgolhmiocjpohaaGreatDoor
open Go.RowKit Go.PlainAid

theorem uscale_is (i hi lo x s b : Nat) (w : World) (hr : RowIs i hi lo) (hx1 : 2 ^ 63 ≤ x) (hx2 : x < 2 ^ 64) (hs1 : 8 ≤ s) (hs2 : s ≤ 63)
  (c0 : w.cell? ⟨b, 0, none⟩ = some (.int .u64 hi)) (c1 : w.cell? ⟨b, 1, none⟩ = some (.int .u64 lo)) (c2 : w.cell? ⟨b, 2, none⟩ = some (.int .i64 s)) :
  Calls Tryz.prog 187 #[.int .u64 x, .pointer (some ⟨b, 0, none⟩)] w fun e w' => e = .returned (.int .u64 (unr (x * tenN i) (tenD i * 2 ^ (128 + s)) : Nat)) ∧ ∃ n, w' = w.drewN n := by
 have hHl : x * hi / 2 ^ 64 < 2 ^ 64 := by
  have := Nat.mul_lt_mul'' hx2 hr.h
  exact Nat.div_lt_of_lt_mul (by omega)
 obtain ⟨H, hH⟩ : ∃ H, x * hi / 2 ^ 64 = H := ⟨_, rfl⟩
 obtain ⟨m1, hm1⟩ : ∃ m, x * hi % 2 ^ 64 = m := ⟨_, rfl⟩
 obtain ⟨m2, hm2⟩ : ∃ m, x * lo / 2 ^ 64 = m := ⟨_, rfl⟩
 rw [hH] at hHl
 by_cases hz : H % 2 ^ s = 0
 ·have hS := scaled_of hr hx1 hx2
  have a1 := hS.mid
  have a2 := hS.mid2
  rw [hm1] at a1
  rw [hm2] at a2
  have e := uscale_none hr hx1 hx2 hs1 hH.symm hm1.symm hm2.symm hz
  rw [e]
  have hW : H / 2 ^ s * 2 ^ s = H := by
   have := Nat.div_add_mod H (2 ^ s)
   rw [Nat.mul_comm] at this
   omega
  have hpos : m1 < m2 → 0 < H := by
   intro _
   have ht := hr.top
   have h1 : 2 ^ 63 * 2 ^ 63 ≤ x * hi := Nat.mul_le_mul hx1 ht
   have : 0 < x * hi / 2 ^ 64 := Nat.div_pos (by omega) (by decide)
   omega
  have hc := uscale_two x hi lo s b H m1 m2 (H / 2 ^ s) H _ ((m1 + 2 ^ 64 - m2) % 2 ^ 64) (H - if m1 < m2 then 1 else 0) _ w hx2 hr.h hr.l hs2 hH hm1 hm2 rfl rfl hW hHl a1 (by omega) (by split <;> omega) rfl rfl c0 c1 c2
  refine hc.mono ?_
  rintro e w' ⟨rfl, hw⟩
  refine ⟨?_, hw⟩
  split
  ·rename_i hlt
   rw [if_pos (show 1 < (m1 + 2 ^ 64 - m2) % 2 ^ 64 by omega)]
  ·rename_i hge
   rw [show (m1 + 2 ^ 64 - m2) % 2 ^ 64 = m1 - m2 by omega, Nat.sub_zero]
 ·have e := uscale_bits hr hx1 hx2 hH.symm hz
  rw [e]
  have hW : H / 2 ^ s * 2 ^ s ≠ H := by
   have := Nat.div_add_mod H (2 ^ s)
   rw [Nat.mul_comm] at this
   omega
  refine (uscale_one x hi s b H m1 _ _ w hx2 hr.h hs2 hH hm1 rfl rfl hW hHl c0 c2).mono ?_
  rintro e w' ⟨rfl, rfl⟩
  exact ⟨rfl, 0, rfl⟩

/-- What the walks read of the table of powers of ten. -/
def TabAt (w : World) : Prop := ∀ i, i < 696 → w.cell? ⟨15, i * 2, none⟩ = some (.int .u64 (tabHi i)) ∧ w.cell? ⟨15, i * 2 + 1, none⟩ = some (.int .u64 (tabLo i))

theorem row3 {w : World} {b T : Nat} {x y z : Value} (h : w.heap[b]? = some (.cells #[x, y, z] T (0, 0))) :
  (w.cell? ⟨b, 0, none⟩ = some x ∧ w.cell? ⟨b, 1, none⟩ = some y ∧ w.cell? ⟨b, 2, none⟩ = some z) ∧ (w.frozen? ⟨b, 0, none⟩ = false ∧ w.frozen? ⟨b, 1, none⟩ = false ∧ w.frozen? ⟨b, 2, none⟩ = false) :=
 ⟨⟨by rw [cell_of_row w b 0 _ _ _ h]; rfl, by rw [cell_of_row w b 1 _ _ _ h]; rfl, by rw [cell_of_row w b 2 _ _ _ h]; rfl⟩, frozen_of_row w b 0 _ _ h, frozen_of_row w b 1 _ _ h, frozen_of_row w b 2 _ _ h⟩

theorem row3_set {w : World} {b T : Nat} {x y z : Value} (h : w.heap[b]? = some (.cells #[x, y, z] T (0, 0))) (u0 u1 u2 : Value) :
  (((w.setCell ⟨b, 0, none⟩ u0).setCell ⟨b, 1, none⟩ u1).setCell ⟨b, 2, none⟩ u2).heap[b]? = some (.cells #[u0, u1, u2] T (0, 0)) := by
 simp [World.setCell, Array.getElem?_modify, h]

theorem prescale_is (e p lp s : Int) (i b base : Nat) (w : World) (hT : TabAt w) (hp : p + 348 = i) (hi : i < 696) (x0 x1 x2 : Value) (hb : 15 < b) (hbase : base ≤ b)
  (hblk : w.heap[b]? = some (.cells #[x0, x1, x2] 276 (0, 0))) (he1 : -100000 ≤ e) (he2 : e ≤ 100000) (hl1 : -100000 ≤ lp) (hl2 : lp ≤ 100000) (hs : s = -(e + lp + 3)) :
  Calls Tryz.prog 186 #[.pointer (some ⟨b, 0, none⟩), .int .i64 e, .int .i64 p, .int .i64 lp] w fun e' w' => e' = .returned (.tuple #[]) ∧
   w'.heap[b]? = some (.cells #[.int .u64 (tabHi i), .int .u64 (tabLo i), .int .i64 s] 276 (0, 0)) ∧ Below base w w' := by
 obtain ⟨t0, t1⟩ := hT i hi
 obtain ⟨⟨c0, c1, c2⟩, f0, f1, f2⟩ := row3 hblk
 have HB := Lib.hid hblk
 have hp1 : -348 ≤ p := by omega
 have hp2 : p ≤ 347 := by omega
 have e1 : p - -348 = (i : Int) := by omega
 have hs1 : -300000 ≤ s := by omega
 have hs2 : s ≤ 300000 := by omega
 have HS := Lib.hid hs
 have HBB := Lib.hid hbase
 clear hT hblk hs hbase hp
 go_enter Tryz.func186, Tryz.ntmps186
 go_wp2
 go_end0
 exact ⟨rfl, by rw [row3_set HB.out, HS.out], (((Below.refl _ _).setCell (p := ⟨b, 0, none⟩) HBB.out _).setCell (p := ⟨b, 1, none⟩) HBB.out _).setCell (p := ⟨b, 2, none⟩) HBB.out _⟩

end Go.Proofs.YtgolhmiocjpohaaGreatDoor
