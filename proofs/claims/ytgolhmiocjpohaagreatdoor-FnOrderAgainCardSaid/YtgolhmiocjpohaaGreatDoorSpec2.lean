/- The reference's comparison of two cells, spec.Before, computes 'bef' (printed by gen_before.py): a theorem for each way that the two numbers come out. No condition beyond the callees' contracts. -/
import Derived.Test.YtgolhmiocjpohaaGreatDoorSpec1
set_option linter.unusedVariables false
set_option linter.unusedSimpArgs false
namespace Go.Proofs.YtgolhmiocjpohaaGreatDoor
open Go.RowKit

theorem before_same {low : ByteArray → ByteArray} {num : ByteArray → Option Nat} (a b : ByteArray) (m : Int) (f : Bool) (w : World) (he : sEq a b = true) :
    Calls Tryz.prog 35 #[.string a, .string b, .int .i64 m, .bool f] w (PairIs (bef low num a b m f) w) := by
  have e : Hid (bef low num a b m f = (true, false)) := by show _ = _; simp only [bef, he]; rfl
  have he2 : (a.toList == b.toList) = true := he
  clear he
  go_enter Tryz.func35, Tryz.ntmps35
  go_wp2_with fail
  go_ret2
  exact ⟨by rw [e.out]; rfl, Below.refl _ _⟩


set_option maxHeartbeats 3200000 in
set_option maxRecDepth 100000 in
theorem before_some_some {Dom : ByteArray → Prop} {low : ByteArray → ByteArray} {num : ByteArray → Option Nat} (hlow : LowSaid Dom low) (hl : StdSaid Dom num) (a b : ByteArray) (ha : Dom a) (hb : Dom b) (x : Nat) (y : Nat) (hna : num a = some x) (hnb : num b = some y)
    (m : Int) (hm : m = 0 ∨ m = 1 ∨ m = 2 ∨ m = 3 ∨ m = 4 ∨ m = 5 ∨ m = 6 ∨ m = 7) (f : Bool) (w : World) (hg : Glob w) (he : sEq a b = false) :
    Calls Tryz.prog 35 #[.string a, .string b, .int .i64 m, .bool f] w (PairIs (bef low num a b m f) w) := by
  have H1 := Lib.hid (fun w => number hl a ha w)
  have H2 := Lib.hid (fun w => number hl b hb w)
  have HT := Lib.hid (fun falls w => beforeTexts hlow a b ha hb falls f w)
  rw [hna] at H1
  rw [hnb] at H2
  have he2 : (a.toList == b.toList) = false := he
  have HG := Lib.hid hg
  clear hg ha hb hlow hl
  rcases hm with rfl | rfl | rfl | rfl | rfl | rfl | rfl | rfl
  · have E1 : bef low num a b 0 f = befTexts low a b false f := by simp [bef, he, hna, hnb, fallsT, fallsN, numPair, mixPair]
    rw [E1]
    clear E1 he hna hnb
    go_enter Tryz.func35, Tryz.ntmps35
    go_wp2_with fail
    refine (H1.out _ HG.out).mono ?_
    rintro e w1 ⟨rfl, hb1⟩
    have B1 := Lib.hid hb1
    have G1 := Lib.hid (HG.out.below hb1)
    clear hb1
    go_wp2_with fail
    refine (H2.out _ G1.out).mono ?_
    rintro e w2 ⟨rfl, hb2⟩
    have B2 := Lib.hid (B1.out.trans (hb2.mono B1.out.size))
    clear hb2
    go_wp2_with fail
    refine (HT.out false _).mono ?_
    rintro e w3 ⟨rfl, hb3⟩
    have B3 := Lib.hid (B2.out.trans (hb3.mono B2.out.size))
    clear hb3
    go_wp2_with fail
    go_ret2
    exact ⟨rfl, B3.out⟩
  · have E1 : bef low num a b 1 f = befNums x y false := by simp [bef, he, hna, hnb, fallsT, fallsN, numPair, mixPair]
    rw [E1]
    clear E1 he hna hnb
    go_enter Tryz.func35, Tryz.ntmps35
    go_wp2_with fail
    refine (H1.out _ HG.out).mono ?_
    rintro e w1 ⟨rfl, hb1⟩
    have B1 := Lib.hid hb1
    have G1 := Lib.hid (HG.out.below hb1)
    clear hb1
    go_wp2_with fail
    refine (H2.out _ G1.out).mono ?_
    rintro e w2 ⟨rfl, hb2⟩
    have B2 := Lib.hid (B1.out.trans (hb2.mono B1.out.size))
    clear hb2
    go_wp2_with fail
    refine (beforeNumbers x y false _).mono ?_
    rintro e w3 ⟨rfl, hb3⟩
    have B3 := Lib.hid (B2.out.trans (hb3.mono B2.out.size))
    clear hb3
    go_wp2_with fail
    go_ret2
    exact ⟨rfl, B3.out⟩
  · have E1 : bef low num a b 2 f = befNums x y false := by simp [bef, he, hna, hnb, fallsT, fallsN, numPair, mixPair]
    rw [E1]
    clear E1 he hna hnb
    go_enter Tryz.func35, Tryz.ntmps35
    go_wp2_with fail
    refine (H1.out _ HG.out).mono ?_
    rintro e w1 ⟨rfl, hb1⟩
    have B1 := Lib.hid hb1
    have G1 := Lib.hid (HG.out.below hb1)
    clear hb1
    go_wp2_with fail
    refine (H2.out _ G1.out).mono ?_
    rintro e w2 ⟨rfl, hb2⟩
    have B2 := Lib.hid (B1.out.trans (hb2.mono B1.out.size))
    clear hb2
    go_wp2_with fail
    refine (beforeNumbers x y false _).mono ?_
    rintro e w3 ⟨rfl, hb3⟩
    have B3 := Lib.hid (B2.out.trans (hb3.mono B2.out.size))
    clear hb3
    go_wp2_with fail
    go_ret2
    exact ⟨rfl, B3.out⟩
  · have E1 : bef low num a b 3 f = befNums x y false := by simp [bef, he, hna, hnb, fallsT, fallsN, numPair, mixPair]
    rw [E1]
    clear E1 he hna hnb
    go_enter Tryz.func35, Tryz.ntmps35
    go_wp2_with fail
    refine (H1.out _ HG.out).mono ?_
    rintro e w1 ⟨rfl, hb1⟩
    have B1 := Lib.hid hb1
    have G1 := Lib.hid (HG.out.below hb1)
    clear hb1
    go_wp2_with fail
    refine (H2.out _ G1.out).mono ?_
    rintro e w2 ⟨rfl, hb2⟩
    have B2 := Lib.hid (B1.out.trans (hb2.mono B1.out.size))
    clear hb2
    go_wp2_with fail
    refine (beforeNumbers x y false _).mono ?_
    rintro e w3 ⟨rfl, hb3⟩
    have B3 := Lib.hid (B2.out.trans (hb3.mono B2.out.size))
    clear hb3
    go_wp2_with fail
    go_ret2
    exact ⟨rfl, B3.out⟩
  · have E1 : bef low num a b 4 f = befTexts low a b true f := by simp [bef, he, hna, hnb, fallsT, fallsN, numPair, mixPair]
    rw [E1]
    clear E1 he hna hnb
    go_enter Tryz.func35, Tryz.ntmps35
    go_wp2_with fail
    refine (H1.out _ HG.out).mono ?_
    rintro e w1 ⟨rfl, hb1⟩
    have B1 := Lib.hid hb1
    have G1 := Lib.hid (HG.out.below hb1)
    clear hb1
    go_wp2_with fail
    refine (H2.out _ G1.out).mono ?_
    rintro e w2 ⟨rfl, hb2⟩
    have B2 := Lib.hid (B1.out.trans (hb2.mono B1.out.size))
    clear hb2
    go_wp2_with fail
    refine (HT.out true _).mono ?_
    rintro e w3 ⟨rfl, hb3⟩
    have B3 := Lib.hid (B2.out.trans (hb3.mono B2.out.size))
    clear hb3
    go_wp2_with fail
    go_ret2
    exact ⟨rfl, B3.out⟩
  · have E1 : bef low num a b 5 f = befNums x y true := by simp [bef, he, hna, hnb, fallsT, fallsN, numPair, mixPair]
    rw [E1]
    clear E1 he hna hnb
    go_enter Tryz.func35, Tryz.ntmps35
    go_wp2_with fail
    refine (H1.out _ HG.out).mono ?_
    rintro e w1 ⟨rfl, hb1⟩
    have B1 := Lib.hid hb1
    have G1 := Lib.hid (HG.out.below hb1)
    clear hb1
    go_wp2_with fail
    refine (H2.out _ G1.out).mono ?_
    rintro e w2 ⟨rfl, hb2⟩
    have B2 := Lib.hid (B1.out.trans (hb2.mono B1.out.size))
    clear hb2
    go_wp2_with fail
    refine (beforeNumbers x y true _).mono ?_
    rintro e w3 ⟨rfl, hb3⟩
    have B3 := Lib.hid (B2.out.trans (hb3.mono B2.out.size))
    clear hb3
    go_wp2_with fail
    go_ret2
    exact ⟨rfl, B3.out⟩
  · have E1 : bef low num a b 6 f = befNums x y true := by simp [bef, he, hna, hnb, fallsT, fallsN, numPair, mixPair]
    rw [E1]
    clear E1 he hna hnb
    go_enter Tryz.func35, Tryz.ntmps35
    go_wp2_with fail
    refine (H1.out _ HG.out).mono ?_
    rintro e w1 ⟨rfl, hb1⟩
    have B1 := Lib.hid hb1
    have G1 := Lib.hid (HG.out.below hb1)
    clear hb1
    go_wp2_with fail
    refine (H2.out _ G1.out).mono ?_
    rintro e w2 ⟨rfl, hb2⟩
    have B2 := Lib.hid (B1.out.trans (hb2.mono B1.out.size))
    clear hb2
    go_wp2_with fail
    refine (beforeNumbers x y true _).mono ?_
    rintro e w3 ⟨rfl, hb3⟩
    have B3 := Lib.hid (B2.out.trans (hb3.mono B2.out.size))
    clear hb3
    go_wp2_with fail
    go_ret2
    exact ⟨rfl, B3.out⟩
  · have E1 : bef low num a b 7 f = befNums x y true := by simp [bef, he, hna, hnb, fallsT, fallsN, numPair, mixPair]
    rw [E1]
    clear E1 he hna hnb
    go_enter Tryz.func35, Tryz.ntmps35
    go_wp2_with fail
    refine (H1.out _ HG.out).mono ?_
    rintro e w1 ⟨rfl, hb1⟩
    have B1 := Lib.hid hb1
    have G1 := Lib.hid (HG.out.below hb1)
    clear hb1
    go_wp2_with fail
    refine (H2.out _ G1.out).mono ?_
    rintro e w2 ⟨rfl, hb2⟩
    have B2 := Lib.hid (B1.out.trans (hb2.mono B1.out.size))
    clear hb2
    go_wp2_with fail
    refine (beforeNumbers x y true _).mono ?_
    rintro e w3 ⟨rfl, hb3⟩
    have B3 := Lib.hid (B2.out.trans (hb3.mono B2.out.size))
    clear hb3
    go_wp2_with fail
    go_ret2
    exact ⟨rfl, B3.out⟩


set_option maxHeartbeats 3200000 in
set_option maxRecDepth 100000 in
theorem before_some_none {Dom : ByteArray → Prop} {low : ByteArray → ByteArray} {num : ByteArray → Option Nat} (hlow : LowSaid Dom low) (hl : StdSaid Dom num) (a b : ByteArray) (ha : Dom a) (hb : Dom b) (x : Nat) (hna : num a = some x) (hnb : num b = none)
    (m : Int) (hm : m = 0 ∨ m = 1 ∨ m = 2 ∨ m = 3 ∨ m = 4 ∨ m = 5 ∨ m = 6 ∨ m = 7) (f : Bool) (w : World) (hg : Glob w) (he : sEq a b = false) :
    Calls Tryz.prog 35 #[.string a, .string b, .int .i64 m, .bool f] w (PairIs (bef low num a b m f) w) := by
  have H1 := Lib.hid (fun w => number hl a ha w)
  have H2 := Lib.hid (fun w => number hl b hb w)
  have HT := Lib.hid (fun falls w => beforeTexts hlow a b ha hb falls f w)
  rw [hna] at H1
  rw [hnb] at H2
  have he2 : (a.toList == b.toList) = false := he
  have HG := Lib.hid hg
  clear hg ha hb hlow hl
  rcases hm with rfl | rfl | rfl | rfl | rfl | rfl | rfl | rfl
  · have E1 : bef low num a b 0 f = befTexts low a b false f := by simp [bef, he, hna, hnb, fallsT, fallsN, numPair, mixPair]
    rw [E1]
    clear E1 he hna hnb
    go_enter Tryz.func35, Tryz.ntmps35
    go_wp2_with fail
    refine (H1.out _ HG.out).mono ?_
    rintro e w1 ⟨rfl, hb1⟩
    have B1 := Lib.hid hb1
    have G1 := Lib.hid (HG.out.below hb1)
    clear hb1
    go_wp2_with fail
    refine (H2.out _ G1.out).mono ?_
    intro e w2 hn
    obtain ⟨x2, rfl, hb2⟩ := OkIs.none hn
    clear hn
    have B2 := Lib.hid (B1.out.trans (hb2.mono B1.out.size))
    clear hb2
    go_wp2_with fail
    refine (HT.out false _).mono ?_
    rintro e w3 ⟨rfl, hb3⟩
    have B3 := Lib.hid (B2.out.trans (hb3.mono B2.out.size))
    clear hb3
    go_wp2_with fail
    go_ret2
    exact ⟨rfl, B3.out⟩
  · have E1 : bef low num a b 1 f = (false, false) := by simp [bef, he, hna, hnb, fallsT, fallsN, numPair, mixPair]
    rw [E1]
    clear E1 he hna hnb
    go_enter Tryz.func35, Tryz.ntmps35
    go_wp2_with fail
    refine (H1.out _ HG.out).mono ?_
    rintro e w1 ⟨rfl, hb1⟩
    have B1 := Lib.hid hb1
    have G1 := Lib.hid (HG.out.below hb1)
    clear hb1
    go_wp2_with fail
    refine (H2.out _ G1.out).mono ?_
    intro e w2 hn
    obtain ⟨x2, rfl, hb2⟩ := OkIs.none hn
    clear hn
    have B2 := Lib.hid (B1.out.trans (hb2.mono B1.out.size))
    clear hb2
    go_wp2_with fail
    go_ret2
    exact ⟨rfl, B2.out⟩
  · have E1 : bef low num a b 2 f = (false, false) := by simp [bef, he, hna, hnb, fallsT, fallsN, numPair, mixPair]
    rw [E1]
    clear E1 he hna hnb
    go_enter Tryz.func35, Tryz.ntmps35
    go_wp2_with fail
    refine (H1.out _ HG.out).mono ?_
    rintro e w1 ⟨rfl, hb1⟩
    have B1 := Lib.hid hb1
    have G1 := Lib.hid (HG.out.below hb1)
    clear hb1
    go_wp2_with fail
    refine (H2.out _ G1.out).mono ?_
    intro e w2 hn
    obtain ⟨x2, rfl, hb2⟩ := OkIs.none hn
    clear hn
    have B2 := Lib.hid (B1.out.trans (hb2.mono B1.out.size))
    clear hb2
    go_wp2_with fail
    go_ret2
    exact ⟨rfl, B2.out⟩
  · have E1 : bef low num a b 3 f = (false, true) := by simp [bef, he, hna, hnb, fallsT, fallsN, numPair, mixPair]
    rw [E1]
    clear E1 he hna hnb
    go_enter Tryz.func35, Tryz.ntmps35
    go_wp2_with fail
    refine (H1.out _ HG.out).mono ?_
    rintro e w1 ⟨rfl, hb1⟩
    have B1 := Lib.hid hb1
    have G1 := Lib.hid (HG.out.below hb1)
    clear hb1
    go_wp2_with fail
    refine (H2.out _ G1.out).mono ?_
    intro e w2 hn
    obtain ⟨x2, rfl, hb2⟩ := OkIs.none hn
    clear hn
    have B2 := Lib.hid (B1.out.trans (hb2.mono B1.out.size))
    clear hb2
    go_wp2_with fail
    go_ret2
    exact ⟨rfl, B2.out⟩
  · have E1 : bef low num a b 4 f = befTexts low a b true f := by simp [bef, he, hna, hnb, fallsT, fallsN, numPair, mixPair]
    rw [E1]
    clear E1 he hna hnb
    go_enter Tryz.func35, Tryz.ntmps35
    go_wp2_with fail
    refine (H1.out _ HG.out).mono ?_
    rintro e w1 ⟨rfl, hb1⟩
    have B1 := Lib.hid hb1
    have G1 := Lib.hid (HG.out.below hb1)
    clear hb1
    go_wp2_with fail
    refine (H2.out _ G1.out).mono ?_
    intro e w2 hn
    obtain ⟨x2, rfl, hb2⟩ := OkIs.none hn
    clear hn
    have B2 := Lib.hid (B1.out.trans (hb2.mono B1.out.size))
    clear hb2
    go_wp2_with fail
    refine (HT.out true _).mono ?_
    rintro e w3 ⟨rfl, hb3⟩
    have B3 := Lib.hid (B2.out.trans (hb3.mono B2.out.size))
    clear hb3
    go_wp2_with fail
    go_ret2
    exact ⟨rfl, B3.out⟩
  · have E1 : bef low num a b 5 f = (false, false) := by simp [bef, he, hna, hnb, fallsT, fallsN, numPair, mixPair]
    rw [E1]
    clear E1 he hna hnb
    go_enter Tryz.func35, Tryz.ntmps35
    go_wp2_with fail
    refine (H1.out _ HG.out).mono ?_
    rintro e w1 ⟨rfl, hb1⟩
    have B1 := Lib.hid hb1
    have G1 := Lib.hid (HG.out.below hb1)
    clear hb1
    go_wp2_with fail
    refine (H2.out _ G1.out).mono ?_
    intro e w2 hn
    obtain ⟨x2, rfl, hb2⟩ := OkIs.none hn
    clear hn
    have B2 := Lib.hid (B1.out.trans (hb2.mono B1.out.size))
    clear hb2
    go_wp2_with fail
    go_ret2
    exact ⟨rfl, B2.out⟩
  · have E1 : bef low num a b 6 f = (false, false) := by simp [bef, he, hna, hnb, fallsT, fallsN, numPair, mixPair]
    rw [E1]
    clear E1 he hna hnb
    go_enter Tryz.func35, Tryz.ntmps35
    go_wp2_with fail
    refine (H1.out _ HG.out).mono ?_
    rintro e w1 ⟨rfl, hb1⟩
    have B1 := Lib.hid hb1
    have G1 := Lib.hid (HG.out.below hb1)
    clear hb1
    go_wp2_with fail
    refine (H2.out _ G1.out).mono ?_
    intro e w2 hn
    obtain ⟨x2, rfl, hb2⟩ := OkIs.none hn
    clear hn
    have B2 := Lib.hid (B1.out.trans (hb2.mono B1.out.size))
    clear hb2
    go_wp2_with fail
    go_ret2
    exact ⟨rfl, B2.out⟩
  · have E1 : bef low num a b 7 f = (false, true) := by simp [bef, he, hna, hnb, fallsT, fallsN, numPair, mixPair]
    rw [E1]
    clear E1 he hna hnb
    go_enter Tryz.func35, Tryz.ntmps35
    go_wp2_with fail
    refine (H1.out _ HG.out).mono ?_
    rintro e w1 ⟨rfl, hb1⟩
    have B1 := Lib.hid hb1
    have G1 := Lib.hid (HG.out.below hb1)
    clear hb1
    go_wp2_with fail
    refine (H2.out _ G1.out).mono ?_
    intro e w2 hn
    obtain ⟨x2, rfl, hb2⟩ := OkIs.none hn
    clear hn
    have B2 := Lib.hid (B1.out.trans (hb2.mono B1.out.size))
    clear hb2
    go_wp2_with fail
    go_ret2
    exact ⟨rfl, B2.out⟩


set_option maxHeartbeats 3200000 in
set_option maxRecDepth 100000 in
theorem before_none_some {Dom : ByteArray → Prop} {low : ByteArray → ByteArray} {num : ByteArray → Option Nat} (hlow : LowSaid Dom low) (hl : StdSaid Dom num) (a b : ByteArray) (ha : Dom a) (hb : Dom b) (y : Nat) (hna : num a = none) (hnb : num b = some y)
    (m : Int) (hm : m = 0 ∨ m = 1 ∨ m = 2 ∨ m = 3 ∨ m = 4 ∨ m = 5 ∨ m = 6 ∨ m = 7) (f : Bool) (w : World) (hg : Glob w) (he : sEq a b = false) :
    Calls Tryz.prog 35 #[.string a, .string b, .int .i64 m, .bool f] w (PairIs (bef low num a b m f) w) := by
  have H1 := Lib.hid (fun w => number hl a ha w)
  have H2 := Lib.hid (fun w => number hl b hb w)
  have HT := Lib.hid (fun falls w => beforeTexts hlow a b ha hb falls f w)
  rw [hna] at H1
  rw [hnb] at H2
  have he2 : (a.toList == b.toList) = false := he
  have HG := Lib.hid hg
  clear hg ha hb hlow hl
  rcases hm with rfl | rfl | rfl | rfl | rfl | rfl | rfl | rfl
  · have E1 : bef low num a b 0 f = befTexts low a b false f := by simp [bef, he, hna, hnb, fallsT, fallsN, numPair, mixPair]
    rw [E1]
    clear E1 he hna hnb
    go_enter Tryz.func35, Tryz.ntmps35
    go_wp2_with fail
    refine (H1.out _ HG.out).mono ?_
    intro e w1 hn
    obtain ⟨x1, rfl, hb1⟩ := OkIs.none hn
    clear hn
    have B1 := Lib.hid hb1
    have G1 := Lib.hid (HG.out.below hb1)
    clear hb1
    go_wp2_with fail
    refine (H2.out _ G1.out).mono ?_
    rintro e w2 ⟨rfl, hb2⟩
    have B2 := Lib.hid (B1.out.trans (hb2.mono B1.out.size))
    clear hb2
    go_wp2_with fail
    refine (HT.out false _).mono ?_
    rintro e w3 ⟨rfl, hb3⟩
    have B3 := Lib.hid (B2.out.trans (hb3.mono B2.out.size))
    clear hb3
    go_wp2_with fail
    go_ret2
    exact ⟨rfl, B3.out⟩
  · have E1 : bef low num a b 1 f = (false, true) := by simp [bef, he, hna, hnb, fallsT, fallsN, numPair, mixPair]
    rw [E1]
    clear E1 he hna hnb
    go_enter Tryz.func35, Tryz.ntmps35
    go_wp2_with fail
    refine (H1.out _ HG.out).mono ?_
    intro e w1 hn
    obtain ⟨x1, rfl, hb1⟩ := OkIs.none hn
    clear hn
    have B1 := Lib.hid hb1
    have G1 := Lib.hid (HG.out.below hb1)
    clear hb1
    go_wp2_with fail
    refine (H2.out _ G1.out).mono ?_
    rintro e w2 ⟨rfl, hb2⟩
    have B2 := Lib.hid (B1.out.trans (hb2.mono B1.out.size))
    clear hb2
    go_wp2_with fail
    go_ret2
    exact ⟨rfl, B2.out⟩
  · have E1 : bef low num a b 2 f = (false, false) := by simp [bef, he, hna, hnb, fallsT, fallsN, numPair, mixPair]
    rw [E1]
    clear E1 he hna hnb
    go_enter Tryz.func35, Tryz.ntmps35
    go_wp2_with fail
    refine (H1.out _ HG.out).mono ?_
    intro e w1 hn
    obtain ⟨x1, rfl, hb1⟩ := OkIs.none hn
    clear hn
    have B1 := Lib.hid hb1
    have G1 := Lib.hid (HG.out.below hb1)
    clear hb1
    go_wp2_with fail
    refine (H2.out _ G1.out).mono ?_
    rintro e w2 ⟨rfl, hb2⟩
    have B2 := Lib.hid (B1.out.trans (hb2.mono B1.out.size))
    clear hb2
    go_wp2_with fail
    go_ret2
    exact ⟨rfl, B2.out⟩
  · have E1 : bef low num a b 3 f = (false, false) := by simp [bef, he, hna, hnb, fallsT, fallsN, numPair, mixPair]
    rw [E1]
    clear E1 he hna hnb
    go_enter Tryz.func35, Tryz.ntmps35
    go_wp2_with fail
    refine (H1.out _ HG.out).mono ?_
    intro e w1 hn
    obtain ⟨x1, rfl, hb1⟩ := OkIs.none hn
    clear hn
    have B1 := Lib.hid hb1
    have G1 := Lib.hid (HG.out.below hb1)
    clear hb1
    go_wp2_with fail
    refine (H2.out _ G1.out).mono ?_
    rintro e w2 ⟨rfl, hb2⟩
    have B2 := Lib.hid (B1.out.trans (hb2.mono B1.out.size))
    clear hb2
    go_wp2_with fail
    go_ret2
    exact ⟨rfl, B2.out⟩
  · have E1 : bef low num a b 4 f = befTexts low a b true f := by simp [bef, he, hna, hnb, fallsT, fallsN, numPair, mixPair]
    rw [E1]
    clear E1 he hna hnb
    go_enter Tryz.func35, Tryz.ntmps35
    go_wp2_with fail
    refine (H1.out _ HG.out).mono ?_
    intro e w1 hn
    obtain ⟨x1, rfl, hb1⟩ := OkIs.none hn
    clear hn
    have B1 := Lib.hid hb1
    have G1 := Lib.hid (HG.out.below hb1)
    clear hb1
    go_wp2_with fail
    refine (H2.out _ G1.out).mono ?_
    rintro e w2 ⟨rfl, hb2⟩
    have B2 := Lib.hid (B1.out.trans (hb2.mono B1.out.size))
    clear hb2
    go_wp2_with fail
    refine (HT.out true _).mono ?_
    rintro e w3 ⟨rfl, hb3⟩
    have B3 := Lib.hid (B2.out.trans (hb3.mono B2.out.size))
    clear hb3
    go_wp2_with fail
    go_ret2
    exact ⟨rfl, B3.out⟩
  · have E1 : bef low num a b 5 f = (false, true) := by simp [bef, he, hna, hnb, fallsT, fallsN, numPair, mixPair]
    rw [E1]
    clear E1 he hna hnb
    go_enter Tryz.func35, Tryz.ntmps35
    go_wp2_with fail
    refine (H1.out _ HG.out).mono ?_
    intro e w1 hn
    obtain ⟨x1, rfl, hb1⟩ := OkIs.none hn
    clear hn
    have B1 := Lib.hid hb1
    have G1 := Lib.hid (HG.out.below hb1)
    clear hb1
    go_wp2_with fail
    refine (H2.out _ G1.out).mono ?_
    rintro e w2 ⟨rfl, hb2⟩
    have B2 := Lib.hid (B1.out.trans (hb2.mono B1.out.size))
    clear hb2
    go_wp2_with fail
    go_ret2
    exact ⟨rfl, B2.out⟩
  · have E1 : bef low num a b 6 f = (false, false) := by simp [bef, he, hna, hnb, fallsT, fallsN, numPair, mixPair]
    rw [E1]
    clear E1 he hna hnb
    go_enter Tryz.func35, Tryz.ntmps35
    go_wp2_with fail
    refine (H1.out _ HG.out).mono ?_
    intro e w1 hn
    obtain ⟨x1, rfl, hb1⟩ := OkIs.none hn
    clear hn
    have B1 := Lib.hid hb1
    have G1 := Lib.hid (HG.out.below hb1)
    clear hb1
    go_wp2_with fail
    refine (H2.out _ G1.out).mono ?_
    rintro e w2 ⟨rfl, hb2⟩
    have B2 := Lib.hid (B1.out.trans (hb2.mono B1.out.size))
    clear hb2
    go_wp2_with fail
    go_ret2
    exact ⟨rfl, B2.out⟩
  · have E1 : bef low num a b 7 f = (false, false) := by simp [bef, he, hna, hnb, fallsT, fallsN, numPair, mixPair]
    rw [E1]
    clear E1 he hna hnb
    go_enter Tryz.func35, Tryz.ntmps35
    go_wp2_with fail
    refine (H1.out _ HG.out).mono ?_
    intro e w1 hn
    obtain ⟨x1, rfl, hb1⟩ := OkIs.none hn
    clear hn
    have B1 := Lib.hid hb1
    have G1 := Lib.hid (HG.out.below hb1)
    clear hb1
    go_wp2_with fail
    refine (H2.out _ G1.out).mono ?_
    rintro e w2 ⟨rfl, hb2⟩
    have B2 := Lib.hid (B1.out.trans (hb2.mono B1.out.size))
    clear hb2
    go_wp2_with fail
    go_ret2
    exact ⟨rfl, B2.out⟩


set_option maxHeartbeats 3200000 in
set_option maxRecDepth 100000 in
theorem before_none_none {Dom : ByteArray → Prop} {low : ByteArray → ByteArray} {num : ByteArray → Option Nat} (hlow : LowSaid Dom low) (hl : StdSaid Dom num) (a b : ByteArray) (ha : Dom a) (hb : Dom b) (hna : num a = none) (hnb : num b = none)
    (m : Int) (hm : m = 0 ∨ m = 1 ∨ m = 2 ∨ m = 3 ∨ m = 4 ∨ m = 5 ∨ m = 6 ∨ m = 7) (f : Bool) (w : World) (hg : Glob w) (he : sEq a b = false) :
    Calls Tryz.prog 35 #[.string a, .string b, .int .i64 m, .bool f] w (PairIs (bef low num a b m f) w) := by
  have H1 := Lib.hid (fun w => number hl a ha w)
  have H2 := Lib.hid (fun w => number hl b hb w)
  have HT := Lib.hid (fun falls w => beforeTexts hlow a b ha hb falls f w)
  rw [hna] at H1
  rw [hnb] at H2
  have he2 : (a.toList == b.toList) = false := he
  have HG := Lib.hid hg
  clear hg ha hb hlow hl
  rcases hm with rfl | rfl | rfl | rfl | rfl | rfl | rfl | rfl
  · have E1 : bef low num a b 0 f = befTexts low a b false f := by simp [bef, he, hna, hnb, fallsT, fallsN, numPair, mixPair]
    rw [E1]
    clear E1 he hna hnb
    go_enter Tryz.func35, Tryz.ntmps35
    go_wp2_with fail
    refine (H1.out _ HG.out).mono ?_
    intro e w1 hn
    obtain ⟨x1, rfl, hb1⟩ := OkIs.none hn
    clear hn
    have B1 := Lib.hid hb1
    have G1 := Lib.hid (HG.out.below hb1)
    clear hb1
    go_wp2_with fail
    refine (H2.out _ G1.out).mono ?_
    intro e w2 hn
    obtain ⟨x2, rfl, hb2⟩ := OkIs.none hn
    clear hn
    have B2 := Lib.hid (B1.out.trans (hb2.mono B1.out.size))
    clear hb2
    go_wp2_with fail
    refine (HT.out false _).mono ?_
    rintro e w3 ⟨rfl, hb3⟩
    have B3 := Lib.hid (B2.out.trans (hb3.mono B2.out.size))
    clear hb3
    go_wp2_with fail
    go_ret2
    exact ⟨rfl, B3.out⟩
  · have E1 : bef low num a b 1 f = befTexts low a b false f := by simp [bef, he, hna, hnb, fallsT, fallsN, numPair, mixPair]
    rw [E1]
    clear E1 he hna hnb
    go_enter Tryz.func35, Tryz.ntmps35
    go_wp2_with fail
    refine (H1.out _ HG.out).mono ?_
    intro e w1 hn
    obtain ⟨x1, rfl, hb1⟩ := OkIs.none hn
    clear hn
    have B1 := Lib.hid hb1
    have G1 := Lib.hid (HG.out.below hb1)
    clear hb1
    go_wp2_with fail
    refine (H2.out _ G1.out).mono ?_
    intro e w2 hn
    obtain ⟨x2, rfl, hb2⟩ := OkIs.none hn
    clear hn
    have B2 := Lib.hid (B1.out.trans (hb2.mono B1.out.size))
    clear hb2
    go_wp2_with fail
    refine (HT.out false _).mono ?_
    rintro e w3 ⟨rfl, hb3⟩
    have B3 := Lib.hid (B2.out.trans (hb3.mono B2.out.size))
    clear hb3
    go_wp2_with fail
    go_ret2
    exact ⟨rfl, B3.out⟩
  · have E1 : bef low num a b 2 f = (false, false) := by simp [bef, he, hna, hnb, fallsT, fallsN, numPair, mixPair]
    rw [E1]
    clear E1 he hna hnb
    go_enter Tryz.func35, Tryz.ntmps35
    go_wp2_with fail
    refine (H1.out _ HG.out).mono ?_
    intro e w1 hn
    obtain ⟨x1, rfl, hb1⟩ := OkIs.none hn
    clear hn
    have B1 := Lib.hid hb1
    have G1 := Lib.hid (HG.out.below hb1)
    clear hb1
    go_wp2_with fail
    refine (H2.out _ G1.out).mono ?_
    intro e w2 hn
    obtain ⟨x2, rfl, hb2⟩ := OkIs.none hn
    clear hn
    have B2 := Lib.hid (B1.out.trans (hb2.mono B1.out.size))
    clear hb2
    go_wp2_with fail
    go_ret2
    exact ⟨rfl, B2.out⟩
  · have E1 : bef low num a b 3 f = befTexts low a b false f := by simp [bef, he, hna, hnb, fallsT, fallsN, numPair, mixPair]
    rw [E1]
    clear E1 he hna hnb
    go_enter Tryz.func35, Tryz.ntmps35
    go_wp2_with fail
    refine (H1.out _ HG.out).mono ?_
    intro e w1 hn
    obtain ⟨x1, rfl, hb1⟩ := OkIs.none hn
    clear hn
    have B1 := Lib.hid hb1
    have G1 := Lib.hid (HG.out.below hb1)
    clear hb1
    go_wp2_with fail
    refine (H2.out _ G1.out).mono ?_
    intro e w2 hn
    obtain ⟨x2, rfl, hb2⟩ := OkIs.none hn
    clear hn
    have B2 := Lib.hid (B1.out.trans (hb2.mono B1.out.size))
    clear hb2
    go_wp2_with fail
    refine (HT.out false _).mono ?_
    rintro e w3 ⟨rfl, hb3⟩
    have B3 := Lib.hid (B2.out.trans (hb3.mono B2.out.size))
    clear hb3
    go_wp2_with fail
    go_ret2
    exact ⟨rfl, B3.out⟩
  · have E1 : bef low num a b 4 f = befTexts low a b true f := by simp [bef, he, hna, hnb, fallsT, fallsN, numPair, mixPair]
    rw [E1]
    clear E1 he hna hnb
    go_enter Tryz.func35, Tryz.ntmps35
    go_wp2_with fail
    refine (H1.out _ HG.out).mono ?_
    intro e w1 hn
    obtain ⟨x1, rfl, hb1⟩ := OkIs.none hn
    clear hn
    have B1 := Lib.hid hb1
    have G1 := Lib.hid (HG.out.below hb1)
    clear hb1
    go_wp2_with fail
    refine (H2.out _ G1.out).mono ?_
    intro e w2 hn
    obtain ⟨x2, rfl, hb2⟩ := OkIs.none hn
    clear hn
    have B2 := Lib.hid (B1.out.trans (hb2.mono B1.out.size))
    clear hb2
    go_wp2_with fail
    refine (HT.out true _).mono ?_
    rintro e w3 ⟨rfl, hb3⟩
    have B3 := Lib.hid (B2.out.trans (hb3.mono B2.out.size))
    clear hb3
    go_wp2_with fail
    go_ret2
    exact ⟨rfl, B3.out⟩
  · have E1 : bef low num a b 5 f = befTexts low a b true f := by simp [bef, he, hna, hnb, fallsT, fallsN, numPair, mixPair]
    rw [E1]
    clear E1 he hna hnb
    go_enter Tryz.func35, Tryz.ntmps35
    go_wp2_with fail
    refine (H1.out _ HG.out).mono ?_
    intro e w1 hn
    obtain ⟨x1, rfl, hb1⟩ := OkIs.none hn
    clear hn
    have B1 := Lib.hid hb1
    have G1 := Lib.hid (HG.out.below hb1)
    clear hb1
    go_wp2_with fail
    refine (H2.out _ G1.out).mono ?_
    intro e w2 hn
    obtain ⟨x2, rfl, hb2⟩ := OkIs.none hn
    clear hn
    have B2 := Lib.hid (B1.out.trans (hb2.mono B1.out.size))
    clear hb2
    go_wp2_with fail
    refine (HT.out true _).mono ?_
    rintro e w3 ⟨rfl, hb3⟩
    have B3 := Lib.hid (B2.out.trans (hb3.mono B2.out.size))
    clear hb3
    go_wp2_with fail
    go_ret2
    exact ⟨rfl, B3.out⟩
  · have E1 : bef low num a b 6 f = (false, false) := by simp [bef, he, hna, hnb, fallsT, fallsN, numPair, mixPair]
    rw [E1]
    clear E1 he hna hnb
    go_enter Tryz.func35, Tryz.ntmps35
    go_wp2_with fail
    refine (H1.out _ HG.out).mono ?_
    intro e w1 hn
    obtain ⟨x1, rfl, hb1⟩ := OkIs.none hn
    clear hn
    have B1 := Lib.hid hb1
    have G1 := Lib.hid (HG.out.below hb1)
    clear hb1
    go_wp2_with fail
    refine (H2.out _ G1.out).mono ?_
    intro e w2 hn
    obtain ⟨x2, rfl, hb2⟩ := OkIs.none hn
    clear hn
    have B2 := Lib.hid (B1.out.trans (hb2.mono B1.out.size))
    clear hb2
    go_wp2_with fail
    go_ret2
    exact ⟨rfl, B2.out⟩
  · have E1 : bef low num a b 7 f = befTexts low a b true f := by simp [bef, he, hna, hnb, fallsT, fallsN, numPair, mixPair]
    rw [E1]
    clear E1 he hna hnb
    go_enter Tryz.func35, Tryz.ntmps35
    go_wp2_with fail
    refine (H1.out _ HG.out).mono ?_
    intro e w1 hn
    obtain ⟨x1, rfl, hb1⟩ := OkIs.none hn
    clear hn
    have B1 := Lib.hid hb1
    have G1 := Lib.hid (HG.out.below hb1)
    clear hb1
    go_wp2_with fail
    refine (H2.out _ G1.out).mono ?_
    intro e w2 hn
    obtain ⟨x2, rfl, hb2⟩ := OkIs.none hn
    clear hn
    have B2 := Lib.hid (B1.out.trans (hb2.mono B1.out.size))
    clear hb2
    go_wp2_with fail
    refine (HT.out true _).mono ?_
    rintro e w3 ⟨rfl, hb3⟩
    have B3 := Lib.hid (B2.out.trans (hb3.mono B2.out.size))
    clear hb3
    go_wp2_with fail
    go_ret2
    exact ⟨rfl, B3.out⟩


theorem before {Dom : ByteArray → Prop} {low : ByteArray → ByteArray} {num : ByteArray → Option Nat} (hlow : LowSaid Dom low) (hl : StdSaid Dom num) (a b : ByteArray) (ha : Dom a) (hb : Dom b)
    (m : Int) (h0 : 0 ≤ m) (h7 : m ≤ 7) (f : Bool) (w : World) (hg : Glob w) :
    Calls Tryz.prog 35 #[.string a, .string b, .int .i64 m, .bool f] w (PairIs (bef low num a b m f) w) := by
  have hm : m = 0 ∨ m = 1 ∨ m = 2 ∨ m = 3 ∨ m = 4 ∨ m = 5 ∨ m = 6 ∨ m = 7 := by omega
  cases he : sEq a b with
  | true => exact before_same a b m f w he
  | false =>
    cases hna : num a with
    | some x =>
      cases hnb : num b with
      | some y => exact before_some_some hlow hl a b ha hb x y hna hnb m hm f w hg he
      | none => exact before_some_none hlow hl a b ha hb x hna hnb m hm f w hg he
    | none =>
      cases hnb : num b with
      | some y => exact before_none_some hlow hl a b ha hb y hna hnb m hm f w hg he
      | none => exact before_none_none hlow hl a b ha hb hna hnb m hm f w hg he

end Go.Proofs.YtgolhmiocjpohaaGreatDoor
