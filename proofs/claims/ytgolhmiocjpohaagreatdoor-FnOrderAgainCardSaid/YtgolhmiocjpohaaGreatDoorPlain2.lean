/- Strict weak orders on a domain: how they are built. Plain. The rule's comparison of two cells is a strict weak order, with its ties; so is the rules' comparison of rows. Plain. -/
import Derived.Test.YtgolhmiocjpohaaGreatDoorPlain1
import Derived.Sort.Statements
import Derived.Sort.Walk0
namespace Go.Proofs.YtgolhmiocjpohaaGreatDoor
open Go.Sort

/-- A strict weak order on a domain. -/
structure SWOn {X : Type} (D : X → Prop) (R : X → X → Bool) : Prop where
  irrefl : ∀ x, D x → R x x = false
  trans : ∀ x y z, D x → D y → D z → R x y = true → R y z = true → R x z = true
  ntrans : ∀ x y z, D x → D y → D z → R x y = false → R y z = false → R x z = false

section
variable {X Y : Type} {D : X → Prop} {R S T : X → X → Bool}

theorem SWOn.asym (h : SWOn D R) {x y : X} (hx : D x) (hy : D y) (e : R x y = true) : R y x = false := by
  cases e2 : R y x with
  | false => rfl
  | true =>
    have := h.trans x y x hx hy hx e e2
    rw [h.irrefl x hx] at this
    cases this

theorem SWOn.congr (h : SWOn D R) (e : ∀ x y, D x → D y → S x y = R x y) : SWOn D S :=
  ⟨fun x hx => by rw [e x x hx hx]; exact h.irrefl x hx, fun x y z hx hy hz h1 h2 => by rw [e x z hx hz]; rw [e x y hx hy] at h1; rw [e y z hy hz] at h2; exact h.trans x y z hx hy hz h1 h2,
    fun x y z hx hy hz h1 h2 => by rw [e x z hx hz]; rw [e x y hx hy] at h1; rw [e y z hy hz] at h2; exact h.ntrans x y z hx hy hz h1 h2⟩

theorem SWOn.mono {D' : X → Prop} (h : SWOn D R) (e : ∀ x, D' x → D x) : SWOn D' R :=
  ⟨fun x hx => h.irrefl x (e x hx), fun x y z hx hy hz => h.trans x y z (e x hx) (e y hy) (e z hz), fun x y z hx hy hz => h.ntrans x y z (e x hx) (e y hy) (e z hz)⟩

/-- Pulled back along a function. -/
theorem SWOn.pull {D' : Y → Prop} {R' : Y → Y → Bool} (h : SWOn D' R') (f : X → Y) (e : ∀ x, D x → D' (f x)) : SWOn D (fun x y => R' (f x) (f y)) :=
  ⟨fun x hx => h.irrefl _ (e x hx), fun x y z hx hy hz => h.trans _ _ _ (e x hx) (e y hy) (e z hz), fun x y z hx hy hz => h.ntrans _ _ _ (e x hx) (e y hy) (e z hz)⟩

/-- Turned round. -/
theorem SWOn.flip (h : SWOn D R) : SWOn D (fun x y => R y x) :=
  ⟨h.irrefl, fun x y z hx hy hz h1 h2 => h.trans z y x hz hy hx h2 h1, fun x y z hx hy hz h1 h2 => h.ntrans z y x hz hy hx h2 h1⟩

theorem SWOn.none : SWOn D (fun _ _ => false) := ⟨fun _ _ => rfl, fun _ _ _ _ _ _ h _ => h, fun _ _ _ _ _ _ _ h => h⟩

/-- One order, then another one where the first finds them alike. -/
def lexB (R S : X → X → Bool) (x y : X) : Bool := R x y || (!R x y && !R y x && S x y)

theorem SWOn.lex (h : SWOn D R) (k : SWOn D S) : SWOn D (lexB R S) := by
  refine ⟨fun x hx => by simp [lexB, h.irrefl x hx, k.irrefl x hx], ?_, ?_⟩
  · intro x y z hx hy hz h1 h2
    have a1 := h.trans x y z hx hy hz
    have a2 := h.ntrans x y z hx hy hz
    have a3 := h.ntrans z y x hz hy hx
    have a4 := k.trans x y z hx hy hz
    have a5 := h.ntrans x z y hx hz hy
    have a6 := h.ntrans y x z hy hx hz
    have b1 := fun e => h.asym hx hy e
    have b2 := fun e => h.asym hy hz e
    have b3 := fun e => h.asym hx hz e
    unfold lexB at *
    cases e1 : R x y <;> cases e2 : R y z <;> cases e3 : R x z <;> cases e4 : R y x <;> cases e5 : R z y <;> cases e6 : R z x <;> cases e7 : S x y <;> cases e8 : S y z <;> cases e9 : S x z <;> simp_all
  · intro x y z hx hy hz h1 h2
    have a1 := h.trans x y z hx hy hz
    have a2 := h.ntrans x y z hx hy hz
    have a3 := h.ntrans z y x hz hy hx
    have a4 := k.ntrans x y z hx hy hz
    have a5 := h.ntrans x z y hx hz hy
    have a6 := h.ntrans y x z hy hx hz
    have a7 := h.trans z y x hz hy hx
    have a8 := h.ntrans z x y hz hx hy
    have a9 := h.ntrans y z x hy hz hx
    have b1 := fun e => h.asym hx hy e
    have b2 := fun e => h.asym hy hz e
    have b3 := fun e => h.asym hx hz e
    unfold lexB at *
    cases e1 : R x y <;> cases e2 : R y z <;> cases e3 : R x z <;> cases e4 : R y x <;> cases e5 : R z y <;> cases e6 : R z x <;> cases e7 : S x y <;> cases e8 : S y z <;> cases e9 : S x z <;> simp_all

/-- Two kinds: each with its own order, the one kind ahead of the other. -/
def kindB (c : X → Bool) (k : Bool) (R S : X → X → Bool) (x y : X) : Bool :=
  match c x, c y with
  | false, false => R x y
  | true, true => S x y
  | false, true => k
  | true, false => !k

theorem SWOn.kind (c : X → Bool) (k : Bool) (h : SWOn (fun x => D x ∧ c x = false) R) (g : SWOn (fun x => D x ∧ c x = true) S) : SWOn D (kindB c k R S) := by
  refine ⟨fun x hx => ?_, fun x y z hx hy hz h1 h2 => ?_, fun x y z hx hy hz h1 h2 => ?_⟩
  · unfold kindB
    cases e : c x
    · exact h.irrefl x ⟨hx, e⟩
    · exact g.irrefl x ⟨hx, e⟩
  · unfold kindB at *
    cases e1 : c x <;> cases e2 : c y <;> cases e3 : c z <;> simp only [e1, e2, e3] at h1 h2 ⊢
    · exact h.trans x y z ⟨hx, e1⟩ ⟨hy, e2⟩ ⟨hz, e3⟩ h1 h2
    · exact h2
    · cases k <;> simp_all
    · exact h1
    · exact h1
    · cases k <;> simp_all
    · exact h2
    · exact g.trans x y z ⟨hx, e1⟩ ⟨hy, e2⟩ ⟨hz, e3⟩ h1 h2
  · unfold kindB at *
    cases e1 : c x <;> cases e2 : c y <;> cases e3 : c z <;> simp only [e1, e2, e3] at h1 h2 ⊢
    · exact h.ntrans x y z ⟨hx, e1⟩ ⟨hy, e2⟩ ⟨hz, e3⟩ h1 h2
    · exact h2
    · cases k <;> simp_all
    · exact h1
    · exact h1
    · cases k <;> simp_all
    · exact h2
    · exact g.ntrans x y z ⟨hx, e1⟩ ⟨hy, e2⟩ ⟨hz, e3⟩ h1 h2
end

/-- Ints. -/
theorem SWOn.int : SWOn (fun _ : Int => True) (fun x y => decide (x < y)) :=
  ⟨fun x _ => by simp, fun x y z _ _ _ h1 h2 => by simp at *; omega, fun x y z _ _ _ h1 h2 => by simp at *; omega⟩

/-- Texts by their bytes: a total order. -/
theorem SWOn.bytes : SWOn (fun _ : ByteArray => True) sLt := by
  have e : ∀ x y, sLt x y = decide (x.toList < y.toList) := fun x y => Go.Proofs.bytesLess_eq _ _
  refine ⟨fun x _ => ?_, fun x y z _ _ _ h1 h2 => ?_, fun x y z _ _ _ h1 h2 => ?_⟩
  · rw [e]; simp
  · rw [e] at *; simp only [decide_eq_true_eq] at *; exact List.lt_trans h1 h2
  · rw [e] at *
    simp only [decide_eq_false_iff_not, List.not_lt] at *
    exact List.le_trans h2 h1

theorem sLt_total {x y : ByteArray} (h1 : sLt x y = false) (h2 : sLt y x = false) : sEq x y = true := by
  have e : ∀ x y, sLt x y = decide (x.toList < y.toList) := fun x y => Go.Proofs.bytesLess_eq _ _
  rw [e] at *
  simp only [decide_eq_false_iff_not, List.not_lt] at *
  unfold sEq
  rw [beq_iff_eq]
  exact List.le_antisymm h2 h1

theorem sLt_ne {x y : ByteArray} (h : sEq x y = true) : sLt x y = false := by
  unfold sEq at h
  rw [beq_iff_eq] at h
  have e : ∀ x y, sLt x y = decide (x.toList < y.toList) := fun x y => Go.Proofs.bytesLess_eq _ _
  rw [e, h]
  simp

theorem sGt_eq (x y : ByteArray) : sGt x y = sLt y x := by
  unfold sGt
  cases e1 : sLt x y
  · cases e2 : sLt y x
    · have := sLt_total e1 e2
      unfold sLt at e1; unfold sEq at this
      rw [e1, this]; rfl
    · have : sEq x y = false := by
        cases e3 : sEq x y
        · rfl
        · have h3 : sEq y x = true := by unfold sEq at *; rw [beq_iff_eq] at *; exact e3.symm
          rw [sLt_ne h3] at e2; cases e2
      unfold sLt at e1; unfold sEq at this
      rw [e1, this]; rfl
  · have h := SWOn.bytes.asym (x := x) (y := y) trivial trivial e1
    rw [h]
    unfold sLt at e1
    rw [e1]; rfl

end Go.Proofs.YtgolhmiocjpohaaGreatDoor

namespace Go.Proofs.YtgolhmiocjpohaaGreatDoor
open Go.Sort

/-- A comparison that tells 'alike' and 'ahead': both are strict weak orders, 'alike' is where neither is strictly ahead. -/
structure Good {X : Type} (D : X → Prop) (E L : X → X → Bool) : Prop where
  all : SWOn D L
  strict : SWOn D (fun a b => L a b && !E a b)
  alike : ∀ a b, D a → D b → E a b = (!(L a b && !E a b) && !(L b a && !E b a))

section
variable {X : Type} {D : X → Prop} {E L E' L' : X → X → Bool}

theorem Good.congr (h : Good D E L) (he : ∀ a b, D a → D b → E' a b = E a b) (hl : ∀ a b, D a → D b → L' a b = L a b) : Good D E' L' :=
  ⟨h.all.congr hl, h.strict.congr fun x y hx hy => by rw [he x y hx hy, hl x y hx hy], fun a b ha hb => by rw [he a b ha hb, hl a b ha hb, he b a hb ha, hl b a hb ha]; exact h.alike a b ha hb⟩

/-- From a strict weak order R (alike: neither), with a tie-break T within the alike. -/
theorem Good.of {R T : X → X → Bool} (h : SWOn D R) (k : SWOn D T) : Good D (fun a b => !R a b && !R b a) (lexB R T) := by
  have hs : ∀ a b, D a → D b → (lexB R T a b && !(!R a b && !R b a)) = R a b := fun a b ha hb => by
    have := h.asym ha hb
    unfold lexB
    cases e1 : R a b <;> cases e2 : R b a <;> cases e3 : T a b <;> simp_all
  refine ⟨h.lex k, h.congr hs, fun a b ha hb => ?_⟩
  rw [hs a b ha hb, hs b a hb ha]

theorem Good.kind (c : X → Bool) (k : Bool) {E1 L1 E2 L2 : X → X → Bool} (h : Good (fun x => D x ∧ c x = false) E1 L1) (g : Good (fun x => D x ∧ c x = true) E2 L2) :
    Good D (fun a b => if c a = c b then (if c a then E2 a b else E1 a b) else false) (kindB c k L1 L2) := by
  refine ⟨SWOn.kind c k h.all g.all, (SWOn.kind c k h.strict g.strict).congr fun a b ha hb => ?_, fun a b ha hb => ?_⟩
  · unfold kindB
    cases e1 : c a <;> cases e2 : c b <;> simp
  · have h1 := fun e1 e2 => h.alike a b ⟨ha, e1⟩ ⟨hb, e2⟩
    have h2 := fun e1 e2 => g.alike a b ⟨ha, e1⟩ ⟨hb, e2⟩
    unfold kindB
    cases e1 : c a <;> cases e2 : c b <;> simp only [e1, e2] at h1 h2 ⊢
    · simpa using h1 trivial trivial
    · cases k <;> simp
    · cases k <;> simp
    · simpa using h2 trivial trivial
end

theorem sEq_iff (a b : ByteArray) : sEq a b = true ↔ a = b := by
  unfold sEq
  rw [beq_iff_eq, ByteArray.toList_eq, ByteArray.toList_eq]
  constructor
  · intro h
    have : a.data = b.data := Array.toList_inj.1 h
    cases a; cases b; simp_all
  · rintro rfl; rfl

theorem sEq_lt (a b : ByteArray) : sEq a b = (!sLt a b && !sLt b a) := by
  cases e : sEq a b
  · cases e1 : sLt a b <;> cases e2 : sLt b a <;> simp
    have := sLt_total e1 e2
    rw [e] at this; cases this
  · have e' : sEq b a = true := by rw [sEq_iff] at *; exact e.symm
    rw [sLt_ne e, sLt_ne e']; rfl

/-- A text's order, by the direction. -/
def dirB {X : Type} (f : Bool) (R : X → X → Bool) (a b : X) : Bool := if f then R b a else R a b

theorem SWOn.dir {X : Type} {D : X → Prop} {R : X → X → Bool} (h : SWOn D R) (f : Bool) : SWOn D (dirB f R) := by
  cases f
  · exact h
  · exact h.flip

/-- Texts, by a rule. -/
theorem good_texts (low : ByteArray → ByteArray) (f fold : Bool) (D : ByteArray → Prop) :
    Good D (fun a b => if sEq a b then true else (befTexts low a b f fold).1) (fun a b => if sEq a b then false else (befTexts low a b f fold).2) := by
  cases fold
  · refine (Good.of (D := D) (R := dirB f sLt) (T := fun _ _ => false) ((SWOn.bytes.mono fun _ _ => trivial).dir f) SWOn.none).congr (fun a b _ _ => ?_) (fun a b _ _ => ?_)
    · have h1 := sEq_lt a b
      cases f <;> cases e : sEq a b <;> cases e1 : sLt a b <;> cases e2 : sLt b a <;> simp_all [befTexts, dirB]
    · have h1 := sEq_lt a b
      cases f <;> cases e : sEq a b <;> simp_all [befTexts, dirB, lexB, sGt_eq]
  · refine (Good.of (D := D) (R := fun a b => dirB f sLt (low a) (low b)) (T := dirB f sLt) (((SWOn.bytes.mono (D' := fun _ => True) fun _ _ => trivial).dir f).pull low fun _ _ => trivial) ((SWOn.bytes.mono fun _ _ => trivial).dir f)).congr (fun a b _ _ => ?_) (fun a b _ _ => ?_)
    · have h1 := sEq_lt (low a) (low b)
      cases e : sEq a b
      · cases f <;> simp_all [befTexts, dirB, Bool.and_comm]
      · have hab := (sEq_iff a b).1 e
        subst hab
        have h2 := sEq_lt (low a) (low a)
        have h3 : sLt (low a) (low a) = false := SWOn.bytes.irrefl _ trivial
        cases f <;> simp [dirB, h3]
    · have h1 := sEq_lt (low a) (low b)
      cases e : sEq a b
      · cases f <;> cases e1 : sLt (low a) (low b) <;> cases e2 : sLt (low b) (low a) <;> simp_all [befTexts, dirB, lexB, sGt_eq]
      · have hab := (sEq_iff a b).1 e
        subst hab
        have h3 : sLt (low a) (low a) = false := SWOn.bytes.irrefl _ trivial
        have h4 : sLt a a = false := SWOn.bytes.irrefl _ trivial
        cases f <;> simp [dirB, lexB, h3, h4]

/-- What the numbers of a domain are worth. -/
structure NumVal (D : ByteArray → Prop) (num : ByteArray → Option Nat) (val : ByteArray → Int) : Prop where
  lt : ∀ a b x y, D a → D b → num a = some x → num b = some y → fLt x y = decide (val a < val b)
  gt : ∀ a b x y, D a → D b → num a = some x → num b = some y → fGt x y = decide (val b < val a)
  eq : ∀ a b x y, D a → D b → num a = some x → num b = some y → fEq x y = decide (val a = val b)

/-- Numbers, by a direction. -/
theorem good_nums {D : ByteArray → Prop} {num : ByteArray → Option Nat} {val : ByteArray → Int} (hv : NumVal D num val) (f : Bool) (hs : ∀ s, D s → (num s).isSome = true) :
    Good D (fun a b => if sEq a b then true else (numPair f (num a) (num b)).1) (fun a b => if sEq a b then false else (numPair f (num a) (num b)).2) := by
  refine (Good.of (D := D) (R := fun a b => dirB f (fun x y => decide (x < y)) (val a) (val b)) (T := fun _ _ => false) ((SWOn.int.dir f).pull val fun _ _ => trivial) SWOn.none).congr (fun a b ha hb => ?_) (fun a b ha hb => ?_)
  · obtain ⟨x, hx⟩ := Option.isSome_iff_exists.1 (hs a ha)
    obtain ⟨y, hy⟩ := Option.isSome_iff_exists.1 (hs b hb)
    have h1 := hv.lt a b x y ha hb hx hy
    have h2 := hv.gt a b x y ha hb hx hy
    have h3 := hv.eq a b x y ha hb hx hy
    rw [hx, hy]
    cases e : sEq a b
    · simp only [numPair, befNums, h1, h2, h3, dirB]
      by_cases q : val a = val b
      · cases f <;> simp [q]
      · cases f <;> simp [q] <;> omega
    · have hab := (sEq_iff a b).1 e
      subst hab
      cases f <;> simp [dirB]
  · obtain ⟨x, hx⟩ := Option.isSome_iff_exists.1 (hs a ha)
    obtain ⟨y, hy⟩ := Option.isSome_iff_exists.1 (hs b hb)
    have h1 := hv.lt a b x y ha hb hx hy
    have h2 := hv.gt a b x y ha hb hx hy
    have h3 := hv.eq a b x y ha hb hx hy
    rw [hx, hy]
    cases e : sEq a b
    · simp only [numPair, befNums, h1, h2, h3, dirB, lexB]
      by_cases q : val a = val b
      · cases f <;> simp [q]
      · cases f <;> simp [q]
    · have hab := (sEq_iff a b).1 e
      subst hab
      cases f <;> simp [dirB, lexB]

/-- A rule's comparison of two cells. -/
theorem good_bef {D : ByteArray → Prop} (low : ByteArray → ByteArray) {num : ByteArray → Option Nat} {val : ByteArray → Int} (hv : NumVal D num val) (m : Int) (fold : Bool) (hs : m = 2 ∨ m = 6 → ∀ s, D s → (num s).isSome = true) :
    Good D (fun a b => (bef low num a b m fold).1) (fun a b => (bef low num a b m fold).2) := by
  by_cases h0 : m = 0 ∨ m = 4
  · refine (good_texts low (fallsT m) fold D).congr (fun a b _ _ => ?_) (fun a b _ _ => ?_) <;>
      (have : (m == 0 || m == 4) = true := by rcases h0 with rfl | rfl <;> rfl
       unfold bef
       cases e : sEq a b <;> simp [this])
  · have h0' : (m == 0 || m == 4) = false := by simp; omega
    by_cases h2 : m = 2 ∨ m = 6
    · refine (good_nums hv (fallsN m) (hs h2)).congr (fun a b _ _ => ?_) (fun a b _ _ => ?_) <;>
        (have : (m == 2 || m == 6) = true := by rcases h2 with rfl | rfl <;> rfl
         unfold bef
         cases e : sEq a b <;> simp [this, h0'])
    · have h2' : (m == 2 || m == 6) = false := by simp; omega
      have hT := good_texts low (fallsT m) fold (fun s => D s ∧ (num s).isSome = false)
      have hN := good_nums (D := fun s => D s ∧ (num s).isSome = true) (num := num) (val := val) ⟨fun a b x y ha hb => hv.lt a b x y ha.1 hb.1, fun a b x y ha hb => hv.gt a b x y ha.1 hb.1, fun a b x y ha hb => hv.eq a b x y ha.1 hb.1⟩ (fallsN m) (fun s h => h.2)
      refine (Good.kind (fun s => (num s).isSome) (m == 1 || m == 5) hT hN).congr (fun a b _ _ => ?_) (fun a b _ _ => ?_)
      · unfold bef
        rw [h0', h2']
        cases e : sEq a b
        · cases ea : num a <;> cases eb : num b <;> simp [mixPair, numPair]
        · have hab := (sEq_iff a b).1 e
          subst hab
          cases ea : num a <;> simp
      · unfold bef kindB
        rw [h0', h2']
        dsimp only
        cases e : sEq a b
        · cases ea : num a <;> cases eb : num b <;> simp [mixPair, numPair]
        · have hab := (sEq_iff a b).1 e
          subst hab
          cases ea : num a <;> simp

end Go.Proofs.YtgolhmiocjpohaaGreatDoor
