/- Rows: the package's less is a strict weak order; two sorted orders of the same rows stand alike place by place. Plain. -/
import Derived.Test.YtgolhmiocjpohaaGreatDoorPlain2
import Derived.Test.YtgolhmiocjpohaaGreatDoorImpl6
set_option linter.unusedVariables false
set_option linter.unusedSimpArgs false
namespace Go.Proofs.YtgolhmiocjpohaaGreatDoor
open Go.Sort

theorem lex_bool (p1 p2 q1 q2 z : Bool) (e : p1 = (!(p2 && !p1) && !(q2 && !q1))) : (if p1 = true then z else p2) = ((p2 && !p1) || (!(p2 && !p1) && !(q2 && !q1) && z)) := by
  revert e
  cases p1 <;> cases p2 <;> cases q1 <;> cases q2 <;> cases z <;> simp

section
variable {low : ByteArray → ByteArray} {num : ByteArray → Option Nat} {D : Rule → ByteArray → Prop}

/-- What the rules ask of a row. -/
def InRow (D : Rule → ByteArray → Prop) (ks : List Rule) (row : List ByteArray) : Prop := ∀ r ∈ ks, D r (cellOf row r.number)

theorem rowLess_swo : ∀ ks : List Rule, (∀ r ∈ ks, Good (D r) (fun a b => (bef low num a b r.mode r.fold).1) (fun a b => (bef low num a b r.mode r.fold).2)) →
    SWOn (InRow D ks) (rowLess low num false ks)
  | [], _ => SWOn.none
  | [r], hg => by
    have h := (hg r (by simp)).all
    refine ((h.pull (D := InRow D [r]) (fun row => cellOf row r.number) fun row hr => hr r (by simp))).congr fun a b _ _ => ?_
    unfold rowLess
    unfold rowLess
    simp
  | r :: r' :: ks, hg => by
    have h := hg r (by simp)
    have k := rowLess_swo (r' :: ks) (fun x hx => hg x (by simp at hx ⊢; right; exact hx))
    have h1 := h.strict.pull (D := InRow D (r :: r' :: ks)) (fun row => cellOf row r.number) fun row hr => hr r (by simp)
    have k1 := k.mono (D' := InRow D (r :: r' :: ks)) fun row hr x hx => hr x (by simp at hx ⊢; right; exact hx)
    refine (h1.lex k1).congr fun a b ha hb => ?_
    have e := h.alike (cellOf a r.number) (cellOf b r.number) (ha r (by simp)) (hb r (by simp))
    have key : ∀ last, rowLess low num last (r' :: ks) a b = rowLess low num false (r' :: ks) a b := fun last => by
      unfold rowLess; rfl
    conv => lhs; unfold rowLess
    simp only
    rw [key]
    exact lex_bool _ _ _ _ _ e

/-- The reference's 'ahead', over the rules that were kept. -/
def aheadK (low : ByteArray → ByteArray) (num : ByteArray → Option Nat) : List Rule → List ByteArray → List ByteArray → Bool
  | [], _, _ => false
  | r :: ks, a, b =>
    let p := bef low num (cellOf a r.number) (cellOf b r.number) r.mode r.fold
    if p.1 then aheadK low num ks a b else p.2

theorem rowAhead_keep (columns : Int) (rs : List Rule) (a b : List ByteArray) : rowAhead low num columns rs a b = aheadK low num (keepR columns rs) a b := by
  induction rs with
  | nil => rfl
  | cons r rs ih =>
    by_cases h : r.number < 1 ∨ r.number > columns
    · have hk : keepR columns (r :: rs) = keepR columns rs := by
        unfold keepR
        rw [List.filter_cons_of_neg]
        simp; omega
      unfold rowAhead
      rw [if_pos h, hk, ih]
    · have hk : keepR columns (r :: rs) = r :: keepR columns rs := by
        unfold keepR
        rw [List.filter_cons_of_pos]
        simp; omega
      unfold rowAhead
      rw [if_neg h, hk, ih]
      rfl

theorem ahead_less : ∀ (ks : List Rule) (a b : List ByteArray), rowLess low num false ks a b = false → aheadK low num ks a b = false
  | [], _, _, _ => rfl
  | [r], a, b, h => by
    unfold rowLess at h
    unfold rowLess at h
    unfold aheadK
    unfold aheadK
    simp only at h ⊢
    split
    · rfl
    · simpa using h
  | r :: r' :: ks, a, b, h => by
    have ih := ahead_less (r' :: ks) a b
    have key : ∀ last, rowLess low num last (r' :: ks) a b = rowLess low num false (r' :: ks) a b := fun last => by
      unfold rowLess; rfl
    unfold rowLess at h
    simp only at h
    rw [key] at h
    unfold aheadK
    simp only
    split
    · rename_i e
      rw [if_pos e] at h
      exact ih h
    · rename_i e
      rw [if_neg e] at h
      exact h
end

/-- The less on places is a strict weak order on all places. -/
theorem ltI_swo {low : ByteArray → ByteArray} {num : ByteArray → Option Nat} {ks : List Rule} {rows : List (List ByteArray)} {P : List ByteArray → Prop} (h : SWOn P (rowLess low num false ks)) (hr : ∀ x, x < rows.length → P (rowAt rows x)) :
    SWO (ltI low num ks rows) := by
  refine ⟨fun x => ?_, fun x y z h1 h2 => ?_, fun x y z h1 h2 => ?_⟩
  · unfold ltI
    split
    · exact h.irrefl _ (hr x ‹_›)
    · rfl
  · unfold ltI at *
    by_cases hx : x < rows.length <;> by_cases hy : y < rows.length <;> by_cases hz : z < rows.length <;> simp only [hx, hy, hz, if_true, if_false] at h1 h2 ⊢
    · exact h.trans _ _ _ (hr x hx) (hr y hy) (hr z hz) h1 h2
    all_goals simp_all
  · unfold ltI at *
    by_cases hx : x < rows.length <;> by_cases hy : y < rows.length <;> by_cases hz : z < rows.length <;> simp only [hx, hy, hz, if_true, if_false] at h1 h2 ⊢
    · exact h.ntrans _ _ _ (hr x hx) (hr y hy) (hr z hz) h1 h2
    all_goals simp_all

/-- Two sorted lists of the same elements: nowhere does the one stand below the other. -/
theorem sorted_alike {X : Type} {P : X → Prop} {R : X → X → Bool} (h : SWOn P R) {L M : List X} (hL : ∀ x ∈ L, P x) (hp : M.Perm L)
    (sL : ∀ i j (hi : i < L.length) (hj : j < L.length), i < j → R L[j] L[i] = false) (sM : ∀ i j (hi : i < M.length) (hj : j < M.length), i < j → R M[j] M[i] = false)
    (i : Nat) (hi : i < L.length) (hi' : i < M.length) : R L[i] M[i] = false := by
  have hM : ∀ x ∈ M, P x := fun x hx => hL x (hp.mem_iff.1 hx)
  have pL : ∀ k (hk : k < L.length), P L[k] := fun k hk => hL _ (List.getElem_mem hk)
  have pM : ∀ k (hk : k < M.length), P M[k] := fun k hk => hM _ (List.getElem_mem hk)
  have hlen := hp.length_eq
  cases e : R L[i] M[i] with
  | false => rfl
  | true =>
    exfalso
    have c1 : M.countP (fun x => R L[i] x) ≥ M.length - i := by
      have hd : (M.drop i).countP (fun x => R L[i] x) = (M.drop i).length := by
        rw [List.countP_eq_length]
        intro x hx
        obtain ⟨k, hk, rfl⟩ := List.mem_iff_getElem.1 hx
        simp only [List.getElem_drop]
        have hk' : i + k < M.length := by simp at hk; omega
        by_cases k0 : k = 0
        · subst k0; simpa using e
        · cases e2 : R L[i] M[i + k] with
          | true => rfl
          | false =>
            have := h.ntrans _ _ _ (pL i hi) (pM (i + k) hk') (pM i hi') e2 (sM i (i + k) hi' hk' (by omega))
            rw [e] at this; cases this
      have : M.countP (fun x => R L[i] x) = (M.take i).countP (fun x => R L[i] x) + (M.drop i).countP (fun x => R L[i] x) := by
        rw [← List.countP_append, List.take_append_drop]
      rw [this, hd]
      simp
    have c2 : L.countP (fun x => R L[i] x) ≤ L.length - (i + 1) := by
      have ht : (L.take (i + 1)).countP (fun x => R L[i] x) = 0 := by
        rw [List.countP_eq_zero]
        intro x hx
        obtain ⟨k, hk, rfl⟩ := List.mem_iff_getElem.1 hx
        simp only [List.getElem_take]
        have hk' : k < i + 1 := by simp at hk; omega
        by_cases k0 : k = i
        · subst k0; simp [h.irrefl _ (pL k hi)]
        · simp [sL k i (by omega) hi (by omega)]
      have : L.countP (fun x => R L[i] x) = (L.take (i + 1)).countP (fun x => R L[i] x) + (L.drop (i + 1)).countP (fun x => R L[i] x) := by
        rw [← List.countP_append, List.take_append_drop]
      rw [this, ht]
      have := List.countP_le_length (p := fun x => R L[i] x) (l := L.drop (i + 1))
      simp at this ⊢
      omega
    rw [hp.countP_eq] at c1
    omega

end Go.Proofs.YtgolhmiocjpohaaGreatDoor
