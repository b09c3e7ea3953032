/- The value of a text's digits, and the mantissa that is kept of them. Plain. No condition. -/
import Derived.Test.YtgolhmiocjpohaaGreatDoorFl3
import Derived.Test.YtgolhmiocjpohaaGreatDoorTx2
import Derived.Test.YtgolhmiocjpohaaGreatDoorSl7
set_option linter.unusedVariables false
set_option linter.unusedSimpArgs false
namespace Go.Proofs.YtgolhmiocjpohaaGreatDoor

theorem pre_takeN (ds : List Nat) (n : Nat) : ∀ i, i ≤ n → pre (ds.take n) i = pre ds i := by
 intro i
 induction i with
 | zero => intro _; rfl
 | succ i ih =>
  intro h
  show pre (ds.take n) i * 10 + dAt (ds.take n) i = pre ds i * 10 + dAt ds i
  rw [ih (by omega), dAt_take, if_pos (by omega)]

theorem mant_pre (ds : List Nat) : mantOf false ds = pre ds (min ds.length 19) := by
 show wnat 10 (ds.take 19) = _
 rw [wnat_dval]
 unfold dval
 rw [List.length_take, Nat.min_comm, pre_takeN _ _ _ (by omega)]

theorem trunc_zeros {ds : List Nat} (h : truncOf false ds = false) : ∀ i, 19 ≤ i → dAt ds i = 0 := by
 intro i hi
 by_cases hl : i < ds.length
 ·have hm : ds[i] ∈ ds.drop 19 := by
   have : (ds.drop 19)[i - 19]? = some ds[i] := by
    rw [List.getElem?_drop, show 19 + (i - 19) = i by omega, List.getElem?_eq_getElem hl]
   exact List.mem_of_getElem? this
  have h1 := List.any_eq_false.1 (show ((ds.drop 19).any (· != 0)) = false from h) _ hm
  unfold dAt
  rw [List.getD_eq_getElem?_getD, List.getElem?_eq_getElem hl]
  simpa using h1
 ·exact dAt_beyond (by omega)

/-- Nothing is cut: the mantissa tells the value. -/
theorem mant_exact {ds : List Nat} (h : truncOf false ds = false) (dp p : Int) (hp : p = dp - (min ds.length 19 : Nat)) : Same ds dp (mantOf false ds * 10 ^ p.toNat) (10 ^ (-p).toNat) := by
 have hz := pre_zeros (ds := ds) (m := min ds.length 19) (ds.length - min ds.length 19) (fun i h1 h2 => trunc_zeros h i (by omega))
 rw [show min ds.length 19 + (ds.length - min ds.length 19) = ds.length by omega, ← mant_pre] at hz
 refine Same.of p.toNat ((-p).toNat + (ds.length - min ds.length 19)) (by omega) ?_
 show pre ds ds.length * 10 ^ p.toNat * 10 ^ (-p).toNat = _
 rw [hz, Nat.pow_add]
 ac_rfl

/-- Something may be cut: the value lies from the mantissa on and below the next one. -/
theorem mant_between {ds : List Nat} (hd : Digits ds) {A B : Nat} (hB : 0 < B) (dp p : Int) (hp : p = dp - (min ds.length 19 : Nat)) (hs : Same ds dp A B) :
  mantOf false ds * 10 ^ p.toNat * B ≤ A * 10 ^ (-p).toNat ∧ A * 10 ^ (-p).toNat < (mantOf false ds + 1) * 10 ^ p.toNat * B := by
 obtain ⟨n, hn⟩ : ∃ n, n = min ds.length 19 := ⟨_, rfl⟩
 have hnl : n ≤ ds.length := by omega
 have h0 := hs p.toNat ((-p).toNat + (ds.length - n)) (by omega)
 have h1 := pre_le_dval ds hnl
 have h2 := dval_lt_pre hd hnl
 rw [mant_pre, ← hn]
 rw [Nat.pow_add] at h0
 have hT := ten_pos (ds.length - n)
 have hU := ten_pos p.toNat
 generalize pre ds n = m at *
 generalize dval ds = D at *
 generalize 10 ^ (ds.length - n) = T at *
 generalize 10 ^ p.toNat = U at *
 generalize 10 ^ (-p).toNat = V at *
 constructor
 ·have h3 : m * T * (U * B) ≤ D * (U * B) := Nat.mul_le_mul_right _ h1
  have e1 : m * T * (U * B) = m * U * B * T := by ac_rfl
  have e2 : D * (U * B) = D * U * B := by ac_rfl
  have e3 : A * (V * T) = A * V * T := by ac_rfl
  rw [e1, e2, h0, e3] at h3
  exact Nat.le_of_mul_le_mul_right h3 hT
 ·have h3 : D * (U * B) < (m + 1) * T * (U * B) := Nat.mul_lt_mul_of_pos_right h2 (Nat.mul_pos hU hB)
  have e1 : (m + 1) * T * (U * B) = (m + 1) * U * B * T := by ac_rfl
  have e2 : D * (U * B) = D * U * B := by ac_rfl
  have e3 : A * (V * T) = A * V * T := by ac_rfl
  rw [e1, e2, h0, e3] at h3
  exact Nat.lt_of_mul_lt_mul_right h3

end Go.Proofs.YtgolhmiocjpohaaGreatDoor
