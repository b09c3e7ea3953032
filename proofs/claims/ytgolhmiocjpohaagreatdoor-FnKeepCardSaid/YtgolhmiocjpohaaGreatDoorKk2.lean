/- Laws for the filtering in place (39). No condition. How the rows stand while they are filtered in place: plain. No condition. -/
import Derived.Test.YtgolhmiocjpohaaGreatDoorKi6
import Derived.Test.YtgolhmiocjpohaaGreatDoorPk0
import Derived.Test.YtgolhmiocjpohaaGreatDoorKs1
set_option linter.unusedVariables false
set_option linter.unusedSimpArgs false
namespace Go.Proofs.YtgolhmiocjpohaaGreatDoor
open Go.RowKit Go.PlainAid

/-- An append of one within the room that is there. -/
theorem wpList_append_in {w : World} {ops : Array Oper} {rest : List Oper} {o : Oper} {a : Act} {Q : Exit → Act → World → Prop} (hgd : o.guard = none) (s x : Operand)
  (ho : o.op = .call { callee := .builtin .append, args := #[s, x], argTypes := #[59, 59] }) (g j n : Nat) (cs : List Value) (hg : w.heap[g]? = some (.cells cs.toArray 74 (0, 0))) (hn : cs.length = n) (hj : j < n) (hs : a.eval s = .slice (some ⟨g, 0, none⟩) j n)
  (ad : Addr) (c : Nat) (v : Value) (hx : a.eval x = .slice (some ad) 1 c) (hnew : ∀ i u, [v][i]? = some u → w.cell? (ad.add i) = some u) (h1 : v.oneCell' = true)
  (hK : ∀ w', w'.heap[g]? = some (.cells (cs.set j v).toArray 74 (0, 0)) → Fr (fun k => k = g) w w' → wpList Tryz.prog ops Q rest (a.put o.dst (.slice (some ⟨g, 0, none⟩) (j + 1) n)) w') : wpList Tryz.prog ops Q (o :: rest) a w := by
 obtain ⟨i0, hi, hz0, hz1, hz2⟩ := info_parts info74
 refine wpList_plain hgd fun K hK' => ?_
 have hr := run_append_room (P := Tryz.prog) w 59 o.type 74 i0 Tryz.underlying59 hi g j n cs.toArray hg ad 1 c [v] (by rw [hz1]; rfl) hnew (by intro u hu; simp at hu; subst hu; exact h1) (by omega) (by rw [hz1]; simp; omega)
 unfold Oper.wp execOp
 simp only [ho, resolve, invoke, builtin, Sem.run_bind, Sem.run_pure, Result.andThen_ok, List.map_toArray, List.map_cons, List.map_nil, hs, hx, hr]
 have e : (cs.toArray.toList.take (j * i0.size) ++ [v] ++ cs.toArray.toList.drop (j * i0.size + [v].length)) = cs.set j v := by
  rw [hz1, Nat.mul_one]
  exact take_put cs j v (by omega)
 rw [e]
 refine hK' _ _ (hK _ (setRow_heap w g _ _ 74 _ hg) ⟨rfl, rfl, rfl, by simp, fun k hk hne => setRow_other w g k _ hne⟩)

theorem ifilts_of_own {w w' : World} {base c : Nat} {A : Option Addr} {fs : List FiltD} (ho : w.ownsRow base 100 6 (.slice A fs.length c) fs.length (filtAll fs)) : IFiltsAt w A fs := by
 by_cases h0 : fs = []
 ·exact Or.inl h0
 ·have hl := fun g (h : (Value.slice A fs.length c).ownBlock = some g) => ho.cells h
  rcases ho.2 with ⟨_, h2⟩ | ⟨g, cap, cur, h1, h2, hg, rest⟩
  ·exact absurd (List.eq_nil_of_length_eq_zero h2) h0
  ·cases h1
   have hc := hl g rfl
   have key : ∀ (l : List FiltD) (j k : Nat) (v : Value), j < l.length → (filtCells (fAt l j))[k]? = some v → (filtAll l)[j * 6 + k]? = some v := by
    intro l
    induction l with
    | nil => intro j k v h; simp at h
    | cons x l ih =>
     intro j k v hj hv
     have hx : (filtCells x).length = 6 := rfl
     cases j with
     | zero =>
      have hk : k < 6 := by
       have := (List.getElem?_eq_some_iff.1 hv).1
       exact this
      show (filtCells x ++ filtAll l)[0 * 6 + k]? = some v
      rw [Nat.zero_mul, Nat.zero_add, List.getElem?_append_left (by omega)]
      exact hv
     | succ j =>
      show (filtCells x ++ filtAll l)[(j + 1) * 6 + k]? = some v
      rw [List.getElem?_append_right (by omega), show (j + 1) * 6 + k - (filtCells x).length = j * 6 + k by omega]
      exact ih j k v (by simpa using hj) hv
   refine Or.inr ⟨g, 0, rfl, (Array.getElem?_eq_some_iff.1 hg).1, fun j hj => ?_⟩
   have at' : ∀ k v, (filtCells (fAt fs j))[k]? = some v → w.cell? ⟨g, 0 + j * 6 + k, none⟩ = some v := fun k v hv => by
    have := hc _ v (key fs j k v hj hv)
    rw [Go.WideShapes.add_plain, ← Nat.add_assoc] at this
    exact this
   exact ⟨at' 0 _ rfl, at' 1 _ rfl, at' 2 _ rfl, at' 3 _ rfl, at' 4 _ rfl, at' 5 _ rfl⟩

/-- What holds of a list's filters holds of those whose column is there. -/
theorem parsed_all {p : FiltD → Prop} (fs : List FiltD) (cols : Nat) (h : ∀ j, j < fs.length → p (fAt fs j)) : ∀ n, n ≤ fs.length → ∀ j, j < (parsedTo fs cols n).length → p (fAt (parsedTo fs cols n) j) ∧ 1 ≤ (fAt (parsedTo fs cols n) j).number ∧ (fAt (parsedTo fs cols n) j).number ≤ (cols : Int)
 | 0, _, j, hj => by simp [parsedTo] at hj
 | n + 1, hn, j, hj => by
  have ih := parsed_all fs cols h n (by omega)
  unfold parsedTo at hj ⊢
  by_cases hc : 1 ≤ (fAt fs n).number ∧ (fAt fs n).number ≤ (cols : Int)
  ·rw [if_pos hc] at hj ⊢
   by_cases hl : j < (parsedTo fs cols n).length
   ·rw [fAt_append hl]; exact ih j hl
   ·rw [List.length_append, List.length_singleton] at hj
    rw [show j = (parsedTo fs cols n).length by omega, fAt_last]
    exact ⟨h n (by omega), hc⟩
  ·rw [if_neg hc] at hj ⊢
   exact ih j hj

theorem cols_le (rows : List (List CellD)) (h : ∀ i, i < rows.length → (rwAt rows i).length ≤ 2147483647) : ∀ i, i ≤ rows.length → colsTo rows i ≤ 2147483647
 | 0, _ => by simp [colsTo]
 | i + 1, hi => by
  have := cols_le rows h i (by omega)
  have := h i (by omega)
  rw [cols_succ]
  omega

/-- The rows rebuilt, as far as i. -/
structure F22 (w : World) (tb n g i : Nat) (c a m f : Value) (vs : Nat → List Value) (cs : List Value) (wx : World) : Prop where
 tab : TbAt wx tb c a (.slice (some ⟨g, 0, none⟩) n n) m f
 blk : wx.heap[g]? = some (.cells cs.toArray 74 (0, 0))
 len : cs.length = n
 new : w.heap.size ≤ g
 rows : ∀ k, k < i → CopyIs wx (cs.getD k .nilIface) (vs k)
 fr : Fr (fun k => k = tb) w wx

theorem CopyIs.ne {w : World} {v : Value} {vals : List Value} {g : Nat} {cs : Array Value} (h : CopyIs w v vals) (hg : w.heap[g]? = some (.cells cs 74 (0, 0))) : ∃ r, v = .slice (some ⟨r, 0, none⟩) vals.length vals.length ∧ r ≠ g ∧ w.heap[r]? = some (.cells vals.toArray 20 (0, 0)) := by
 obtain ⟨r, h1, h2⟩ := h
 refine ⟨r, h1, fun e => ?_, h2⟩
 subst e
 rw [hg] at h2
 cases h2

theorem getD_set {cs : List Value} {i k : Nat} {v : Value} (hi : i < cs.length) : (cs.set i v).getD k .nilIface = if k = i then v else cs.getD k .nilIface := by
 rw [List.getD_eq_getElem?_getD, List.getD_eq_getElem?_getD, List.getElem?_set]
 by_cases h : i = k
 ·subst h; simp [hi]
 ·rw [if_neg h, if_neg (Ne.symm h)]

theorem F22.at_blk {w wx : World} {tb n g i : Nat} {c a m f : Value} {vs : Nat → List Value} {cs : List Value} (h : F22 w tb n g i c a m f vs cs wx) (k : Nat) (hk : k < n) : wx.cell? ⟨g, k, none⟩ = some (cs.getD k .nilIface) ∧ wx.frozen? ⟨g, k, none⟩ = false := by
 have hl := h.len
 refine ⟨?_, frozen_of_row wx g k _ _ h.blk⟩
 rw [cell_of_row wx g k _ _ _ h.blk, List.getD_eq_getElem?_getD, List.getElem?_eq_getElem (by omega)]
 simp [show k < cs.length by omega]

theorem F22.later {w wx w4 : World} {tb n g i : Nat} {c a m f : Value} {vs : Nat → List Value} {cs : List Value} (h : F22 w tb n g i c a m f vs cs wx) (hb : Below wx.heap.size wx w4) : F22 w tb n g i c a m f vs cs w4 :=
 ⟨h.tab.below hb, (hb.block g (Array.getElem?_eq_some_iff.1 h.blk).1).trans h.blk, h.len, h.new, fun k hk => (h.rows k hk).below hb, h.fr.then hb⟩

theorem F22.step {w wx : World} {tb n g i : Nat} {c a m f v : Value} {vs : Nat → List Value} {cs : List Value} (h : F22 w tb n g i c a m f vs cs wx) (hi : i < n) (htb : tb < w.heap.size) (hcp : CopyIs wx v (vs i)) : F22 w tb n g (i + 1) c a m f vs (cs.set i v) (wx.setCell ⟨g, i, none⟩ v) := by
 have hl := h.len
 have hnew := h.new
 have keep : ∀ {u : Value} {vals : List Value}, CopyIs wx u vals → CopyIs (wx.setCell ⟨g, i, none⟩ v) u vals := fun {u vals} hu => by
  obtain ⟨r, h1, h2, h3⟩ := hu.ne h.blk
  exact ⟨r, h1, by rw [set_other (Ne.symm h2)]; exact h3⟩
 refine ⟨?_, ?_, by simp [hl], hnew, fun k hk => ?_, h.fr.setNew g i v hnew⟩
 ·show (wx.setCell _ _).heap[tb]? = _
  rw [set_other (by omega)]
  exact h.tab
 ·rw [set_row2 h.blk]
  simp
 ·rw [getD_set (by omega)]
  by_cases hki : k = i
  ·subst hki
   rw [if_pos rfl]
   exact keep hcp
  ·rw [if_neg hki]
   exact keep (h.rows k (by omega))

end Go.Proofs.YtgolhmiocjpohaaGreatDoor

namespace Go.Proofs.YtgolhmiocjpohaaGreatDoor
open Go.RowKit Go.PlainAid

theorem F22.retab {w wx w' : World} {tb n g i : Nat} {c c' a m f : Value} {vs : Nat → List Value} {cs : List Value} (h : F22 w tb n g i c a m f vs cs wx) (ho : Only tb wx w') (ht : TbAt w' tb c' a (.slice (some ⟨g, 0, none⟩) n n) m f) (hg : tb ≠ g) : F22 w tb n g i c' a m f vs cs w' :=
 ⟨ht, (ho.block g (Array.getElem?_eq_some_iff.1 h.blk).1 (Ne.symm hg)).trans h.blk, h.len, h.new,
  fun k hk => (h.rows k hk).fr ho.fr (fun j cs hj e => by subst e; have h9 : wx.heap[j]? = _ := h.tab; rw [h9] at hj; cases hj), h.fr.trans ho.fr (fun _ _ e => e)⟩

/-- The rows kept, as far as i: they lie at the head of the same block. -/
structure Keep3 (w7 : World) (g n : Nat) (p : List CellD → Bool) (rows : List (List CellD)) (cs0 : List Value) (i : Nat) (v9 v10 : Value) (cs : List Value) (wx : World) : Prop where
 e9 : v9 = .slice (some ⟨g, 0, none⟩) (keptIx p rows i).length n
 blk : wx.heap[g]? = some (.cells cs.toArray 74 (0, 0))
 len : cs.length = n
 low : ∀ k, k < (keptIx p rows i).length → cs.getD k .nilIface = cs0.getD ((keptIx p rows i).getD k 0) .nilIface
 high : ∀ k, i ≤ k → k < n → cs.getD k .nilIface = cs0.getD k .nilIface
 own : wx.ownsRow w7.heap.size 3 1 v10 (keptIx p rows i).length ((keptIx p rows i).map fun (k : Nat) => .int .i64 (k : Int))
 fr : Fr (fun k => k = g) w7 wx

theorem keptIx_true {p : List CellD → Bool} {rows : List (List CellD)} {i : Nat} (hp : p (rwAt rows i) = true) : keptIx p rows (i + 1) = keptIx p rows i ++ [i] := by
 show (if p (rwAt rows i) then _ else _) = _
 rw [if_pos hp]
theorem keptIx_false {p : List CellD → Bool} {rows : List (List CellD)} {i : Nat} (hp : p (rwAt rows i) = false) : keptIx p rows (i + 1) = keptIx p rows i := by
 show (if p (rwAt rows i) then _ else _) = _
 rw [if_neg (by rw [hp]; decide)]

section
variable {w7 wx wy : World} {g n i : Nat} {p : List CellD → Bool} {rows : List (List CellD)} {cs0 cs : List Value} {v9 v10 : Value}

theorem Keep3.later (h : Keep3 w7 g n p rows cs0 i v9 v10 cs wx) (hb : Below wx.heap.size wx wy) : Keep3 w7 g n p rows cs0 i v9 v10 cs wy :=
 ⟨h.e9, (hb.block g (Array.getElem?_eq_some_iff.1 h.blk).1).trans h.blk, h.len, h.low, h.high, own_below (B := 0) h.own hb, h.fr.then hb⟩

theorem Keep3.skip (h : Keep3 w7 g n p rows cs0 i v9 v10 cs wx) (hp : p (rwAt rows i) = false) : Keep3 w7 g n p rows cs0 (i + 1) v9 v10 cs wx := by
 have e := keptIx_false hp
 obtain ⟨h1, h2, h3, h4, h5, h6, h7⟩ := h
 exact ⟨by rw [e]; exact h1, h2, h3, by rw [e]; exact h4, fun k hk hn => h5 k (by omega) hn, by rw [e]; exact h6, h7⟩

theorem Keep3.at_blk (h : Keep3 w7 g n p rows cs0 i v9 v10 cs wx) (k : Nat) (hk : k < n) : wx.cell? ⟨g, k, none⟩ = some (cs.getD k .nilIface) := by
 have hl := h.len
 rw [cell_of_row wx g k _ _ _ h.blk, List.getD_eq_getElem?_getD, List.getElem?_eq_getElem (by omega)]
 simp [show k < cs.length by omega]

theorem Keep3.take {w1 w2 : World} {v10' : Value} {o : Obj} (h : Keep3 w7 g n p rows cs0 i v9 v10 cs wx) (hp : p (rwAt rows i) = true) (hi : i < n) (h1 : w1.heap[g]? = some (.cells (cs.set (keptIx p rows i).length (cs0.getD i .nilIface)).toArray 74 (0, 0))) (f1 : Fr (fun k => k = g) wx w1)
  (ho : w2.ownsRow w7.heap.size 3 1 v10' ((keptIx p rows i).length + 1) (((keptIx p rows i).map fun (k : Nat) => .int .i64 (k : Int)) ++ [.int .i64 (i : Int)])) (hg : (w1.alloc o).grownBy w2 v10.ownBlock) :
  Keep3 w7 g n p rows cs0 (i + 1) (.slice (some ⟨g, 0, none⟩) ((keptIx p rows i).length + 1) n) v10' (cs.set (keptIx p rows i).length (cs0.getD i .nilIface)) w2 := by
 have e := keptIx_true hp
 have hl := keptIx_len p rows i
 have hcl := h.len
 have hg1 : g < w1.heap.size := (Array.getElem?_eq_some_iff.1 h1).1
 have hne : some g ≠ v10.ownBlock := fun e2 => by
  obtain ⟨cur, hc⟩ := own_obj h.own e2.symm
  rw [h.blk] at hc
  cases hc
 refine ⟨by rw [e, List.length_append, List.length_singleton], ?_, by rw [List.length_set]; exact hcl, fun k hk => ?_, fun k hk hkn => ?_, ?_, ?_⟩
 ·rw [hg.block g (by simp; omega) hne, Below.heap_alloc _ _ _ hg1]
  exact h1
 ·rw [e] at hk ⊢
  rw [getD_set (by omega)]
  by_cases hkl : k = (keptIx p rows i).length
  ·subst hkl
   rw [if_pos rfl, List.getD_eq_getElem?_getD (l := keptIx p rows i ++ [i]), List.getElem?_append_right (Nat.le_refl _)]
   simp
  ·have hk2 : k < (keptIx p rows i).length := by rw [List.length_append, List.length_singleton] at hk; omega
   rw [if_neg hkl, h.low k hk2, List.getD_eq_getElem?_getD (l := keptIx p rows i ++ [i]), List.getElem?_append_left hk2, ← List.getD_eq_getElem?_getD]
 ·rw [getD_set (by omega), if_neg (by omega)]
  exact h.high k (by omega) hkn
 ·rw [e, List.length_append, List.length_singleton, List.map_append]
  exact ho
 ·have f2 : Fr (fun k => k = g) w7 (w1.alloc o) := (h.fr.trans f1 fun _ _ e => e).then ((Below.refl _ _).alloc (Nat.le_refl _) _)
  exact f2.grown hg fun k hk e2 => absurd (h.own.lt k e2).1 (by omega)
end

end Go.Proofs.YtgolhmiocjpohaaGreatDoor
