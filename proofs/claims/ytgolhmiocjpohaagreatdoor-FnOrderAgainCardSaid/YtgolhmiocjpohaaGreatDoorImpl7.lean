/- The walk of getSortedRowIndices (47). -/
import Derived.Test.YtgolhmiocjpohaaGreatDoorImpl6
set_option linter.unusedVariables false
set_option linter.unusedSimpArgs false
namespace Go.Proofs.YtgolhmiocjpohaaGreatDoor
open Go.RowKit Go.Sort

/-- What stands behind the statement that keeps the rules and boxes them. -/
def Boxed8 (wr : World) (ks : List Rule) (s5 : Value) (wx : World) : Prop :=
  ∃ bs Ak ck, s5 = .pointer (some ⟨bs, 0, none⟩) ∧ Below wr.heap.size wr wx ∧ wx.cell? ⟨bs, 0, none⟩ = some (.slice Ak ks.length ck) ∧ SbsAt wx Ak ks ∧ bs < wx.heap.size ∧ wr.heap.size ≤ bs ∧ ∀ b o, Ak = some ⟨b, o, none⟩ → wr.heap.size ≤ b

theorem boxed_late {wr w2 : World} {ks : List Rule} {A2 : Option Addr} {c2 : Nat} (h : SbsAt w2 A2 ks ∧ Below wr.drew.heap.size wr.drew w2 ∧ ∀ b o, A2 = some ⟨b, o, none⟩ → wr.drew.heap.size ≤ b) :
    Boxed8 wr ks (.pointer (some ⟨w2.heap.size, 0, none⟩)) (w2.alloc (.cells #[.slice A2 ks.length c2] 67)) := by
  obtain ⟨hs, hb, hn⟩ := h
  have hb' : Below wr.heap.size wr w2 := (Below.refl _ _).drew.trans hb
  exact ⟨w2.heap.size, A2, c2, rfl, hb'.alloc hb'.size _, by simp, hs.below ((Below.refl _ _).alloc (Nat.le_refl _) _), by simp, hb'.size, hn⟩

theorem boxed_early {wr w2 : World} {ks : List Rule} {A2 : Option Addr} {c2 : Nat} (h : SbsAt w2 A2 ks ∧ Below (wr.alloc (.cells #[.slice none 0 0] 67)).drew.heap.size (wr.alloc (.cells #[.slice none 0 0] 67)).drew w2 ∧ ∀ b o, A2 = some ⟨b, o, none⟩ → (wr.alloc (.cells #[.slice none 0 0] 67)).drew.heap.size ≤ b) :
    Boxed8 wr ks (.pointer (some ⟨wr.heap.size, 0, none⟩)) (w2.setCell ⟨wr.heap.size, 0, none⟩ (.slice A2 ks.length c2)) := by
  obtain ⟨hs, hb, hn⟩ := h
  have hz : (wr.alloc (.cells #[.slice none 0 0] 67)).drew.heap.size = wr.heap.size + 1 := by rw [heap_drew]; simp
  rw [hz] at hb hn
  have hb' : Below wr.heap.size wr w2 := (((Below.refl _ _).alloc (Nat.le_refl _) _).drew).trans (hb.mono (Nat.le_succ _))
  have hc : w2.cell? ⟨wr.heap.size, 0, none⟩ = some (.slice none 0 0) := (hb.cell (p := ⟨wr.heap.size, 0, none⟩) (Nat.lt_succ_self _)).trans (by simp)
  refine ⟨wr.heap.size, A2, c2, rfl, hb'.setCell (Nat.le_refl _) _, World.cell?_setCell_same' _ _ _ (by rw [hc]; rfl), ?_, ?_, Nat.le_refl _, fun b o e => by have := hn b o e; omega⟩
  · rcases hs with rfl | ⟨b, o, rfl, hk, hcc⟩
    · exact Or.inl rfl
    · have hne := hn b o rfl
      have oth : ∀ o', (w2.setCell ⟨wr.heap.size, 0, none⟩ (.slice (some ⟨b, o, none⟩) ks.length c2)).cell? ⟨b, o', none⟩ = w2.cell? ⟨b, o', none⟩ := fun o' => World.cell?_setCell_other _ _ _ _ (by intro e; cases e; omega)
      refine Or.inr ⟨b, o, rfl, by simpa [World.setCell] using hk, fun i hi => ?_⟩
      simp only [oth]
      exact hcc i hi
  · have h1 := hb.size
    have h2 : w2.heap.size ≥ wr.heap.size + 1 := by rw [← hz]; exact h1
    simp [World.setCell]
    omega

set_option maxHeartbeats 6400000 in
set_option maxRecDepth 100000 in
theorem indices {Dom : ByteArray → Prop} {low : ByteArray → ByteArray} {num : ByteArray → Option Nat} (hlow : LowSaid Dom low) (hl : LightSaid Dom num)
    (w : World) (tb : Nat) (columns : Int) (Ar : Option Addr) (cr : Nat) (rows : List (List ByteArray)) (As : Option Addr) (cs : Nat) (rs : List Rule) (h : TableAt w tb columns Ar cr rows As cs rs)
    (hO : SWO (ltI low num (keepR columns rs) rows))
    (hll : rs.length ≤ 2147483647) (hrl : rows.length ≤ 2147483647) (hcl : ∀ x, x < rows.length → (rowAt rows x).length ≤ 2147483647) (hc0 : columns ≤ 9223372036854775807)
    (hok : ∀ x, x < rows.length → RowsOk Dom columns rs (rowAt rows x)) :
    Calls Tryz.prog 47 #[.pointer (some ⟨tb, 0, none⟩)] w (OrderIs low num (keepR columns rs) rows w) := by
  have hmk := run_make_row' (P := Tryz.prog) 23 3 (.int .i64 0) 8 Tryz.underlying23 info3 rfl .i64 .i64 rows.length (by omega) (by omega)
  have HH := Lib.hid h
  have HLOW := Lib.hid hlow
  have HL := Lib.hid hl
  have HO := Lib.hid hO
  have HOK := Lib.hid hok
  have HCL := Lib.hid hcl
  have HC0 := Lib.hid hc0
  have HLL := Lib.hid hll
  have HT := Lib.hid h.lt
  have g1 : (w.alloc (.cells #[.pointer (some ⟨tb, 0, none⟩)] 48)).cell? ⟨tb, 20, none⟩ = some (.slice Ar rows.length cr) := by rw [World.cell?_alloc_past _ _ _ h.lt]; exact h.r
  have g2 : (((w.alloc (.cells #[.pointer (some ⟨tb, 0, none⟩)] 48)).alloc (.cells (madeCells #[.int .i64 0] rows.length) 3)).alloc (.cells #[.slice (some ⟨w.heap.size + 1, 0, none⟩) rows.length rows.length] 23)).cell? ⟨tb, 20, none⟩ = some (.slice Ar rows.length cr) := by
    have := h.lt
    rw [World.cell?_alloc_past _ _ _ (by simp; omega), World.cell?_alloc_past _ _ _ (by simp; omega), World.cell?_alloc_past _ _ _ h.lt]; exact h.r
  clear h hlow hl hO hok hcl hc0
  go_enter Tryz.func47, Tryz.ntmps47
  go_wp2_with fail
  clear hmk g1 g2
  go_loopw [17] (fun v wr => ∃ k : Nat, v = .int .i64 k ∧ k ≤ rows.length ∧ Below w.heap.size w wr ∧ wr.rowIs (w.heap.size + 1) 3 rows.length (fun j => if j < k then .int .i64 (j : Int) else .int .i64 0) ∧
      wr.cell? ⟨w.heap.size, 0, none⟩ = some (.pointer (some ⟨tb, 0, none⟩)) ∧ wr.cell? ⟨w.heap.size + 1 + 1, 0, none⟩ = some (.slice (some ⟨w.heap.size + 1, 0, none⟩) rows.length rows.length) ∧ w.heap.size + 1 + 1 < wr.heap.size) (fun v _ => rows.length - (intOf v).toNat)
  case atStart =>
    refine ⟨0, rfl, by omega, (((Below.refl _ _).alloc (Nat.le_refl _) _).alloc (by simp) _).alloc (by simp; omega) _, ?_, ?_, ?_, by simp⟩
    · have e : (w.alloc (.cells #[.pointer (some ⟨tb, 0, none⟩)] 48)).heap.size = w.heap.size + 1 := by simp
      rw [← e]
      exact ((World.rowIs_made _ (.int .i64 0) rows.length 3).alloc _).congr fun i _ => by simp
    · rw [World.cell?_alloc_past _ _ _ (by simp; omega), World.cell?_alloc_past _ _ _ (by simp)]; simp
    · rw [World.cell?_alloc_at _ _ _ _ (by simp)]; simp
  case round =>
    obtain ⟨k, rfl, hk, hbl, hrow, h0, h2, hsz⟩ := hrel
    have HBL := Lib.hid hbl
    have HROW := Lib.hid hrow
    have HSZ := Lib.hid hsz
    clear hbl hrow hsz
    by_cases hlt : k < rows.length
    · have hm := HROW.out.cell hlt
      rw [if_neg (Nat.lt_irrefl k)] at hm
      have hf := HROW.out.frozen k
      have hnext : Hid ((wr.setCell ⟨w.heap.size + 1, k, none⟩ (.int .i64 (k : Int))).rowIs (w.heap.size + 1) 3 rows.length (fun j => if j < k + 1 then .int .i64 (j : Int) else .int .i64 0)) :=
        (HROW.out.set k (.int .i64 (k : Int))).congr fun i _ => by
          by_cases e : i = k
          · subst e; simp
          · by_cases e2 : i < k
            · simp [e, e2, show i < k + 1 by omega]
            · simp [e, e2, show ¬ i < k + 1 by omega]
      go_wp2_with fail
      go_roundw
      case rel => exact ⟨k + 1, by go_num, by omega, HBL.out.setCell (Nat.le_succ _) _, hnext.out, (World.cell?_setCell_other _ _ _ _ (by simp)).trans h0, (World.cell?_setCell_other _ _ _ _ (by simp)).trans h2, by simpa [World.setCell] using HSZ.out⟩
      case measure => simp [intOf]; omega
    · have hrow2 : wr.rowIs (w.heap.size + 1) 3 rows.length (fun j => .int .i64 (j : Int)) := HROW.out.congr fun i hi => by rw [if_pos (show i < k by omega)]
      have HR := Lib.hid (rowIs_nat hrow2)
      clear hrow2
      have HMV : Hid (Moved (w.heap.size + 1) rows.length rows.length (Array.range rows.length) wr wr) := Moved.start HR.out (by simp) (fun i hi => by rw [getElem!_pos _ i (by simpa using hi)]; simpa using hi)
      have HTB := Lib.hid (HH.out.below HBL.out)
      have gs := HTB.out.s
      clear HROW
      by_cases hrs : 0 < rs.length
      · have dr : decide ((0 : Int) < (rs.length : Int)) = true := by simpa using hrs
        have h36 : Hid (∀ wx, TableAt wx tb columns Ar cr rows As cs rs → Calls Tryz.prog 62 #[.pointer (some ⟨tb, 0, none⟩), .slice As rs.length cs] wx (SbsIs (keepR columns rs) wx)) := fun wx ht => parseSortBy wx tb columns Ar cr rows As cs rs ht hll HC0.out
        have hB0 : Hid (Below wr.heap.size wr (wr.alloc (.cells #[.slice none 0 0] 67)).drew) := ((Below.refl _ _).alloc (Nat.le_refl _) _).drew
        have hZ : Hid (∀ w2, Below (wr.alloc (.cells #[.slice none 0 0] 67)).drew.heap.size (wr.alloc (.cells #[.slice none 0 0] 67)).drew w2 → w2.cell? ⟨wr.heap.size, 0, none⟩ = some (.slice none 0 0) ∧ w2.frozen? ⟨wr.heap.size, 0, none⟩ = false) := by
          intro w2 hb
          have hlt : wr.heap.size < (wr.alloc (.cells #[.slice none 0 0] 67)).drew.heap.size := by rw [heap_drew]; simp
          exact ⟨(hb.cell (p := ⟨wr.heap.size, 0, none⟩) hlt).trans (by simp), (hb.frozen (p := ⟨wr.heap.size, 0, none⟩) hlt).trans (by simp)⟩
        have gs2 : (wr.alloc (.cells #[.slice none 0 0] 67)).cell? ⟨tb, 36, none⟩ = some (.slice As rs.length cs) := by rw [World.cell?_alloc_past _ _ _ HTB.out.lt]; exact gs
        have h02 : (wr.alloc (.cells #[.slice none 0 0] 67)).cell? ⟨w.heap.size, 0, none⟩ = some (.pointer (some ⟨tb, 0, none⟩)) := by rw [World.cell?_alloc_past _ _ _ (by have := HSZ.out; omega)]; exact h0
        go_upto_region 8 with fail
        go_cut [5] from 31 to 36 (fun s5 wx => Boxed8 wr (keepR columns rs) s5 wx)
        case first =>
          go_region_with (first
            | (go_at_call 62; refine (h36.out wr.drew (HTB.out.below (Below.refl _ _).drew)).mono ?_; rintro e w2 ⟨A2, c2, rfl, hs2, hb2, hn2⟩; have HA := Lib.hid (And.intro hs2 (And.intro hb2 hn2)); clear hs2 hb2 hn2)
            | (go_at_call 62; refine (h36.out (wr.alloc (.cells #[.slice none 0 0] 67)).drew (HTB.out.below hB0.out)).mono ?_; rintro e w2 ⟨A2, c2, rfl, hs2, hb2, hn2⟩; obtain ⟨hz, hf⟩ := hZ.out w2 hb2; have HB := Lib.hid (And.intro hs2 (And.intro hb2 hn2)); clear hs2 hb2 hn2))
          all_goals
            go_wp2_with fail
            go_meet
            first | exact boxed_late HA.out | exact boxed_early HB.out
        case rest =>
          obtain ⟨bs, Ak, ck, rfl, hbc, hcb, hsk, hbs, hbs2, hAk⟩ := hcut
          have HBC := Lib.hid hbc
          have h2c : wc.cell? ⟨w.heap.size + 1 + 1, 0, none⟩ = some (.slice (some ⟨w.heap.size + 1, 0, none⟩) rows.length rows.length) := (HBC.out.cell (p := ⟨w.heap.size + 1 + 1, 0, none⟩) HSZ.out).trans h2
          have h0c : wc.cell? ⟨w.heap.size, 0, none⟩ = some (.pointer (some ⟨tb, 0, none⟩)) := (HBC.out.cell (p := ⟨w.heap.size, 0, none⟩) (by have := HSZ.out; show w.heap.size < _; omega)).trans h0
          have hms : Moved (w.heap.size + 1) rows.length rows.length (Array.range rows.length) wr wc := HMV.out.below HBC.out
          have hsz := HSZ.out
          have hbw : Below w.heap.size w wc := HBL.out.trans (HBC.out.mono (by omega))
          have hso : Hid (Calls Tryz.prog 63 #[.iface 23 (.slice (some ⟨w.heap.size + 1, 0, none⟩) rows.length rows.length), .func (.func 64) #[] #[.pointer (some ⟨w.heap.size + 1 + 1, 0, none⟩), .pointer (some ⟨bs, 0, none⟩), .pointer (some ⟨w.heap.size, 0, none⟩)]] wc
              fun e w' => e = .returned (.tuple #[]) ∧ ∃ d', PermIn 0 rows.length (Array.range rows.length) d' ∧ SortedIn (ltI low num (keepR columns rs) rows) 0 rows.length d' ∧ Moved (w.heap.size + 1) rows.length rows.length d' wc w') :=
            sort_Slice_any HO.out _ (Array.range rows.length) rows.length wc hrl hms.self
              (less_here HLOW.out HL.out w wc tb columns Ar cr rows As cs rs HH.out hll hrl HCL.out HC0.out HOK.out hbw (w.heap.size + 1) (w.heap.size + 1 + 1) bs w.heap.size Ak ck rows.length (by omega) h2c h0c hcb hsk
                (by have := HBC.out.size; omega) (by have := HBC.out.size; omega) hbs (by omega) (by omega) (by omega) (fun b o e => by have := hAk b o e; omega))
          have HBW := Lib.hid hbw
          have HS2 := Lib.hid (show w.heap.size + 1 + 1 < wc.heap.size by have := HBC.out.size; omega)
          clear hbc hcb hsk hbs hbs2 hAk h0c hms hsz hbw h0 h2
          go_wp2_with (go_at_call 63; (with_reducible refine hso.out.mono ?_); rintro e w9 ⟨rfl, d', hp, hsd, hm9⟩; have h29 := (hm9.cell (b := w.heap.size + 1 + 1) (o := 0) HS2.out (by omega)).trans h2c; have HM9 := Lib.hid (And.intro hp (And.intro hsd hm9)); clear hp hsd hm9)
          go_ret
          obtain ⟨hp, hsd, hm9⟩ := HM9.out
          have hsz9 : d'.size = rows.length := hm9.len
          refine ⟨some ⟨w.heap.size + 1, 0, none⟩, rows.length, d'.toList, by simp [hsz9], nats_of_moved hm9, ?_, ?_, hm9.toBelow HBW.out (by omega)⟩
          · have h3 := hp.2.2
            rw [Array.extract_eq_self_of_le (by omega), Array.extract_eq_self_of_le (by simp)] at h3
            simpa using h3
          · intro i j hij hj
            have hj' : j < d'.size := by simpa using hj
            have e1 : nAt d'.toList i = d'[i]! := by rw [nAt_eq (by simp; omega), getElem!_pos d' i (by omega)]; simp
            have e2 : nAt d'.toList j = d'[j]! := by rw [nAt_eq hj, getElem!_pos d' j hj']; simp
            rw [e1, e2]
            exact hsd i j (Nat.zero_le _) hij (by omega)
      · have dr : decide ((0 : Int) < (rs.length : Int)) = false := decide_eq_false (by omega)
        go_wp2_with fail
        go_ret
        have hnil : rs = [] := List.eq_nil_of_length_eq_zero (by omega)
        refine ⟨some ⟨w.heap.size + 1, 0, none⟩, rows.length, List.range rows.length, by simp, ?_, List.Perm.refl _, ?_, HBL.out⟩
        · have := nats_of_moved HMV.out
          simpa using this
        · intro i j hij hj
          subst hnil
          have h1 : nAt (List.range rows.length) i < rows.length := by rw [nAt_eq (by simp at hj ⊢; omega)]; simp at hj ⊢; omega
          have h2 : nAt (List.range rows.length) j < rows.length := by rw [nAt_eq hj]; simp at hj ⊢; omega
          rw [ltI_in h2 h1]
          rfl

end Go.Proofs.YtgolhmiocjpohaaGreatDoor
