/- The package's order (impl.Order, 13; table.ZzOrder, 33). -/
import Derived.Test.YtgolhmiocjpohaaGreatDoorImpl7
set_option linter.unusedVariables false
set_option linter.unusedSimpArgs false
namespace Go.Proofs.YtgolhmiocjpohaaGreatDoor
open Go.RowKit Go.Sort

/-- A table's cells: the number of columns, the rows and the rules; all else zero. -/
def tbl (a b c : Value) : Array Value := #[.int .i64 0, .bool false, .int .i64 0, .string ⟨#[]⟩, .slice none 0 0, .slice none 0 0, .map none, .string ⟨#[]⟩, .bool false, .string ⟨#[]⟩, .int .i64 0, .slice none 0 0, .map none, .int .i64 0,
  a, .int .i64 0, .int .i64 0, .slice none 0 0, .int .i64 0, .string ⟨#[]⟩, b, .slice none 0 0, .map none, .slice none 0 0, .slice none 0 0, .slice none 0 0, .map none, .slice none 0 0, .slice none 0 0, .map none, .slice none 0 0, .nilFunc, .nilFunc,
  .map none, .map none, .map none, c, .slice none 0 0, .slice none 0 0, .pointer none, .bool false, .bool false, .string ⟨#[]⟩]

theorem build_table (n : Int) (A B : Option Addr) (la ca lb cb : Nat) (w : World) :
    (Instr.build 71 #[(14, .int .i64 n), (18, .slice A la ca), (34, .slice B lb cb)]).run Tryz.prog w = .ok (.agg (tbl (.int .i64 n) (.slice A la ca) (.slice B lb cb))) w := by kernel_rfl

/-- A build of which it is known what it gives. -/
theorem wp_build {P : Program} {o : Oper} {a : Act} {w : World} {K : Act → World → Prop} {Q : Exit → Act → World → Prop} {t : TypeId} {parts : Array (Nat × Operand)} {v : Value} (hop : o.op = Op.build t parts)
    (hrun : (Instr.build t (parts.map fun x => (x.1, a.eval x.2))).run P w = .ok v w) (h : K (a.put o.dst v) w) : Oper.wp P o a w K Q := by
  unfold Oper.wp
  simp [execOp, hop, hrun, Result.andThen]
  exact h

theorem table_made (w : World) (n : Int) (A B : Option Addr) (ca cb : Nat) (rows : List (List ByteArray)) (rs : List Rule) (hr : RowsAt w A rows) (hs : SbsAt w B rs) :
    TableAt (w.alloc (.cells (tbl (.int .i64 n) (.slice A rows.length ca) (.slice B rs.length cb)) 71)) w.heap.size n A ca rows B cb rs :=
  ⟨by rw [World.cell?_alloc_at _ _ _ _ rfl]; rfl, by rw [World.cell?_alloc_at _ _ _ _ rfl]; rfl, by rw [World.cell?_alloc_at _ _ _ _ rfl]; rfl,
    hr.below ((Below.refl _ _).alloc (Nat.le_refl _) _), hs.below ((Below.refl _ _).alloc (Nat.le_refl _) _), by simp⟩

theorem OrderIs.after {low : ByteArray → ByteArray} {num : ByteArray → Option Nat} {ks : List Rule} {rows : List (List ByteArray)} {w u : World} {e : Ending} {w' : World} (h : OrderIs low num ks rows u e w') (hb : Below w.heap.size w u) : OrderIs low num ks rows w e w' := by
  obtain ⟨A, c, ix, h1, h2, h3, h4, h5⟩ := h
  exact ⟨A, c, ix, h1, h2, h3, h4, hb.trans (h5.mono hb.size)⟩

set_option maxHeartbeats 1600000 in
set_option maxRecDepth 100000 in
theorem zzOrder {Dom : ByteArray → Prop} {low : ByteArray → ByteArray} {num : ByteArray → Option Nat} (hlow : LowSaid Dom low) (hl : LightSaid Dom num)
    (w : World) (A B : Option Addr) (ca cb : Nat) (rows : List (List ByteArray)) (rs : List Rule) (columns : Int) (h : RowsAt w A rows) (hs : SbsAt w B rs)
    (hO : SWO (ltI low num (keepR columns rs) rows))
    (hll : rs.length ≤ 2147483647) (hrl : rows.length ≤ 2147483647) (hcl : ∀ x, x < rows.length → (rowAt rows x).length ≤ 2147483647) (hc0 : columns ≤ 9223372036854775807)
    (hok : ∀ x, x < rows.length → RowsOk Dom columns rs (rowAt rows x)) :
    Calls Tryz.prog 33 #[.slice A rows.length ca, .int .i64 columns, .slice B rs.length cb] w (OrderIs low num (keepR columns rs) rows w) := by
  have HZ := Lib.hid (fun wx hx => zzRows wx A ca rows hx hrl)
  have HI := Lib.hid (fun wx tb A1 c1 (ht : TableAt wx tb columns A1 c1 rows B cb rs) => indices hlow hl wx tb columns A1 c1 rows B cb rs ht hO hll hrl hcl hc0 hok)
  have HH := Lib.hid h
  have HS := Lib.hid hs
  clear h hs hlow hl hO hcl hc0 hok
  have hbt := build_table columns
  go_enter Tryz.func33, Tryz.ntmps33
  go_wp2_with fail
  refine (HZ.out _ HH.out).mono ?_
  rintro e w1 ⟨A1, c1, rfl, hr1, hb1⟩
  have HR1 := Lib.hid hr1
  have HB1 := Lib.hid hb1
  clear hr1 hb1
  go_wp2_with fail
  refine wp_build (by rfl) (v := .agg (tbl (.int .i64 columns) (.slice A1 rows.length c1) (.slice B rs.length cb))) (by simp only [List.map_toArray, List.map_cons, List.map_nil]; exact hbt A1 B rows.length c1 rs.length cb w1) ?_
  clear hbt
  have HT := Lib.hid (table_made w1 columns A1 B c1 cb rows rs HR1.out (HS.out.below HB1.out))
  generalize tbl (.int .i64 columns) (.slice A1 rows.length c1) (.slice B rs.length cb) = cells at *
  go_wp2_with (go_at_call 47; (with_reducible refine (HI.out _ _ _ _ HT.out).mono ?_); rintro e w2 ⟨A2, c2, ix, rfl, q1, q2, q3, q4⟩; have H2 := Lib.hid (And.intro q1 (And.intro q2 (And.intro q3 q4))); clear q1 q2 q3 q4)
  go_ret
  obtain ⟨q1, q2, q3, q4⟩ := H2.out
  exact ⟨A2, c2, ix, rfl, q1, q2, q3, (HB1.out.alloc HB1.out.size _).trans (q4.mono (by simp; have := HB1.out.size; omega))⟩

set_option maxHeartbeats 1600000 in
set_option maxRecDepth 100000 in
/-- impl.Order: a permutation of the rows' places, sorted by the rules whose columns are there. -/
theorem impl_Order {Dom : ByteArray → Prop} {low : ByteArray → ByteArray} {num : ByteArray → Option Nat} (hlow : LowSaid Dom low) (hl : LightSaid Dom num)
    (w : World) (A B : Option Addr) (ca cb : Nat) (rows : List (List ByteArray)) (rs : List Rule) (columns : Int) (h : RowsAt w A rows) (hs : RulesAt w B rs)
    (hO : SWO (ltI low num (keepR columns rs) rows))
    (hll : rs.length ≤ 2147483647) (hrl : rows.length ≤ 2147483647) (hcl : ∀ x, x < rows.length → (rowAt rows x).length ≤ 2147483647) (hc0 : columns ≤ 9223372036854775807)
    (hok : ∀ x, x < rows.length → RowsOk Dom columns rs (rowAt rows x)) :
    Calls Tryz.prog 13 #[.slice A rows.length ca, .int .i64 columns, .slice B rs.length cb] w (OrderIs low num (keepR columns rs) rows w) := by
  have HI := Lib.hid (fun wx Bx cx (hr : RowsAt wx A rows) (hsx : SbsAt wx Bx rs) => zzOrder hlow hl wx A Bx ca cx rows rs columns hr hsx hO hll hrl hcl hc0 hok)
  have HS := Lib.hid (sorts w B cb rs hs hll)
  have HR := Lib.hid h
  clear h hs hlow hl hO hcl hc0 hok
  go_enter Tryz.func13, Tryz.ntmps13
  go_wp2_with (first
    | (go_at_call 34; (with_reducible refine HS.out.mono ?_); rintro e w1 ⟨B1, cb1, rfl, hs1, hb1, hn1⟩; have H1 := Lib.hid (And.intro hs1 hb1); clear hs1 hb1 hn1)
    | (go_at_call 33; (with_reducible refine (HI.out _ _ _ (HR.out.below H1.out.2) H1.out.1).mono ?_); rintro e w2 ⟨A2, c2, ix, rfl, q1, q2, q3, q4⟩; have H2 := Lib.hid (And.intro q1 (And.intro q2 (And.intro q3 q4))); clear q1 q2 q3 q4))
  go_ret
  obtain ⟨q1, q2, q3, q4⟩ := H2.out
  exact ⟨A2, c2, ix, rfl, q1, q2, q3, H1.out.2.trans (q4.mono H1.out.2.size)⟩

end Go.Proofs.YtgolhmiocjpohaaGreatDoor
