/- What the row's list of laid variables tells the walks (Glob). No condition. What a list of laid variables tells of tables: arrays and slices of numbers and of pairs, read off their data. No condition. What the row's list of laid variables tells: the tables, cell for cell. No condition. -/
import Derived.Test.YtgolhmiocjpohaaGreatDoorRows
import Derived.Deep.Strs
import Derived.Lib.LaidTab
import Derived.LaidLaws
import Derived.LaidSub
import Derived.Test.YtgolhmiocjpohaaGreatDoorSl1
import Derived.OpenShut
import Derived.Deep.Slices
import Derived.Lib.CaseT
set_option linter.unusedVariables false
set_option linter.unusedSimpArgs false
namespace Go.Proofs.YtgolhmiocjpohaaGreatDoor
open Go.RowKit Go.ChangeShapes Go.WideShapes Go.Deep

/-- A listed variable, as the list has it. -/
theorem laid_has {P : Program} {w : World} : ∀ {l : List (String × DataW Unit)} {ps : List MemPlace}, DataW.LaidVars P w l ps → ∀ n d, (n, d) ∈ l →
  ∃ g t cs fuel p, P.globalNamed n = some g ∧ (P.globals[g]?).map (·.type) = some t ∧ w.var? P n = some cs ∧ DataW.trod (fun _ => ()) P w 0 (fun _ => true) false fuel t cs.toList = some (d, p)
 | [], _, _, n, d, hm => by cases hm
 | (n', d') :: r, ps, h, n, d, hm => by
  obtain ⟨g, t, cs, fuel, p, q, h1, h2, h3, h4, h5, h6⟩ := h
  rcases List.mem_cons.1 hm with e | e
  ·cases e
   exact ⟨g, t, cs, fuel, p, h1, h2, h3, h4⟩
  ·exact laid_has h5 n d e

theorem g6 : Tryz.prog.globalNamed "strconv.ErrSyntax" = some 6 := by kernel_rfl
theorem g9 : Tryz.prog.globalNamed "internal/strconv.optimize" = some 9 := by kernel_rfl
theorem g10 : Tryz.prog.globalNamed "internal/strconv.float64info" = some 10 := by kernel_rfl
theorem g19 : Tryz.prog.globalNamed "math/bits.deBruijn64tab" = some 19 := by kernel_rfl
theorem t6 : (Tryz.prog.globals[6]?).map (·.type) = some 127 := by kernel_rfl
theorem t9 : (Tryz.prog.globals[9]?).map (·.type) = some 4 := by kernel_rfl
theorem t10 : (Tryz.prog.globals[10]?).map (·.type) = some 245 := by kernel_rfl
theorem var_lt {w : World} {n : String} {g : Nat} {cs : Array Value} (hg : Tryz.prog.globalNamed n = some g) (h : w.var? Tryz.prog n = some cs) : g < w.heap.size := by
 unfold World.var? at h
 rw [hg] at h
 simp only [Option.bind_some] at h
 split at h
 ·rename_i hh
  exact (Array.getElem?_eq_some_iff.1 hh).1
 ·cases h

end Go.Proofs.YtgolhmiocjpohaaGreatDoor

namespace Go.Proofs.YtgolhmiocjpohaaGreatDoor
open Go.RowKit Go.ChangeShapes Go.WideShapes Go.Deep

section
variable {H : Type} {enc : TypeId × Value → H} {P : Program} {w : World} {base : Nat} {held : Bool} {sp : Nat → Bool} {fuel : Nat}

theorem map_at_of {α β : Type} {f : α → β} {l : List α} {r : List β} (h : r = l.map f) (i : Nat) (hi : i < l.length) : r[i]? = some (f l[i]) := by
 subst h
 simp [hi]

/-- An array, element by element. -/
theorem read_array {T e : TypeId} {n : Nat} {cs : List Value} {D : List (DataW H)} {p : List MemPlace} (ht : P.underlying T = some (.array n e)) (h : DataW.trod enc P w base sp held fuel T cs = some (.agg D, p)) :
  D.length = n ∧ cs.length = P.cellsOf T ∧ ∃ m, ∀ i d, D[i]? = some d → ∃ q, DataW.trod enc P w base sp held m e ((cs.drop (i * P.cellsOf e)).take (P.cellsOf e)) = some (d, q) := by
 obtain ⟨xs, m, rfl, hx, hl, hxl, hf⟩ := DataW.trod_array ht h
 simp only [Prod.mk.injEq, DataW.agg.injEq] at hx
 obtain ⟨rfl, _⟩ := hx
 refine ⟨by rw [List.length_map, hxl], hl, m, fun i d hd => ?_⟩
 rw [List.getElem?_map] at hd
 obtain ⟨x, hx, rfl⟩ := Option.map_eq_some_iff.1 hd
 have hi : i < n := by rw [← hxl]; exact (List.getElem?_eq_some_iff.1 hx).1
 exact ⟨x.2, by rw [hf i hi, hx]⟩

/-- A struct of two cells. -/
theorem read_pair {T e0 e1 : TypeId} {fs : Array Field} {cs : List Value} {d0 d1 : DataW H} {p : List MemPlace} (ht : P.underlying T = some (.struct fs)) (h0 : fs[0]?.map (fun f => (f.type, f.offset)) = some (e0, 0)) (h1 : fs[1]?.map (fun f => (f.type, f.offset)) = some (e1, 1))
  (hT : P.cellsOf T = 2) (c0 : P.cellsOf e0 = 1) (c1 : P.cellsOf e1 = 1) (h : DataW.trod enc P w base sp held fuel T cs = some (.agg [d0, d1], p)) :
  ∃ v0 v1 m q0 q1, cs = [v0, v1] ∧ DataW.trod enc P w base sp held m e0 [v0] = some (d0, q0) ∧ DataW.trod enc P w base sp held m e1 [v1] = some (d1, q1) := by
 obtain ⟨xs, m, rfl, hx, hl, hxl, hf⟩ := DataW.trod_struct ht h
 simp only [Prod.mk.injEq, DataW.agg.injEq] at hx
 obtain ⟨hx, _⟩ := hx
 rw [hT] at hl
 match cs, hl with
 | [v0, v1], _ =>
  match xs, hx with
  | [x0, x1], hx =>
   simp only [List.map_cons, List.map_nil, List.cons.injEq, and_true] at hx
   obtain ⟨rfl, rfl⟩ := hx
   obtain ⟨f0, g0, e0'⟩ := Option.map_eq_some_iff.1 h0
   obtain ⟨f1, g1, e1'⟩ := Option.map_eq_some_iff.1 h1
   simp only [Prod.mk.injEq] at e0' e1'
   have r0 := hf 0 f0 g0
   have r1 := hf 1 f1 g1
   rw [e0'.1, e0'.2, c0] at r0
   rw [e1'.1, e1'.2, c1] at r1
   exact ⟨v0, v1, m, x0.2, x1.2, rfl, r0, r1⟩

theorem read_int {e : TypeId} {k : IntKind} {z : Int} {v : Value} {p : List MemPlace} (he : P.underlying e = some (.int k)) (h : DataW.trod enc P w base sp held fuel e [v] = some (.lit (.int k z), p)) : v = .int k z := by
 obtain ⟨n, r0, r1, _⟩ := DataW.trod_int he h
 simp only [List.cons.injEq, and_true] at r0
 simp only [Prod.mk.injEq, DataW.lit.injEq, Lit.int.injEq, true_and] at r1
 rw [r0, r1.1]
theorem read_string {e : TypeId} {z : List UInt8} {v : Value} {p : List MemPlace} (he : P.underlying e = some .string) (h : DataW.trod enc P w base sp held fuel e [v] = some (.lit (.string z), p)) : v = .string ⟨z.toArray⟩ := by
 obtain ⟨s, r0, r1, _⟩ := DataW.trod_string he h
 simp only [List.cons.injEq, and_true] at r0
 simp only [Prod.mk.injEq, DataW.lit.injEq, Lit.string.injEq] at r1
 rw [r0, r1.1]
theorem read_float {e : TypeId} {k : FloatKind} {z : Nat} {v : Value} {p : List MemPlace} (he : P.underlying e = some (.float k)) (h : DataW.trod enc P w base sp held fuel e [v] = some (.lit (.float k z), p)) : v = .float k z := by
 cases fuel with
 | zero => simp [DataW.trod] at h
 | succ m =>
  unfold DataW.trod at h
  rw [he] at h
  split at h <;> simp_all

/-- A slice, element by element. -/
theorem read_slice {T e : TypeId} {cs : List Value} {D : List (DataW H)} {p : List MemPlace} (hc : 0 < P.cellsOf e) (hD : D ≠ []) (ht : P.underlying T = some (.slice e)) (h : DataW.trod enc P w base (fun _ => true) held fuel T cs = some (.slice D [], p)) :
  ∃ B o cap, cs = [.slice (some ⟨B, o, none⟩) D.length cap] ∧ D.length ≤ cap ∧ B < w.heap.size ∧ ∃ m, ∀ i d, D[i]? = some d → ∃ q cs', cs'.length = P.cellsOf e ∧ (∀ j, j < P.cellsOf e → w.cell? ⟨B, o + i * P.cellsOf e + j, none⟩ = cs'[j]?) ∧ DataW.trod enc P w base (fun _ => true) held m e cs' = some (d, q) := by
 rcases open_slice ht h with ⟨_, hx⟩ | ⟨a, len, cap, m, n, V, Pl, rfl, _, hl, hm, hmm, hx, hel⟩
 ·simp at hx
 ·simp only [if_true] at hmm
  subst hmm
  simp only [Prod.mk.injEq, DataW.slice.injEq] at hx
  obtain ⟨⟨rfl, hrest⟩, _⟩ := hx
  have hml : m = len := by
   have := congrArg List.length hrest
   simp at this
   omega
  subst hml
  have hlen : ((List.range m).map V).length = m := by simp
  have hm0 : 0 < m := by
   rcases Nat.eq_zero_or_pos m with h0 | h0
   ·subst h0; exact absurd rfl hD
   ·exact h0
  obtain ⟨cs0, h1, h2⟩ := hel 0 hm0
  obtain ⟨_, hl0, hc0⟩ := World.cells?_some h1
  have hfst : w.cell? ((a.add (0 * P.cellsOf e)).add 0) = cs0[0]? := hc0 0 hc
  have hlt : 0 < cs0.length := by omega
  rw [List.getElem?_eq_getElem hlt] at hfst
  obtain ⟨B, o, spot⟩ := a
  have hspot : spot = none := by simpa [Addr.add] using World.cell?_spot hfst
  subst hspot
  have hB : B < w.heap.size := by
   have := World.block_lt_of_cell? w _ hfst
   rw [add_plain, add_plain] at this
   exact this
  refine ⟨B, o, m, by rw [hlen], by rw [hlen]; exact Nat.le_refl _, hB, n, fun i d hd => ?_⟩
  have hi : i < m := by rw [← hlen]; exact (List.getElem?_eq_some_iff.1 hd).1
  obtain ⟨cs', k1, k2⟩ := hel i hi
  obtain ⟨_, kl, kc⟩ := World.cells?_some k1
  have hdi : d = V i := by
   rw [List.getElem?_map, List.getElem?_range hi] at hd
   simpa using hd.symm
  subst hdi
  refine ⟨Pl i, cs', kl, fun j hj => ?_, k2⟩
  have := kc j hj
  rw [Deep.add_add] at this
  rw [← this, add_plain]
  congr 2
  omega
end

end Go.Proofs.YtgolhmiocjpohaaGreatDoor

namespace Go.Proofs.YtgolhmiocjpohaaGreatDoor
open Go.RowKit Go.ChangeShapes Go.WideShapes Go.Deep

theorem g0 : Tryz.prog.globalNamed "unicode.asciiFold" = some 0 := by kernel_rfl
theorem g1 : Tryz.prog.globalNamed "unicode.caseOrbit" = some 1 := by kernel_rfl
theorem g2 : Tryz.prog.globalNamed "unicode.CaseRanges" = some 2 := by kernel_rfl
theorem g3 : Tryz.prog.globalNamed "unicode/utf8.first" = some 3 := by kernel_rfl
theorem g4 : Tryz.prog.globalNamed "unicode/utf8.acceptRanges" = some 4 := by kernel_rfl
theorem g7 : Tryz.prog.globalNamed "strconv.ErrRange" = some 7 := by kernel_rfl
theorem g8 : Tryz.prog.globalNamed "internal/strconv.float32info" = some 8 := by kernel_rfl
theorem g13 : Tryz.prog.globalNamed "internal/strconv.powtab" = some 13 := by kernel_rfl
theorem g14 : Tryz.prog.globalNamed "internal/strconv.float64pow10" = some 14 := by kernel_rfl
theorem g15 : Tryz.prog.globalNamed "internal/strconv.pow10Tab" = some 15 := by kernel_rfl
theorem g16 : Tryz.prog.globalNamed "internal/strconv.leftcheats" = some 16 := by kernel_rfl
theorem t0 : (Tryz.prog.globals[0]?).map (·.type) = some 152 := by kernel_rfl
theorem t1 : (Tryz.prog.globals[1]?).map (·.type) = some 153 := by kernel_rfl
theorem t2 : (Tryz.prog.globals[2]?).map (·.type) = some 159 := by kernel_rfl
theorem t3 : (Tryz.prog.globals[3]?).map (·.type) = some 184 := by kernel_rfl
theorem t4 : (Tryz.prog.globals[4]?).map (·.type) = some 187 := by kernel_rfl
theorem t7 : (Tryz.prog.globals[7]?).map (·.type) = some 127 := by kernel_rfl
theorem t8 : (Tryz.prog.globals[8]?).map (·.type) = some 245 := by kernel_rfl
theorem t13 : (Tryz.prog.globals[13]?).map (·.type) = some 23 := by kernel_rfl
theorem t14 : (Tryz.prog.globals[14]?).map (·.type) = some 285 := by kernel_rfl
theorem t15 : (Tryz.prog.globals[15]?).map (·.type) = some 291 := by kernel_rfl
theorem t16 : (Tryz.prog.globals[16]?).map (·.type) = some 302 := by kernel_rfl
theorem z3 : Tryz.prog.cellsOf 3 = 1 := by kernel_rfl
theorem z5 : Tryz.prog.cellsOf 5 = 1 := by kernel_rfl
theorem z9 : Tryz.prog.cellsOf 9 = 1 := by kernel_rfl
theorem z21 : Tryz.prog.cellsOf 21 = 1 := by kernel_rfl
theorem z105 : Tryz.prog.cellsOf 105 = 1 := by kernel_rfl
theorem z151 : Tryz.prog.cellsOf 151 = 1 := by kernel_rfl
theorem z156 : Tryz.prog.cellsOf 156 = 2 := by kernel_rfl
theorem z186 : Tryz.prog.cellsOf 186 = 2 := by kernel_rfl
theorem z188 : Tryz.prog.cellsOf 188 = 1 := by kernel_rfl
theorem z190 : Tryz.prog.cellsOf 190 = 3 := by kernel_rfl
theorem z192 : Tryz.prog.cellsOf 192 = 5 := by kernel_rfl
theorem z198 : Tryz.prog.cellsOf 198 = 1 := by kernel_rfl
theorem z290 : Tryz.prog.cellsOf 290 = 2 := by kernel_rfl
theorem z301 : Tryz.prog.cellsOf 301 = 2 := by kernel_rfl

/-- A listed variable, as the list has it: its cells, and how they read. -/
def LaidOne (W : World) (n : String) (d : DataW Unit) : Prop := ∃ l, (n, d) ∈ l ∧ ∃ ps, DataW.LaidVars Tryz.prog W l ps

theorem LaidOne.read {W : World} {n : String} {d : DataW Unit} {g T : Nat} (h : LaidOne W n d) (hg : Tryz.prog.globalNamed n = some g) (ht : (Tryz.prog.globals[g]?).map (·.type) = some T) :
  ∃ (cs : List Value) (fuel : Nat) (p : List MemPlace), (∀ i, W.cell? ⟨g, i, none⟩ = cs[i]?) ∧ DataW.trod (fun _ => ()) Tryz.prog W 0 (fun _ => true) false fuel T cs = some (d, p) := by
 obtain ⟨l, hm, ps, hl⟩ := h
 obtain ⟨g', t', cs, fuel, p, e1, e2, e3, e4⟩ := laid_has hl _ _ hm
 obtain rfl := Option.some.inj (hg.symm.trans e1)
 obtain rfl := Option.some.inj (ht.symm.trans e2)
 exact ⟨cs.toList, fuel, p, fun i => by rw [World.var?_cell hg e3 i]; simp, e4⟩

theorem tab_first {W : World} (h : LaidOne W "unicode/utf8.first" Go.Pinned.utf8First) : ∀ i, i < 256 → W.cell? ⟨3, i, none⟩ = some (.int .u8 ((Go.Pinned.utf8FirstZ.getD i 0 : Nat) : Int)) := by
 obtain ⟨cs, fuel, p, hc, h⟩ := h.read g3 t3
 obtain ⟨hl, hcl, m, hel⟩ := read_array Tryz.underlying184 h
 intro i hi
 have hz : i < Go.Pinned.utf8FirstZ.length := by
  have : Go.Pinned.utf8FirstZ.length = 256 := by kernel_rfl
  omega
 obtain ⟨q, hq⟩ := hel i _ (map_at_of rfl i hz)
 rw [z5, Nat.mul_one] at hq
 rw [hc i]
 cases hd : cs.drop i with
 | nil => rw [hd] at hq; cases m <;> simp [DataW.trod, Tryz.underlying5] at hq
 | cons v r =>
  rw [hd] at hq
  have hv := read_int Tryz.underlying5 hq
  have : cs[i]? = some v := by
   have := congrArg List.head? hd
   simpa using this
  rw [this, hv, List.getD_eq_getElem?_getD, List.getElem?_eq_getElem hz]
  rfl

theorem tab_ascii {W : World} {zs : List Nat} {D : DataW Unit} (h : LaidOne W "unicode.asciiFold" D) (hD : D = .agg (zs.map fun (z : Nat) => .lit (.int .u16 z))) (hz : zs.length = 128) : ∀ i, i < 128 → W.cell? ⟨0, i, none⟩ = some (.int .u16 ((zs.getD i 0 : Nat) : Int)) := by
 subst hD
 obtain ⟨cs, fuel, p, hc, h⟩ := h.read g0 t0
 obtain ⟨hl, hcl, m, hel⟩ := read_array Tryz.underlying152 h
 intro i hi
 have hz : i < zs.length := by omega
 obtain ⟨q, hq⟩ := hel i _ (map_at_of rfl i hz)
 rw [z151, Nat.mul_one] at hq
 rw [hc i]
 cases hd : cs.drop i with
 | nil => rw [hd] at hq; cases m <;> simp [DataW.trod, Tryz.underlying151] at hq
 | cons v r =>
  rw [hd] at hq
  have hv := read_int Tryz.underlying151 hq
  have : cs[i]? = some v := by
   have := congrArg List.head? hd
   simpa using this
  rw [this, hv, List.getD_eq_getElem?_getD, List.getElem?_eq_getElem hz]
  rfl

theorem two_of_drop {cs : List Value} {j : Nat} {v0 v1 : Value} (h : (cs.drop j).take 2 = [v0, v1]) : cs[j]? = some v0 ∧ cs[j + 1]? = some v1 := by
 have h0 := congrArg (fun l : List Value => l[0]?) h
 have h1 := congrArg (fun l : List Value => l[1]?) h
 simp [List.getElem?_take, List.getElem?_drop] at h0 h1
 exact ⟨h0, h1⟩

theorem tab_accept {W : World} {zs : List (Nat × Nat)} {D : DataW Unit} (h : LaidOne W "unicode/utf8.acceptRanges" D) (hD : D = .agg (zs.map fun (z : Nat × Nat) => .agg [.lit (.int .u8 (z.1 : Nat)), .lit (.int .u8 (z.2 : Nat))])) (hz : zs.length = 16) :
  ∀ i, i < 16 → W.cell? ⟨4, 2 * i, none⟩ = some (.int .u8 (((zs.getD i (0, 0)).1 : Nat) : Int)) ∧ W.cell? ⟨4, 2 * i + 1, none⟩ = some (.int .u8 (((zs.getD i (0, 0)).2 : Nat) : Int)) := by
 subst hD
 obtain ⟨cs, fuel, p, hc, h⟩ := h.read g4 t4
 obtain ⟨hl, hcl, m, hel⟩ := read_array Tryz.underlying187 h
 intro i hi
 have hz : i < zs.length := by omega
 obtain ⟨q, hq⟩ := hel i _ (map_at_of rfl i hz)
 rw [z186] at hq
 obtain ⟨v0, v1, m', q0, q1, e, r0, r1⟩ := read_pair Tryz.underlying186 rfl rfl z186 z5 z5 hq
 obtain ⟨a0, a1⟩ := two_of_drop e
 rw [hc, hc, show 2 * i = i * 2 by omega, a0, a1, read_int Tryz.underlying5 r0, read_int Tryz.underlying5 r1, List.getD_eq_getElem?_getD, List.getElem?_eq_getElem hz]
 exact ⟨rfl, rfl⟩

theorem tab_pow {W : World} (h : LaidOne W "internal/strconv.pow10Tab" Go.Pinned.pow10Tab) (hz : Go.Pinned.pow10Rows.length = 696) :
  ∀ i, i < 696 → W.cell? ⟨15, i * 2, none⟩ = some (.int .u64 ((Go.Pinned.pow10Rows.getD i (0, 0)).1 : Nat)) ∧ W.cell? ⟨15, i * 2 + 1, none⟩ = some (.int .u64 ((Go.Pinned.pow10Rows.getD i (0, 0)).2 : Nat)) := by
 obtain ⟨cs, fuel, p, hc, h⟩ := h.read g15 t15
 obtain ⟨hl, hcl, m, hel⟩ := read_array Tryz.underlying291 h
 intro i hi
 have hz : i < Go.Pinned.pow10Rows.length := by omega
 obtain ⟨q, hq⟩ := hel i _ (map_at_of rfl i hz)
 rw [z290] at hq
 obtain ⟨v0, v1, m', q0, q1, e, r0, r1⟩ := read_pair Tryz.underlying290 rfl rfl z290 z198 z198 hq
 obtain ⟨a0, a1⟩ := two_of_drop e
 rw [hc, hc, a0, a1, read_int Tryz.underlying198 r0, read_int Tryz.underlying198 r1, List.getD_eq_getElem?_getD, List.getElem?_eq_getElem hz]
 exact ⟨rfl, rfl⟩

theorem tab_cheat {W : World} (h : LaidOne W "internal/strconv.leftcheats" Go.Pinned.leftcheats) (hz : Go.Pinned.cheatRows.length = 61) :
  ∃ B o cap, W.cell? ⟨16, 0, none⟩ = some (.slice (some ⟨B, o, none⟩) 61 cap) ∧ 61 ≤ cap ∧ B < W.heap.size ∧
   ∀ i, i < 61 → W.cell? ⟨B, o + i * 2, none⟩ = some (.int .i64 ((Go.Pinned.cheatRows.getD i (0, [])).1 : Nat)) ∧ W.cell? ⟨B, o + i * 2 + 1, none⟩ = some (.string ⟨(Go.Pinned.cheatRows.getD i (0, [])).2.toArray⟩) := by
 obtain ⟨cs, fuel, p, hc, h⟩ := h.read g16 t16
 obtain ⟨B, o, cap, rfl, hcap, hB, m, hel⟩ := read_slice (by rw [z301]; omega) (by intro e; have := congrArg List.length e; rw [List.length_map, hz] at this; simp at this) Tryz.underlying302 h
 rw [List.length_map, hz] at hcap hc
 refine ⟨B, o, cap, hc 0, hcap, hB, fun i hi => ?_⟩
 have hz : i < Go.Pinned.cheatRows.length := by omega
 obtain ⟨q, cs', l', c', hq⟩ := hel i _ (map_at_of rfl i hz)
 rw [z301] at c'
 obtain ⟨v0, v1, m', q0, q1, e, r0, r1⟩ := read_pair Tryz.underlying301 rfl rfl z301 z3 z9 hq
 subst e
 have a0 := c' 0 (by omega)
 have a1 := c' 1 (by omega)
 rw [Nat.add_zero] at a0
 rw [a0, a1, read_int Tryz.underlying3 r0, read_string Tryz.underlying9 r1, List.getD_eq_getElem?_getD, List.getElem?_eq_getElem hz]
 exact ⟨rfl, rfl⟩

theorem tab_orbit {W : World} {zs : List (Nat × Nat)} {D : DataW Unit} (h : LaidOne W "unicode.caseOrbit" D) (hD : D = .slice (zs.map fun (z : Nat × Nat) => .agg [.lit (.int .u16 (z.1 : Nat)), .lit (.int .u16 (z.2 : Nat))]) []) (hz : zs.length = 94) :
  ∃ B o cap, W.cell? ⟨1, 0, none⟩ = some (.slice (some ⟨B, o, none⟩) 94 cap) ∧ 94 ≤ cap ∧ B < W.heap.size ∧
   ∀ i, i < 94 → W.cell? ⟨B, o + i * 2, none⟩ = some (.int .u16 ((zs.getD i (0, 0)).1 : Nat)) ∧ W.cell? ⟨B, o + i * 2 + 1, none⟩ = some (.int .u16 ((zs.getD i (0, 0)).2 : Nat)) := by
 subst hD
 obtain ⟨cs, fuel, p, hc, h⟩ := h.read g1 t1
 obtain ⟨B, o, cap, rfl, hcap, hB, m, hel⟩ := read_slice (by rw [z156]; omega) (by intro e; have := congrArg List.length e; rw [List.length_map, hz] at this; simp at this) Tryz.underlying153 h
 rw [List.length_map, hz] at hcap hc
 refine ⟨B, o, cap, hc 0, hcap, hB, fun i hi => ?_⟩
 have hz : i < zs.length := by omega
 obtain ⟨q, cs', l', c', hq⟩ := hel i _ (map_at_of rfl i hz)
 rw [z156] at c'
 obtain ⟨v0, v1, m', q0, q1, e, r0, r1⟩ := read_pair Tryz.underlying156 rfl rfl z156 z151 z151 hq
 subst e
 have a0 := c' 0 (by omega)
 have a1 := c' 1 (by omega)
 rw [Nat.add_zero] at a0
 rw [a0, a1, read_int Tryz.underlying151 r0, read_int Tryz.underlying151 r1, List.getD_eq_getElem?_getD, List.getElem?_eq_getElem hz]
 exact ⟨rfl, rfl⟩

theorem tab_powtab {W : World} {zs : List Nat} {D : DataW Unit} (h : LaidOne W "internal/strconv.powtab" D) (hD : D = .slice (zs.map fun (z : Nat) => .lit (.int .i64 (z : Nat))) []) (hz : zs.length = 9) :
  ∃ B o cap, W.cell? ⟨13, 0, none⟩ = some (.slice (some ⟨B, o, none⟩) 9 cap) ∧ 9 ≤ cap ∧ B < W.heap.size ∧ ∀ i, i < 9 → W.cell? ⟨B, o + i, none⟩ = some (.int .i64 (zs.getD i 0 : Nat)) := by
 subst hD
 obtain ⟨cs, fuel, p, hc, h⟩ := h.read g13 t13
 obtain ⟨B, o, cap, rfl, hcap, hB, m, hel⟩ := read_slice (by rw [z3]; omega) (by intro e; have := congrArg List.length e; rw [List.length_map, hz] at this; simp at this) Tryz.underlying23 h
 rw [List.length_map, hz] at hcap hc
 refine ⟨B, o, cap, hc 0, hcap, hB, fun i hi => ?_⟩
 have hz : i < zs.length := by omega
 obtain ⟨q, cs', l', c', hq⟩ := hel i _ (map_at_of rfl i hz)
 rw [z3] at l' c'
 match cs', l' with
 | [v], _ =>
  have a0 := c' 0 (by omega)
  rw [Nat.add_zero, Nat.mul_one] at a0
  rw [a0, read_int Tryz.underlying3 hq, List.getD_eq_getElem?_getD, List.getElem?_eq_getElem hz]
  rfl

theorem tab_tens {W : World} {zs : List Nat} {D : DataW Unit} (h : LaidOne W "internal/strconv.float64pow10" D) (hD : D = .slice (zs.map fun (z : Nat) => .lit (.float .f64 z)) []) (hz : zs.length = 23) :
  ∃ B o cap, W.cell? ⟨14, 0, none⟩ = some (.slice (some ⟨B, o, none⟩) 23 cap) ∧ 23 ≤ cap ∧ B < W.heap.size ∧ ∀ i, i < 23 → W.cell? ⟨B, o + i, none⟩ = some (.float .f64 (zs.getD i 0)) := by
 subst hD
 obtain ⟨cs, fuel, p, hc, h⟩ := h.read g14 t14
 obtain ⟨B, o, cap, rfl, hcap, hB, m, hel⟩ := read_slice (by rw [z105]; omega) (by intro e; have := congrArg List.length e; rw [List.length_map, hz] at this; simp at this) Tryz.underlying285 h
 rw [List.length_map, hz] at hcap hc
 refine ⟨B, o, cap, hc 0, hcap, hB, fun i hi => ?_⟩
 have hz : i < zs.length := by omega
 obtain ⟨q, cs', l', c', hq⟩ := hel i _ (map_at_of rfl i hz)
 rw [z105] at l' c'
 match cs', l' with
 | [v], _ =>
  have a0 := c' 0 (by omega)
  rw [Nat.add_zero, Nat.mul_one] at a0
  rw [a0, read_float Tryz.underlying105 hq, List.getD_eq_getElem?_getD, List.getElem?_eq_getElem hz]
  rfl

theorem caseT_pinned : Go.Pinned.caseRows = Lib.caseT := by kernel_rfl

theorem tab_cases {W : World} (h : LaidOne W "unicode.CaseRanges" Go.Pinned.caseRanges) (hz : Go.Pinned.caseRows.length = 336) :
  ∃ B o cap, W.cell? ⟨2, 0, none⟩ = some (.slice (some ⟨B, o, none⟩) 336 cap) ∧ 336 ≤ cap ∧ B < W.heap.size ∧
   ∀ i (hi : i < Go.Pinned.caseRows.length), W.cell? ⟨B, o + i * 5, none⟩ = some (.int .u32 (Go.Pinned.caseRows[i].1 : Nat)) ∧ W.cell? ⟨B, o + i * 5 + 1, none⟩ = some (.int .u32 (Go.Pinned.caseRows[i].2.1 : Nat)) ∧
    W.cell? ⟨B, o + i * 5 + 2, none⟩ = some (.int .i32 Go.Pinned.caseRows[i].2.2.1) ∧ W.cell? ⟨B, o + i * 5 + 3, none⟩ = some (.int .i32 Go.Pinned.caseRows[i].2.2.2.1) ∧ W.cell? ⟨B, o + i * 5 + 4, none⟩ = some (.int .i32 Go.Pinned.caseRows[i].2.2.2.2) := by
 obtain ⟨cs, fuel, p, hc, h⟩ := h.read g2 t2
 obtain ⟨B, o, cap, rfl, hcap, hB, m, hel⟩ := read_slice (by rw [z192]; omega) (by intro e; have := congrArg List.length e; rw [List.length_map, hz] at this; simp at this) Tryz.underlying159 h
 rw [List.length_map, hz] at hcap hc
 refine ⟨B, o, cap, hc 0, hcap, hB, fun i hi => ?_⟩
 obtain ⟨q, cs', l', c', hq⟩ := hel i _ (map_at_of rfl i hi)
 rw [z192] at l' c'
 generalize Go.Pinned.caseRows[i] = x at *
 match cs', l' with
 | [v0, v1, v2, v3, v4], _ =>
  unfold Go.Pinned.caseRange at hq
  obtain ⟨xs, k, rfl, hx, _, hxl, hf⟩ := DataW.trod_struct Tryz.underlying192 hq
  simp only [Prod.mk.injEq, DataW.agg.injEq] at hx
  match xs, hx.1 with
  | [x0, x1, x2], hx1 =>
   simp only [List.map_cons, List.map_nil, List.cons.injEq, and_true] at hx1
   obtain ⟨e0, e1, e2⟩ := hx1
   have r0 := hf 0 _ rfl
   have r1 := hf 1 _ rfl
   have r2 := hf 2 _ rfl
   simp [z188, z190] at r0 r1 r2
   obtain ⟨x0, p0⟩ := x0
   obtain ⟨x1, p1⟩ := x1
   obtain ⟨x2, p2⟩ := x2
   dsimp only at e0 e1 e2
   subst e0 e1 e2
   have s0 := read_int Tryz.underlying188 r0
   have s1 := read_int Tryz.underlying188 r1
   obtain ⟨_, _, m2, hel2⟩ := read_array Tryz.underlying190 r2
   obtain ⟨w0, u0⟩ := hel2 0 _ rfl
   obtain ⟨w1, u1⟩ := hel2 1 _ rfl
   obtain ⟨w2, u2⟩ := hel2 2 _ rfl
   simp [z21] at u0 u1 u2
   have s2 := read_int Tryz.underlying21 u0
   have s3 := read_int Tryz.underlying21 u1
   have s4 := read_int Tryz.underlying21 u2
   have a0 := c' 0 (by omega)
   rw [Nat.add_zero] at a0
   rw [a0, c' 1 (by omega), c' 2 (by omega), c' 3 (by omega), c' 4 (by omega), s0, s1, s2, s3, s4]
   exact ⟨rfl, rfl, rfl, rfl, rfl⟩

end Go.Proofs.YtgolhmiocjpohaaGreatDoor
