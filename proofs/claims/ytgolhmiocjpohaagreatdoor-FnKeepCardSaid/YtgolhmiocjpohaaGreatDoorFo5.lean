/- strings.ToLower at every text, and what the comparisons rest on (LibC) where the variables lie as laid. No condition beyond that. -/
import Derived.Shelf.Strings.CaseAny
import Derived.Test.YtgolhmiocjpohaaGreatDoorFo4
import Derived.Test.YtgolhmiocjpohaaGreatDoorLay0
import Derived.Test.YtgolhmiocjpohaaGreatDoorPf1
import Derived.Test.YtgolhmiocjpohaaGreatDoorNt1
set_option linter.unusedVariables false
set_option linter.unusedSimpArgs false
namespace Go.Proofs.YtgolhmiocjpohaaGreatDoor
open Go.RowKit Go.Lib Go.PlainAid

def lowD (s : ByteArray) : ByteArray := ⟨(Lib.toLowerD s.data.toList).toArray⟩

theorem encode_len (r : Int) : (Lib.encodeRune r).length ≤ 4 := by
 unfold Lib.encodeRune Lib.encodeRuneZ
 rw [List.length_map]
 repeat' split
 all_goals simp

theorem mapGo_len (f : Int → Int) : ∀ (n : Nat) (l : List UInt8), (Lib.mapGoD f n l).length ≤ 4 * n
 | 0, l => by unfold Lib.mapGoD; simp
 | n + 1, l => by
  unfold Lib.mapGoD
  split
  ·simp
  ·rw [List.length_append]
   have h1 := mapGo_len f n (l.drop (Lib.decodeL l).2)
   split
   ·have := encode_len (f (Lib.decodeL l).1); omega
   ·simp only [List.length_nil]; omega

theorem lowD_size (s : ByteArray) (h : s.size ≤ 400) : (lowD s).size ≤ 2147483647 := by
 have h1 := mapGo_len Lib.toLowerU s.data.toList.length s.data.toList
 have h2 : s.data.toList.length = s.size := (Lib.size_eq s).symm
 have h3 : (lowD s).size = (Lib.mapGoD Lib.toLowerU s.data.toList.length s.data.toList).length := by
  unfold lowD Lib.toLowerD Lib.mapD
  rw [Lib.size_eq]
 rw [h3]
 omega

theorem lowAnyT (T : Array CaseRow) (hT : T = caseA) (s : ByteArray) (w : World) (hs : s.size < 35184372088832) (hV : CaseVar 2 T w) (hU : Lib.Utf8Tabs 3 4 w) :
  Calls Tryz.prog 40 #[.string s] w (TextOut (lowD s) w) := by
 subst hT
 exact Any.strings_ToLower_any Tryz.lays159 Tryz.Builder_Extra_159 s w hs hV hU

theorem CaseEnv.low {B : Nat} {w : World} (h : CaseEnv B w) (s : ByteArray) (hs : s.size ≤ 400) : Calls Tryz.prog 40 #[.string s] w (TextOut (lowD s) w) := by
 obtain ⟨R2, oR2, cap2, _, q2, q3⟩ := h.cases
 exact lowAnyT caseA rfl s w (by omega) ⟨R2, oR2, cap2, q2, q3⟩ h.utf

/-- All that the walks read of variables. -/
structure EnvK (B : Nat) (w : World) : Prop where
 env : Env B w
 cases : CaseEnv B w

theorem EnvK.below {B : Nat} {w w' : World} (h : EnvK B w) (hb : Below B w w') : EnvK B w' := ⟨h.env.below hb, h.cases.below hb⟩

theorem libC (B : Nat) : LibC B (EnvK B) lowD eqfB where
 stable h hb := h.below hb
 base h := h.cases.size
 lowC s w hs h := h.cases.low s hs
 lowSize s hs := lowD_size s hs
 eqfC s t w hs ht h := std_equalFold s t w B (by omega) (by omega) h.cases
 stdC s w hs h := std_float s w B hs h.env

end Go.Proofs.YtgolhmiocjpohaaGreatDoor
