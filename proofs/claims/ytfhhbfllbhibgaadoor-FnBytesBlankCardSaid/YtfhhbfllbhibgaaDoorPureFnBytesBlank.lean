/- FnBytesBlank, its pure statement: both ways of telling white space, and ends of lines, tell the same. For all bytes. -/
import Derived.Test.YtfhhbfllbhibgaaDoorAid
import Derived.Test.YtfhhbfllbhibgaaDoorPFnBytesBlankx0
import Derived.Test.YtfhhbfllbhibgaaDoorPFnBytesBlankx1
namespace Go.Proofs.YtfhhbfllbhibgaaDoor.Pure
open Go.RowKit Go.Proofs.YtfhhbfllbhibgaaDoor.PFnBytesBlank Go.Proofs.YtfhhbfllbhibgaaDoorW.PrintWords Go.Proofs.YtfhhbfllbhibgaaDoorW.PrintLast Go.Proofs.YtfhhbfllbhibgaaDoor.Aid
set_option linter.unusedVariables false
set_option linter.unusedSimpArgs false

def nlB (c : Int) : Bool := c == 10 || c == 13
def wsB (c : Int) : Bool := c == 32 || (c == 9 || (c == 12 || nlB c))
theorem specbreak_eq (c : Int) : spec_IsBreak.f c = some (nlB c) := by
  unfold spec_IsBreak.f nlB
  by_cases h : c = 10
  · simp [h]
  · simp [h]
theorem specblank_eq (c : Int) : spec_IsBlank.f c = some (wsB c) := by
  unfold spec_IsBlank.f wsB
  rw [specbreak_eq]
  by_cases h : c = 32
  · simp [h]
  · by_cases h2 : c = 9
    · simp [h2]
    · by_cases h3 : c = 12
      · simp [h3]
      · rw [if_neg h, if_neg h2, if_neg h3, beq_eq_false_iff_ne.mpr h, beq_eq_false_iff_ne.mpr h2, beq_eq_false_iff_ne.mpr h3]
        rfl

theorem isws_eq {c : Int} (h0 : 0 ≤ c) (h1 : c ≤ 255) : Own.tdparse_IsWhitespace.f c = some (wsB c) := by
  unfold Own.tdparse_IsWhitespace.f
  rw [if_pos ⟨h0, by omega⟩]
  congr 1
  obtain ⟨n, rfl⟩ := Int.eq_ofNat_of_zero_le h0
  rw [Bool.eq_iff_iff]
  unfold Own.isW wsB nlB
  simp
  omega


theorem isnl_eq {c : Int} (h0 : 0 ≤ c) (h1 : c ≤ 255) : Own.tdparse_IsNewline.f c = some (nlB c) := by
  unfold Own.tdparse_IsNewline.f
  rw [if_pos ⟨h0, by omega⟩]
  congr 1
  obtain ⟨n, rfl⟩ := Int.eq_ofNat_of_zero_le h0
  rw [Bool.eq_iff_iff]
  unfold Own.isN nlB
  simp
  omega

theorem FnBytesBlank : laws_FnBytesBlank.Pure := by
  intro c hc
  obtain ⟨h0, h1⟩ := u8_of hc
  unfold laws_FnBytesBlank.f impl_IsBlank.f impl_IsBreak.f
  rw [isws_eq h0 h1, isnl_eq h0 h1, specblank_eq, specbreak_eq]
  simp

end Go.Proofs.YtfhhbfllbhibgaaDoor.Pure
