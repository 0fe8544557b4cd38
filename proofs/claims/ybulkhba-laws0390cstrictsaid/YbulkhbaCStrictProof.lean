import Derived.Test.YbulkhbaC
import Derived.Test.YbulkhbaCRow
namespace Go.Proofs.Ybulkhba

theorem lawS0390CStrict_over : Rows.lawS0390CStrictRow.holds Yba.pinned (OpenSpec.ofChange Rows.lawS0390CStrictSpec) :=
  OpenClaim.holds_of_wide 9 Yba.f9 rfl rfl rfl rfl rfl rfl rfl ⟨rfl, rfl, rfl, rfl, rfl⟩ rfl rfl rfl rfl rfl (by kernel_rfl) Yba.func9 (by kernel_rfl)
    (of_decide_eq_true (by kernel_rfl)) (by unfold Func.isWrapper; first | (rw [if_pos (by decide +kernel)]; kernel_rfl) | (rw [if_neg (by decide +kernel)]; exact ⟨rfl, rfl⟩))
    (fun os started H enc _ => strict_lifted strict_any os started H enc)

/-- THE STATEMENT. -/
theorem lawS0390CStrict_proved : Rows.LawS0390CStrictSaid := lawS0390CStrict_over
#print axioms lawS0390CStrict_proved
end Go.Proofs.Ybulkhba
