import Derived.Test.YbulkhbaC2
import Derived.Test.YbulkhbaCRow
namespace Go.Proofs.Ybulkhba

theorem lawS0390CModel_over : Rows.lawS0390CModelRow.holds Yba.pinned (OpenSpec.ofChange Rows.lawS0390CModelSpec) :=
  OpenClaim.holds_of_wide 8 Yba.f8 rfl rfl rfl rfl rfl rfl rfl ⟨rfl, rfl, rfl, rfl, rfl⟩ rfl rfl rfl rfl rfl (by kernel_rfl) Yba.func8 (by kernel_rfl)
    (of_decide_eq_true (by kernel_rfl)) (by unfold Func.isWrapper; first | (rw [if_pos (by decide +kernel)]; kernel_rfl) | (rw [if_neg (by decide +kernel)]; exact ⟨rfl, rfl⟩))
    (fun os started H enc _ => model_lifted model_any os started H enc)

/-- THE STATEMENT. -/
theorem lawS0390CModel_proved : Rows.LawS0390CModelSaid := lawS0390CModel_over
#print axioms lawS0390CModel_proved
end Go.Proofs.Ybulkhba
