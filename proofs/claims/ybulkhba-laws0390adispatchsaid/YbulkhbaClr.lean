import Derived.Test.YbulkhbaOwn
import Derived.Laws.CopyRow
namespace Go.Proofs.Ybulkhba
open Go.RowKit
set_option linter.unusedVariables false
set_option linter.unusedSimpArgs false

theorem row_setRow {w : World} {g : Nat} {ty : TypeId} {cur cs : Array Value} (hr : Row w g ty cur) : Row (w.setRow g cs) g ty cs ∧ Only [g] w (w.setRow g cs) := by
  have hlt := hr.lt
  have hg : w.heap[g]? = some (.cells cur ty (0, 0)) := hr
  have hg' : w.heap[g] = .cells cur ty (0, 0) := by
    have := Array.getElem?_eq_some_iff.1 hg
    exact this.2
  refine ⟨?_, rfl, rfl, rfl, by simp [World.setRow], fun k hk hn => ?_⟩
  · show (w.setRow g cs).heap[g]? = _
    simp only [World.setRow]
    rw [Array.getElem?_modify, if_pos rfl, hg]
    rfl
  · simp only [List.mem_singleton] at hn
    have : g ≠ k := fun e => hn e.symm
    simp [World.setRow, Array.getElem?_modify, this]
theorem zero75 (w : World) : (zeroValue 75).run Yba.prog w = .ok (.pointer none) w := by kernel_rfl
/-- clear, on a part of a row. -/
theorem clear_row {w : World} {g o m c : Nat} {cur : Array Value} (hr : Row w g 75 cur) (hm : o + m ≤ cur.size) (ty : TypeId) :
    ∃ w', (Builtin.clear_ #[65] ty #[.slice (some ⟨g, o, none⟩) m c]).run Yba.prog w = .ok (.tuple #[]) w' ∧ Only [g] w w' ∧ ∃ cur', Row w' g 75 cur' ∧ cur'.size = cur.size ∧ ∀ j, j < o → cur'[j]? = cur[j]? := by
  cases m with
  | zero => exact ⟨w, by simp [Builtin.clear_, run_underlying Yba.underlying65], Only.refl _ _, cur, hr, rfl, fun _ _ => rfl⟩
  | succ m =>
    have hz : (Builtin.zeroCells (Value.pointer none).cells (m + 1)).toList.length = m + 1 := by simp [Builtin.zeroCells, Value.cells]
    have h1 := run_storeCells_at (P := Yba.prog) g o 75 (Builtin.zeroCells (Value.pointer none).cells (m + 1)).toList 0 cur w hr (by rw [hz]; omega) (by
      intro v hv
      simp [Builtin.zeroCells, Value.cells] at hv
      obtain ⟨q, _, rfl⟩ := hv
      rw [Nat.mod_one]
      rfl)
    obtain ⟨r2, o2⟩ := row_setRow (cs := (cur.toList.take (o + 0) ++ (Builtin.zeroCells (Value.pointer none).cells (m + 1)).toList ++ cur.toList.drop (o + 0 + (Builtin.zeroCells (Value.pointer none).cells (m + 1)).toList.length)).toArray) hr
    refine ⟨_, ?_, o2, _, r2, ?_, ?_⟩
    · simp [Builtin.clear_, run_underlying Yba.underlying65, zero75, h1]
    · rw [hz]
      simp [Builtin.zeroCells, Value.cells]
      omega
    · intro j hj
      rw [List.getElem?_toArray, List.append_assoc, List.getElem?_append_left (by simp; omega), List.getElem?_take_of_lt (by omega), Array.getElem?_toList]
end Go.Proofs.Ybulkhba
