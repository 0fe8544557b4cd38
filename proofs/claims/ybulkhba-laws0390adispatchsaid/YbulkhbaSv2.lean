import Derived.Test.YbulkhbaSv
import Derived.Test.YbulkhbaPlain2
namespace Go.Proofs.Ybulkhba
open Go.RowKit
open Go.MuLone
set_option linter.unusedVariables false
set_option linter.unusedSimpArgs false

theorem Yba.info31 : (Yba.prog.info? 31).map (fun i => (i.zero, i.size, i.bytes)) = some (some (.int .i64 0), 1, 8) := by kernel_rfl
/-- The log of the clock: none, or one. -/
def LogIs (w : World) (lg : Value) (d : Int) : Prop := ∃ g cap cs, lg = .slice (some ⟨g, 0, none⟩) 1 cap ∧ 1 ≤ cap ∧ Row w g 31 cs ∧ cs[0]? = some (.int .i64 d)
theorem LogIs.only {S : List Nat} {w w' : World} {lg : Value} {d : Int} (h : LogIs w lg d) (ho : Only S w w') (hS : ∀ k ∈ S, ∀ cs, ¬ Row w k 31 cs) : LogIs w' lg d := by
  obtain ⟨g, cap, cs, h1, h2, h3, h4⟩ := h
  exact ⟨g, cap, cs, h1, h2, h3.only ho (fun hk => hS g hk cs h3), h4⟩
set_option maxRecDepth 100000 in
set_option maxHeartbeats 800000 in
/-- (*zzs0390aclock).AfterFunc, the first. -/
theorem after_any (C : Nat) (wl ex d : Int) (f : Value) (w : World) (r : Row w C 43 (clkRow wl ex (.slice none 0 0))) :
    Calls Yba.prog 118 #[.pointer (some ⟨C, 0, none⟩), .int .i64 d, f] w fun e w' => e = .returned (.tuple #[]) ∧ Only [C] w w' ∧ ∃ lg, Row w' C 43 (clkRow wl ex lg) ∧ LogIs w' lg d ∧ ∀ k, lg.ownBlock = some k → w.heap.size ≤ k := by
  obtain ⟨i3, hi3, hz3, hs3, hb3⟩ := info_parts Yba.info31
  have c3 := r.cell 3
  have f3 := r.frozen 3
  simp at c3
  have hl := r.lt
  have R := Hid.mk r
  clear r
  go_enter Yba.func118, Yba.ntmps118
  go_wp2_with (at_builtin; refine wpList_append_own2 rfl (.tmp 10) (.tmp 12) 41 rfl 31 i3 (.int .i64 0) 1 8 Yba.underlying41 hi3 hz3 hs3 hb3 rfl (by decide) _ 0 [] rfl ?c0 _ 1 1 [.int .i64 d] rfl rfl ?c1 ?c2 (by decide) ?c3 ?c4 ?_)
  case c0 => exact World.ownsRow_nil _ _ _ _
  case c1 => exact one_new (by simp)
  case c2 => exact ints_one
  case c3 => unfold maxLen; omega
  case c4 => exact .inr (by omega)
  intro v' w' hown hgr hnew
  obtain ⟨g, cap, hv⟩ := owns_shape hown (by omega)
  subst hv
  have hcap := owns_cap hown
  have hcell : w'.cell? ⟨g, 0, none⟩ = some (.int .i64 d) := by
    have h := World.ownsRow.cells hown rfl 0 _ rfl
    simpa [Addr.add] using h
  have hrow : ∃ cs, Row w' g 31 cs := by
    rcases hown.2 with ⟨e, _⟩ | ⟨g', cap', cur, e, _, hg, _⟩
    · simp at e
    · simp at e; obtain ⟨rfl, _⟩ := e; exact ⟨cur, hg⟩
  obtain ⟨cs, hrow⟩ := hrow
  have hcs : cs[0]? = some (.int .i64 d) := by rw [← hrow.cell]; exact hcell
  have ho : Only [] w w' := ((Only.refl [] w).alloc _).trans (Only.ofGrown hgr (by intro j hj; simp [Value.ownBlock] at hj))
  have rC := R.out.only ho (by simp)
  have hgn : w.heap.size ≤ g := by
    rcases hnew with e | e
    · simp [Value.ownBlock] at e
    · simp [Value.ownBlock] at e; omega
  have c3' := rC.cell 3
  have f3' := rC.frozen 3
  simp at c3'
  have F := Hid.mk (And.intro hcap (And.intro (And.intro hrow hcs) (And.intro ho (And.intro rC hgn))))
  clear hown hgr hnew hcap hcell ho rC hgn c3 f3 hrow hcs
  go_wp2
  go_end0
  obtain ⟨hcap, ⟨hrow, hcs⟩, ho, rC, hgn⟩ := F.out
  refine ⟨rfl, (ho.mono (by simp)).setCell (by simp) _, .slice (some ⟨g, 0, none⟩) 1 cap, by simpa using rC.set 3 _, ⟨g, cap, cs, rfl, hcap, hrow.setOther (hrow.ne rC (by decide)) _ _, hcs⟩, ?_⟩
  · intro k hk
    simp [Value.ownBlock] at hk
    omega
end Go.Proofs.Ybulkhba
