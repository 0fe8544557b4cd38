import Derived.Test.YbulkhbaDSt
namespace Go.Proofs.Ybulkhba
open Go.Conc Go.RowKit
set_option linter.unusedVariables false
set_option linter.unusedSimpArgs false

/-! ### WHO IS SERVED: plain -/
/-- The slots taken once the first i have had their turn. -/
def infAt (sl inf0 : Int) (lf : Nat → Bool) : Nat → Int
  | 0 => inf0
  | i + 1 => if infAt sl inf0 lf i < sl then (if lf i then infAt sl inf0 lf i else infAt sl inf0 lf i + 1) else infAt sl inf0 lf i
/-- How many of the first i are kept. -/
def keptAt (sl inf0 : Int) (lf : Nat → Bool) : Nat → Nat
  | 0 => 0
  | i + 1 => if infAt sl inf0 lf i < sl then keptAt sl inf0 lf i else keptAt sl inf0 lf i + 1
section
variable {sl inf0 : Int} {lf : Nat → Bool}
theorem infAt_ge : ∀ i, inf0 ≤ infAt sl inf0 lf i
  | 0 => Int.le_refl _
  | i + 1 => by
    have h := infAt_ge i
    unfold infAt
    split
    · split <;> omega
    · exact h
theorem infAt_le {K : Int} (h0 : inf0 ≤ K) (h1 : sl ≤ K) : ∀ i, infAt sl inf0 lf i ≤ K
  | 0 => h0
  | i + 1 => by
    have h := infAt_le h0 h1 i
    unfold infAt
    split
    · split <;> omega
    · exact h
theorem infAt_back (i : Nat) (h : infAt sl inf0 lf (i + 1) < sl) : infAt sl inf0 lf i < sl := by
  unfold infAt at h
  split at h
  · assumption
  · exact h
theorem kept_zero : ∀ i, infAt sl inf0 lf i < sl → keptAt sl inf0 lf i = 0
  | 0, _ => rfl
  | i + 1, h => by
    have hb := infAt_back i h
    unfold keptAt
    rw [if_pos hb]
    exact kept_zero i hb
theorem kept_le : ∀ i, keptAt sl inf0 lf i ≤ i
  | 0 => Nat.le_refl _
  | i + 1 => by
    have h := kept_le i
    unfold keptAt
    split <;> omega
end
/-- Which of the first i were given the backend. -/
def gvAt (sl inf0 : Int) (lf : Nat → Bool) (i : Nat) : Nat → Bool := fun j => decide (j < i) && decide (infAt sl inf0 lf j < sl) && !lf j
theorem gvAt_zero (sl inf0 : Int) (lf : Nat → Bool) : gvAt sl inf0 lf 0 = fun _ => false := by
  funext j
  simp [gvAt]
theorem gvAt_kept {sl inf0 : Int} {lf : Nat → Bool} {i : Nat} (h : ¬ infAt sl inf0 lf i < sl) : gvAt sl inf0 lf (i + 1) = gvAt sl inf0 lf i := by
  funext j
  unfold gvAt
  by_cases e : j = i
  · subst e; simp [h]
  · have : (j < i + 1) ↔ (j < i) := by omega
    simp [this]
theorem gvAt_other {sl inf0 : Int} {lf : Nat → Bool} {i j : Nat} (h : j ≠ i) : gvAt sl inf0 lf (i + 1) j = gvAt sl inf0 lf i j := by
  unfold gvAt
  have : (j < i + 1) ↔ (j < i) := by omega
  simp [this]
theorem gvAt_self {sl inf0 : Int} {lf : Nat → Bool} {i : Nat} (h : infAt sl inf0 lf i < sl) : gvAt sl inf0 lf (i + 1) i = !lf i := by simp [gvAt, h]
theorem gvAt_now {sl inf0 : Int} {lf : Nat → Bool} {i : Nat} : gvAt sl inf0 lf i i = false := by simp [gvAt]
def Cst.rl (c : Cst) : Nat → Bool := fun i => ((c.RW[i]?).map Wt.left).getD false
def Cst.llf (c : Cst) : Nat → Bool := fun i => ((c.LW[i]?).map Wt.left).getD false
section
variable {w0 W W' : World} {c : Cst} {mu : Int} {retr : Value} {inf try_ : Int} {k nw : Nat} {Fw : Int → Option Nat} {Fq : Fin 3 → Option Int} {rg lg : Nat → Bool}
/-- What next reads of it. -/
theorem DS.nin (h : DS w0 W c mu retr inf try_ k Fw nw Fq rg lg) : NIn W c.S c.C c.Qn c.Mw c.Mq c.Bb c.bcap c.B mu retr c.wl c.ex2 c.sl inf try_ true := by
  obtain ⟨cs, r1, r2⟩ := h.rb
  exact ⟨h.rS, (r1.cell 0).trans r2, r1.lt, h.rB⟩
theorem nodup_at {l : List Wt} {f : Wt → Nat} (hn : (l.map f).Nodup) {i j : Nat} (hi : i < l.length) (hj : j < l.length) (h : f l[i] = f l[j]) : i = j := by
  have h1 : (l.map f)[i]'(by simpa using hi) = (l.map f)[j]'(by simpa using hj) := by simpa using h
  exact (List.getElem_inj hn).1 h1
/-- One of the retrying was given its turn. -/
theorem DS.gaveR {inf' tr' : Int} {rg' : Nat → Bool} {i : Nat} (h : DS w0 W c mu retr inf try_ k Fw nw Fq rg lg) (ok : CstOk w0 c) (hi : i < c.RW.length) (ho : Only [c.B, c.RW[i].b, c.RW[i].c] W W') (hB : Row W' c.B 39 (bkRow c.sl inf' tr' c.wl c.ex2 true 2)) (hw : WtIs W' c.B c.RW[i] (rg' i)) (hrg : ∀ j, j ≠ i → rg' j = rg j) :
    DS w0 W' c mu retr inf' tr' k Fw nw Fq rg' lg := by
  refine h.gave ok (t := c.RW[i]) (by simp) ⟨_, h.rws i hi⟩ ho hB ?_ ?_
  · intro j hj
    by_cases e : j = i
    · subst e
      exact ⟨fun _ => hw, fun hne => absurd rfl hne⟩
    · refine ⟨fun hb => ?_, fun _ => ⟨hrg j e, fun hc => ?_⟩⟩
      · have := nodup_at (l := c.RW) (f := Wt.b) (by have := ok.nb; rw [List.map_append] at this; exact (List.nodup_append.1 this).1) hj hi hb
        exact absurd this e
      · have := nodup_at (l := c.RW) (f := Wt.c) (by have := ok.nc; rw [List.map_append] at this; exact (List.nodup_append.1 this).1) hj hi hc
        exact absurd this e
  · intro j hj
    have nb := ok.nb
    have nc := ok.nc
    rw [List.map_append] at nb nc
    have h1 := (List.nodup_append.1 nb).2.2 c.RW[i].b (List.mem_map_of_mem (List.getElem_mem _)) c.LW[j].b (List.mem_map_of_mem (List.getElem_mem _))
    have h2 := (List.nodup_append.1 nc).2.2 c.RW[i].c (List.mem_map_of_mem (List.getElem_mem _)) c.LW[j].c (List.mem_map_of_mem (List.getElem_mem _))
    exact ⟨fun e => absurd e.symm h1, fun _ => ⟨rfl, fun e => h2 e.symm⟩⟩
theorem DS.gaveL {inf' tr' : Int} {lg' : Nat → Bool} {i : Nat} (h : DS w0 W c mu retr inf try_ k Fw nw Fq rg lg) (ok : CstOk w0 c) (hi : i < c.LW.length) (ho : Only [c.B, c.LW[i].b, c.LW[i].c] W W') (hB : Row W' c.B 39 (bkRow c.sl inf' tr' c.wl c.ex2 true 2)) (hw : WtIs W' c.B c.LW[i] (lg' i)) (hrg : ∀ j, j ≠ i → lg' j = lg j) :
    DS w0 W' c mu retr inf' tr' k Fw nw Fq rg lg' := by
  refine h.gave ok (t := c.LW[i]) (by simp) ⟨_, h.lws i hi⟩ ho hB ?_ ?_
  · intro j hj
    have nb := ok.nb
    have nc := ok.nc
    rw [List.map_append] at nb nc
    have h1 := (List.nodup_append.1 nb).2.2 c.RW[j].b (List.mem_map_of_mem (List.getElem_mem _)) c.LW[i].b (List.mem_map_of_mem (List.getElem_mem _))
    have h2 := (List.nodup_append.1 nc).2.2 c.RW[j].c (List.mem_map_of_mem (List.getElem_mem _)) c.LW[i].c (List.mem_map_of_mem (List.getElem_mem _))
    exact ⟨fun e => absurd e h1, fun _ => ⟨rfl, fun e => h2 e⟩⟩
  · intro j hj
    by_cases e : j = i
    · subst e
      exact ⟨fun _ => hw, fun hne => absurd rfl hne⟩
    · refine ⟨fun hb => ?_, fun _ => ⟨hrg j e, fun hc => ?_⟩⟩
      · have := nodup_at (l := c.LW) (f := Wt.b) (by have := ok.nb; rw [List.map_append] at this; exact (List.nodup_append.1 this).2.1) hj hi hb
        exact absurd this e
      · have := nodup_at (l := c.LW) (f := Wt.c) (by have := ok.nc; rw [List.map_append] at this; exact (List.nodup_append.1 this).2.1) hj hi hc
        exact absurd this e
end
end Go.Proofs.Ybulkhba
