import Derived.Test.YbulkhbaSkip
namespace Go.Proofs.Ybulkhba
open Go.RowKit
set_option linter.unusedVariables false
set_option linter.unusedSimpArgs false

/-- The request that goes first, as a function. -/
def oFront (H A : List Arr) : Arr := if fromTail H A then A.headD zArr else H.headD zArr
theorem oFront_is {H A : List Arr} (h : H ++ A ≠ []) : OFront H A (oFront H A) := by
  obtain ⟨x, hx⟩ := ofront_ex h
  have e : oFront H A = x := by
    unfold oFront
    rcases hx with ⟨hf, A', rfl⟩ | ⟨hf, H', rfl⟩
    · simp [hf]
    · simp [hf]
  rw [e]; exact hx
theorem oFront_mem {H A : List Arr} (h : H ++ A ≠ []) : oFront H A ∈ H ++ A := by
  have hx := oFront_is h
  generalize oFront H A = x at hx
  rcases hx with ⟨_, A', e⟩ | ⟨_, H', e⟩
  · rw [e]; simp
  · rw [e]; simp
def TG.fr (t : TG) : Arr := oFront t.H t.A
def TG.c (t : TG) : Int := t.fr.r.tk
/-- What of a tenant no idle turn touches. -/
def TG.core (t : TG) : TG := { t with d := 0 }
/-- What every tenant is, its deficit at most D. -/
structure TOk (D : Int) (t : TG) : Prop where
  ne : t.H ++ t.A ≠ []
  lH : t.H.length ≤ 5000
  lA : t.A.length ≤ 5000
  tk : ∀ a ∈ t.H ++ t.A, 0 ≤ a.r.tk ∧ a.r.tk ≤ 255
  q0 : 1 ≤ t.q
  q1 : t.q ≤ 8
  d0 : 0 ≤ t.d
  d1 : t.d ≤ D
theorem TOk.mono {D D' : Int} {t : TG} (h : TOk D t) (hD : D ≤ D') : TOk D' t := ⟨h.ne, h.lH, h.lA, h.tk, h.q0, h.q1, h.d0, Int.le_trans h.d1 hD⟩
theorem TOk.c {D : Int} {t : TG} (h : TOk D t) : 0 ≤ t.c ∧ t.c ≤ 255 := h.tk _ (oFront_mem h.ne)
theorem TOk.setD {D D' : Int} {t : TG} (h : TOk D t) (d : Int) (h0 : 0 ≤ d) (h1 : d ≤ D') : TOk D' { t with d := d } := ⟨h.ne, h.lH, h.lA, h.tk, h.q0, h.q1, h0, h1⟩
/-- The queue's standing word. -/
def GI (it : Bool) (rot : List TG) : Prop :=
  rot.length ≤ 900 ∧ match rot with
  | [] => it = false
  | t :: ts => (∀ s ∈ ts, TOk 255 s) ∧ (it = true → TOk 263 t ∧ t.c ≤ t.d) ∧ (it = false → TOk 255 t)
theorem GI.all {rot : List TG} (h : GI false rot) : ∀ t ∈ rot, TOk 255 t := by
  cases rot with
  | nil => simp
  | cons t ts =>
    intro s hs
    rcases List.mem_cons.1 hs with rfl | hs
    · exact h.2.2.2 rfl
    · exact h.2.1 s hs
theorem GI.of_all {rot : List TG} (hl : rot.length ≤ 900) (h : ∀ t ∈ rot, TOk 255 t) : GI false rot := by
  refine ⟨hl, ?_⟩
  cases rot with
  | nil => rfl
  | cons t ts => exact ⟨fun s hs => h s (by simp [hs]), ⟨fun e => absurd e (by simp), fun _ => h t (by simp)⟩⟩

/-! ### THE MEASURE: how far the heads are from what they cost -/
def gap (t : TG) : Nat := (t.c - t.d).toNat
def gaps (rot : List TG) : Nat := (rot.map gap).sum
theorem gaps_cons (t : TG) (ts : List TG) : gaps (t :: ts) = gap t + gaps ts := by simp [gaps]
theorem gaps_snoc (t : TG) (ts : List TG) : gaps (ts ++ [t]) = gap t + gaps ts := by simp [gaps]; omega
theorem add_c (k : Int) (t : TG) : (t.add k).c = t.c := rfl
theorem gap_add {k : Int} (hk : 0 ≤ k) {t : TG} (hq : 0 ≤ t.q) : gap (t.add k) ≤ gap t := by
  have : 0 ≤ k * t.q := Int.mul_nonneg hk hq
  unfold gap
  rw [add_c]
  show (t.c - (t.d + k * t.q)).toNat ≤ _
  omega
theorem gaps_add {k : Int} (hk : 0 ≤ k) : ∀ rot : List TG, (∀ t ∈ rot, 0 ≤ t.q) → gaps (rot.map (TG.add k)) ≤ gaps rot
  | [], _ => by simp [gaps]
  | t :: ts, h => by
    rw [List.map_cons, gaps_cons, gaps_cons]
    have h1 := gap_add hk (h t (by simp))
    have h2 := gaps_add hk ts (fun s hs => h s (by simp [hs]))
    omega
/-- An idle turn brings a head nearer. -/
theorem gap_turn {t : TG} {d : Int} (hq : t.d + 1 ≤ d) (hc : d < t.c) : gap { t with d := d } < gap t := by
  unfold gap
  show (t.c - d).toNat < _
  omega
theorem core_add (k : Int) (rot : List TG) : (rot.map (TG.add k)).map TG.core = rot.map TG.core := by simp [TG.core, TG.add, Function.comp_def]
theorem perm_turn (t : TG) (d : Int) (ts : List TG) : ((ts ++ [{ t with d := d }]).map TG.core).Perm ((t :: ts).map TG.core) := by
  rw [List.map_append, List.map_cons, List.map_nil, List.map_cons]
  exact List.perm_append_singleton _ _
end Go.Proofs.Ybulkhba
