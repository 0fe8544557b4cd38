import Derived.Test.YbulkhbaMap
namespace Go.Proofs.Ybulkhba
open Go.RowKit
set_option linter.unusedVariables false
set_option linter.unusedSimpArgs false

theorem LineP.ne {w : World} {rv : Value} {rh b : Nat} {ps : List Value} {t : TypeId} {cs : Array Value} (h : LineP w rv rh ps) (r : Row w b t cs) (ht : t ≠ 132) : rv.ownBlock ≠ some b := by
  intro hb
  obtain ⟨_, _, _, _, _, _, _, hs⟩ := h.shape
  obtain ⟨_, _, cur, _, hg, _⟩ := hs b hb
  exact absurd rfl (hg.ne r (fun e => ht e.symm))
theorem LineA.ne {w : World} {iv : Value} {hd b : Nat} {A : List Arr} {t : TypeId} {cs : Array Value} (h : LineA w iv hd A) (r : Row w b t cs) (ht : t ≠ 117) : iv.ownBlock ≠ some b := by
  intro hb
  obtain ⟨_, _, _, _, _, _, _, hs⟩ := h.shape
  obtain ⟨_, _, cur, _, hg, _⟩ := hs b hb
  exact absurd rfl (hg.ne r (fun e => ht e.symm))
theorem LineP.neA {w : World} {rv iv : Value} {rh hd : Nat} {ps : List Value} {A : List Arr} (h : LineP w rv rh ps) (h' : LineA w iv hd A) : ∀ k, rv.ownBlock = some k → iv.ownBlock ≠ some k := by
  intro k hk
  obtain ⟨_, _, _, _, _, _, _, hs⟩ := h.shape
  obtain ⟨_, _, cur, _, hg, _⟩ := hs k hk
  exact h'.ne hg (by decide)
theorem MapIs.neP {w : World} {M : Nat} {ents : List (ByteArray × Nat)} {rv : Value} {rh : Nat} {ps : List Value} (h : MapIs w M ents) (h' : LineP w rv rh ps) : rv.ownBlock ≠ some M := by
  intro hk
  obtain ⟨_, _, _, _, _, _, _, hs⟩ := h'.shape
  obtain ⟨_, _, cur, _, hg, _⟩ := hs M hk
  exact h.ne hg rfl
theorem MapIs.neA {w : World} {M : Nat} {ents : List (ByteArray × Nat)} {iv : Value} {hd : Nat} {A : List Arr} (h : MapIs w M ents) (h' : LineA w iv hd A) : iv.ownBlock ≠ some M := by
  intro hk
  obtain ⟨_, _, _, _, _, _, _, hs⟩ := h'.shape
  obtain ⟨_, _, cur, _, hg, _⟩ := hs M hk
  exact h.ne hg rfl

abbrev fairRow (M R : Nat) (n : Int) : Array Value := #[.int .i64 1, .int .i64 0, .int .i64 0, .map none, .map (some M), .slice (some ⟨R, 0, none⟩) 1 1, .int .i64 n]
abbrev rotRow (rv : Value) (rh : Nat) (it : Bool) (n : Int) : Array Value := #[.func (.func 34) #[] #[], rv, .int .i64 rh, .bool it, .int .i64 n]

/-- THE QUEUE AS A POP HOLDS IT: the tenant whose turn it is apart. 'B0': the result's variable. -/
structure PSt (w0 W : World) (S : List Nat) (Q M R B0 : Nat) (nq nr : Int) (rv : Value) (rh : Nat) (ps : List Value) (it : Bool) (t : TS) (ents : List (ByteArray × Nat)) : Prop where
  only : Only S w0 W
  rQ : Row W Q 107 (fairRow M R nq)
  rR : Row W R 131 (rotRow rv rh it nr)
  line : LineP W rv rh ps
  tl : TLine W R t
  mp : MapIs W M ents
  res : Row W B0 83 zeroReq

section
variable {w0 W W' : World} {S T : List Nat} {Q M R B0 : Nat} {nq nr : Int} {rv : Value} {rh : Nat} {ps : List Value} {it : Bool} {t : TS} {ents : List (ByteArray × Nat)}

/-- Blocks of the queue in hand. -/
def PSt.mine (Q M R B0 : Nat) (rv : Value) (t : TS) : List Nat := Q :: M :: R :: B0 :: (rv.ownBlock.toList ++ t.fp)

theorem PSt.ext (h : PSt w0 W S Q M R B0 nq nr rv rh ps it t ents) (hb : Below W.heap.size W W') : PSt w0 W' S Q M R B0 nq nr rv rh ps it t ents := by
  have ho : Only [] W W' := Only.ofBelow hb
  exact ⟨h.only.then ho (by simp), h.rQ.only ho (by simp), h.rR.only ho (by simp), h.line.only ho (by simp), h.tl.only ho (by simp), h.mp.only ho (by simp), h.res.only ho (by simp)⟩
theorem PSt.drewN (h : PSt w0 W S Q M R B0 nq nr rv rh ps it t ents) (k : Nat) : PSt w0 (W.drewN k) S Q M R B0 nq nr rv rh ps it t ents := h.ext (below_drewN (Below.refl _ _) k)
theorem PSt.drew (h : PSt w0 W S Q M R B0 nq nr rv rh ps it t ents) : PSt w0 W.drew S Q M R B0 nq nr rv rh ps it t ents := h.ext (Below.refl _ _).drew
theorem PSt.setNq (h : PSt w0 W S Q M R B0 nq nr rv rh ps it t ents) (hS : Q ∈ S) (v : Int) : PSt w0 (W.setCell ⟨Q, 6, none⟩ (.int .i64 v)) S Q M R B0 v nr rv rh ps it t ents := by
  have ho : Only [Q] W (W.setCell ⟨Q, 6, none⟩ (.int .i64 v)) := (Only.refl _ _).setCell (by simp) _
  refine ⟨h.only.setCell (.inl hS) _, by simpa using h.rQ.set 6 (.int .i64 v), h.rR.only ho (by simpa using h.rR.ne h.rQ (by decide)), h.line.only ho ?_, h.tl.only ho ?_, h.mp.only ho (by simpa using h.mp.ne h.rQ), h.res.only ho (by simpa using h.res.ne h.rQ (by decide))⟩
  · intro k hk; simp; rintro rfl; exact h.line.ne h.rQ (by decide) hk
  · intro k hk
    simp only [TS.fp, List.mem_cons, Option.mem_toList] at hk
    rcases hk with rfl | hk
    · simpa using h.tl.1.ne h.rQ (by decide)
    · simp; rintro rfl; exact h.tl.2.1.ne h.rQ (by decide) hk
theorem PSt.setRot (h : PSt w0 W S Q M R B0 nq nr rv rh ps it t ents) (hS : R ∈ S) (i : Nat) (v : Value) (it' : Bool) (nr' : Int) (hv : (rotRow rv rh it nr).setIfInBounds i v = rotRow rv rh it' nr') : PSt w0 (W.setCell ⟨R, i, none⟩ v) S Q M R B0 nq nr' rv rh ps it' t ents := by
  have ho : Only [R] W (W.setCell ⟨R, i, none⟩ v) := (Only.refl _ _).setCell (by simp) _
  refine ⟨h.only.setCell (.inl hS) _, h.rQ.only ho (by simpa using h.rQ.ne h.rR (by decide)), by rw [← hv]; exact h.rR.set i v, h.line.only ho ?_, h.tl.only ho ?_, h.mp.only ho (by simpa using h.mp.ne h.rR), h.res.only ho (by simpa using h.res.ne h.rR (by decide))⟩
  · intro k hk; simp; rintro rfl; exact h.line.ne h.rR (by decide) hk
  · intro k hk
    simp only [TS.fp, List.mem_cons, Option.mem_toList] at hk
    rcases hk with rfl | hk
    · simpa using h.tl.1.ne h.rR (by decide)
    · simp; rintro rfl; exact h.tl.2.1.ne h.rR (by decide) hk
theorem PSt.setDef (h : PSt w0 W S Q M R B0 nq nr rv rh ps it t ents) (hS : t.b ∈ S) (v : Int) : PSt w0 (W.setCell ⟨t.b, 6, none⟩ (.int .i64 v)) S Q M R B0 nq nr rv rh ps it { t with d := v } ents := by
  have ho : Only [t.b] W (W.setCell ⟨t.b, 6, none⟩ (.int .i64 v)) := (Only.refl _ _).setCell (by simp) _
  refine ⟨h.only.setCell (.inl hS) _, h.rQ.only ho (by simpa using h.rQ.ne h.tl.1 (by decide)), h.rR.only ho (by simpa using h.rR.ne h.tl.1 (by decide)), h.line.only ho ?_, ⟨by simpa using h.tl.1.set 6 (.int .i64 v), h.tl.2.1.only ho ?_, h.tl.2.2⟩, h.mp.only ho (by simpa using h.mp.ne h.tl.1), h.res.only ho (by simpa using h.res.ne h.tl.1 (by decide))⟩
  · intro k hk; simp; rintro rfl; exact h.line.ne h.tl.1 (by decide) hk
  · intro k hk; simp; rintro rfl; exact h.tl.2.2 hk
/-- Behind the tenant's own pop. -/
theorem PSt.popped (h : PSt w0 W S Q M R B0 nq nr rv rh ps it t ents) (hS : ∀ k ∈ t.fp, k ∈ S) (ho : Only t.fp W W') (t' : TS) (hb : t'.b = t.b) (ht : TLine W' R t') : PSt w0 W' S Q M R B0 nq nr rv rh ps it t' ents := by
  have hne : ∀ {b : Nat} {ty : TypeId} {cs : Array Value}, Row W b ty cs → ty ≠ 140 → ty ≠ 117 → b ∉ t.fp := by
    intro b ty cs r h1 h2 hk
    simp only [TS.fp, List.mem_cons, Option.mem_toList] at hk
    rcases hk with rfl | hk
    · exact absurd rfl (r.ne h.tl.1 h1)
    · exact h.tl.2.1.ne r h2 hk
  refine ⟨h.only.trans (ho.mono hS), h.rQ.only ho (hne h.rQ (by decide) (by decide)), h.rR.only ho (hne h.rR (by decide) (by decide)), h.line.only ho ?_, ht, h.mp.only ho ?_, h.res.only ho (hne h.res (by decide) (by decide))⟩
  · intro k hk hm
    simp only [TS.fp, List.mem_cons, Option.mem_toList] at hm
    rcases hm with rfl | hm
    · exact h.line.ne h.tl.1 (by decide) hk
    · exact h.line.neA h.tl.2.1 k hk hm
  · intro hm
    simp only [TS.fp, List.mem_cons, Option.mem_toList] at hm
    rcases hm with hm | hm
    · exact h.mp.ne h.tl.1 hm
    · exact h.mp.neA h.tl.2.1 hm
/-- Behind a turn of the rotation's line. -/
theorem PSt.turned (h : PSt w0 W S Q M R B0 nq nr rv rh ps it t ents) (hS : ∀ k ∈ R :: rv.ownBlock.toList, k ∈ S) (ho : Only (R :: rv.ownBlock.toList) W W') (rv' : Value) (rh' : Nat) (ps' : List Value) (it' : Bool) (hr : Row W' R 131 (rotRow rv' rh' it' nr)) (hl : LineP W' rv' rh' ps') :
    PSt w0 W' S Q M R B0 nq nr rv' rh' ps' it' t ents := by
  have hne : ∀ {b : Nat} {ty : TypeId} {cs : Array Value}, Row W b ty cs → ty ≠ 131 → ty ≠ 132 → b ∉ R :: rv.ownBlock.toList := by
    intro b ty cs r h1 h2 hk
    simp only [List.mem_cons, Option.mem_toList] at hk
    rcases hk with rfl | hk
    · exact absurd rfl (r.ne h.rR h1)
    · exact h.line.ne r h2 hk
  refine ⟨h.only.trans (ho.mono hS), h.rQ.only ho (hne h.rQ (by decide) (by decide)), hr, hl, h.tl.only ho ?_, h.mp.only ho ?_, h.res.only ho (hne h.res (by decide) (by decide))⟩
  · intro k hk
    simp only [TS.fp, List.mem_cons, Option.mem_toList] at hk
    rcases hk with rfl | hk
    · exact hne h.tl.1 (by decide) (by decide)
    · simp only [List.mem_cons, Option.mem_toList, not_or]
      exact ⟨fun e => h.tl.2.1.ne h.rR (by decide) (e ▸ hk), fun e => h.line.neA h.tl.2.1 k e hk⟩
  · simp only [List.mem_cons, Option.mem_toList, not_or]
    exact ⟨h.mp.ne h.rR, h.mp.neP h.line⟩
/-- Behind the map's turn. -/
theorem PSt.mapped (h : PSt w0 W S Q M R B0 nq nr rv rh ps it t ents) (hS : M ∈ S) (ho : Only [M] W W') (ents' : List (ByteArray × Nat)) (hm : MapIs W' M ents') : PSt w0 W' S Q M R B0 nq nr rv rh ps it t ents' := by
  refine ⟨h.only.trans (ho.mono (by simpa using hS)), h.rQ.only ho (by simpa using (h.mp.ne h.rQ).symm), h.rR.only ho (by simpa using (h.mp.ne h.rR).symm), h.line.only ho ?_, h.tl.only ho ?_, hm, h.res.only ho (by simpa using (h.mp.ne h.res).symm)⟩
  · intro k hk; simp; rintro rfl; exact h.mp.neP h.line hk
  · intro k hk
    simp only [TS.fp, List.mem_cons, Option.mem_toList] at hk
    rcases hk with rfl | hk
    · simpa using (h.mp.ne h.tl.1).symm
    · simp; rintro rfl; exact h.mp.neA h.tl.2.1 hk
/-- Behind the result's own store. -/
theorem PSt.fin (h : PSt w0 W S Q M R B0 nq nr rv rh ps it t ents) (hB : w0.heap.size ≤ B0) (ho : Only [B0] W W') : Only S w0 W' ∧ Row W' Q 107 (fairRow M R nq) ∧ Row W' R 131 (rotRow rv rh it nr) ∧ LineP W' rv rh ps ∧ TLine W' R t ∧ MapIs W' M ents := by
  refine ⟨h.only.then ho (by simp [hB]), h.rQ.only ho (by simpa using h.rQ.ne h.res (by decide)), h.rR.only ho (by simpa using h.rR.ne h.res (by decide)), h.line.only ho ?_, h.tl.only ho ?_, h.mp.only ho (by simpa using h.mp.ne h.res)⟩
  · intro k hk; simp; rintro rfl; exact h.line.ne h.res (by decide) hk
  · intro k hk
    simp only [TS.fp, List.mem_cons, Option.mem_toList] at hk
    rcases hk with rfl | hk
    · simpa using h.tl.1.ne h.res (by decide)
    · simp; rintro rfl; exact h.tl.2.1.ne h.res (by decide) hk
end

/-- WHAT A POP THAT FITS COMES TO: who stands where behind it. -/
def PopNext (t t' : TS) (ts : List TS) (x : Arr) (A : List Arr) (d2 : Int) (ents : List (ByteArray × Nat)) (rot' : List TS) (it' : Bool) (ents' : List (ByteArray × Nat)) : Prop :=
  (A = [] ∧ rot' = ts ∧ it' = false ∧ ents' = delE x.r.tn ents) ∨
  (∃ y A', A = y :: A' ∧ ents' = ents ∧ ((y.r.tk ≤ d2 ∧ rot' = t' :: ts ∧ it' = true) ∨ (d2 < y.r.tk ∧ rot' = ts ++ [t'] ∧ it' = false)))
end Go.Proofs.Ybulkhba
