import Derived.Test.YbulkhbaGI
namespace Go.Proofs.Ybulkhba
open Go.RowKit
set_option linter.unusedVariables false
set_option linter.unusedSimpArgs false

/-- THE QUEUE AS A POP HOLDS IT. 'B0': the result's variable; rv0, rot0: as the pop found it. -/
structure GSt (w W : World) (Q M R B0 : Nat) (nq nr : Int) (rv0 : Value) (rot0 : List TG) (rv : Value) (rh : Nat) (it : Bool) (rot : List TG) (ents : List (ByteArray × Nat)) : Prop where
  q : QG W Q M R nq nr rv rh it rot ents
  o : Only (qBlocksG Q M R rv0 rot0) w W
  res : Row W B0 83 zeroReq
  rvn : ∀ k, rv.ownBlock = some k → rv0.ownBlock = some k ∨ w.heap.size ≤ k
  sub : ∀ k ∈ rot.flatMap TG.fp, k ∈ rot0.flatMap TG.fp
section
variable {w W W' : World} {Q M R B0 : Nat} {nq nr : Int} {rv0 : Value} {rot0 : List TG} {rv : Value} {rh : Nat} {it : Bool} {rot : List TG} {ents : List (ByteArray × Nat)}
theorem GSt.old (h : GSt w W Q M R B0 nq nr rv0 rot0 rv rh it rot ents) : ∀ k ∈ qBlocksG Q M R rv rot, k ∈ qBlocksG Q M R rv0 rot0 ∨ w.heap.size ≤ k := by
  intro k hk
  simp only [qBlocksG, List.mem_cons, List.mem_append, Option.mem_toList] at hk ⊢
  rcases hk with g | g | g | g | g
  · exact .inl (.inl g)
  · exact .inl (.inr (.inl g))
  · exact .inl (.inr (.inr (.inl g)))
  · rcases h.rvn k g with e | e
    · exact .inl (.inr (.inr (.inr (.inl e))))
    · exact .inr e
  · exact .inl (.inr (.inr (.inr (.inr (h.sub k g)))))
theorem GSt.step {S' : List Nat} {nq' nr' : Int} {rv' : Value} {rh' : Nat} {it' : Bool} {rot' : List TG} {ents' : List (ByteArray × Nat)}
    (h : GSt w W Q M R B0 nq nr rv0 rot0 rv rh it rot ents) (ho : Only S' W W') (hS : ∀ k ∈ S', k ∈ qBlocksG Q M R rv rot) (hq : QG W' Q M R nq' nr' rv' rh' it' rot' ents')
    (hrv : ∀ k, rv'.ownBlock = some k → rv.ownBlock = some k ∨ W.heap.size ≤ k) (hsub : ∀ k ∈ rot'.flatMap TG.fp, k ∈ rot.flatMap TG.fp) :
    GSt w W' Q M R B0 nq' nr' rv0 rot0 rv' rh' it' rot' ents' := by
  refine ⟨hq, h.o.then ho (fun k hk => h.old k (hS k hk)), h.res.only ho (fun hk => h.q.not_mine h.res (by decide) (by decide) (by decide) (by decide) (by decide) (hS _ hk)), fun k hk => ?_, fun k hk => h.sub k (hsub k hk)⟩
  rcases hrv k hk with e | e
  · exact h.rvn k e
  · exact .inr (Nat.le_trans h.o.size e)
theorem GSt.ext (h : GSt w W Q M R B0 nq nr rv0 rot0 rv rh it rot ents) (hb : Below W.heap.size W W') : GSt w W' Q M R B0 nq nr rv0 rot0 rv rh it rot ents :=
  h.step (S' := []) (Only.ofBelow hb) (by simp) (h.q.ext hb) (fun k hk => .inl hk) (fun k hk => hk)
theorem GSt.drewN (h : GSt w W Q M R B0 nq nr rv0 rot0 rv rh it rot ents) (k : Nat) : GSt w (W.drewN k) Q M R B0 nq nr rv0 rot0 rv rh it rot ents := h.ext (below_drewN (Below.refl _ _) k)
theorem GSt.setN (h : GSt w W Q M R B0 nq nr rv0 rot0 rv rh it rot ents) (v : Int) : GSt w (W.setCell ⟨Q, 6, none⟩ (.int .i64 v)) Q M R B0 v nr rv0 rot0 rv rh it rot ents :=
  h.step (S' := [Q]) ((Only.refl _ _).setCell (by simp) _) (by simp [qBlocksG]) (h.q.setN v) (fun k hk => .inl hk) (fun k hk => hk)
theorem GSt.setRot (h : GSt w W Q M R B0 nq nr rv0 rot0 rv rh it rot ents) (i : Nat) (v : Value) (it' : Bool) (m' : Int) (hv : (rotRow rv rh it nr).setIfInBounds i v = rotRow rv rh it' m') : GSt w (W.setCell ⟨R, i, none⟩ v) Q M R B0 nq m' rv0 rot0 rv rh it' rot ents :=
  h.step (S' := [R]) ((Only.refl _ _).setCell (by simp) _) (by simp [qBlocksG]) (h.q.setRot i v it' m' hv) (fun k hk => .inl hk) (fun k hk => hk)
theorem GSt.setDef {t : TG} {ts : List TG} (h : GSt w W Q M R B0 nq nr rv0 rot0 rv rh it (t :: ts) ents) (v : Int) : GSt w (W.setCell ⟨t.b, 6, none⟩ (.int .i64 v)) Q M R B0 nq nr rv0 rot0 rv rh it ({ t with d := v } :: ts) ents :=
  h.step (S' := [t.b]) ((Only.refl _ _).setCell (by simp) _) (by simp [qBlocksG, TG.fp]) (QG.setDef (pre := []) h.q v) (fun k hk => .inl hk) (fun k hk => by simpa [TG.fp] using hk)
/-- Behind the front tenant's own pop. -/
theorem GSt.popped {t t' : TG} {ts : List TG} (h : GSt w W Q M R B0 nq nr rv0 rot0 rv rh it (t :: ts) ents) (ho : Only t.fp W W') (hb : t'.b = t.b) (hT : TLineG W' R t') (hfp : t'.fp = t.fp) : GSt w W' Q M R B0 nq nr rv0 rot0 rv rh it (t' :: ts) ents := by
  refine h.step ho ?_ (QG.tenantTurn (pre := []) h.q ho t' hb hT (fun k hk => .inl (hfp ▸ hk))) (fun k hk => .inl hk) (fun k hk => by simpa [hfp] using hk)
  intro k hk
  simp only [qBlocksG, List.mem_cons, List.mem_append, List.mem_flatMap]
  exact .inr (.inr (.inr (.inr ⟨t, .inl rfl, hk⟩)))
/-- Behind a turn of the rotation's line. -/
theorem GSt.turned {rv' : Value} {rh' : Nat} {it' : Bool} {rot' : List TG} (h : GSt w W Q M R B0 nq nr rv0 rot0 rv rh it rot ents) (ho : Only (R :: rv.ownBlock.toList) W W') (hq : QG W' Q M R nq nr rv' rh' it' rot' ents)
    (hrv : ∀ k, rv'.ownBlock = some k → rv.ownBlock = some k ∨ W.heap.size ≤ k) (hsub : ∀ t ∈ rot', t ∈ rot) : GSt w W' Q M R B0 nq nr rv0 rot0 rv' rh' it' rot' ents := by
  refine h.step ho ?_ hq hrv ?_
  · intro k hk
    simp only [List.mem_cons, qBlocksG, List.mem_append] at hk ⊢
    rcases hk with g | g <;> simp [g]
  · intro k hk
    simp only [List.mem_flatMap] at hk ⊢
    obtain ⟨t, ht, hk⟩ := hk
    exact ⟨t, hsub t ht, hk⟩
theorem GSt.mapped {ents' : List (ByteArray × Nat)} (h : GSt w W Q M R B0 nq nr rv0 rot0 rv rh it rot ents) (ho : Only [M] W W') (hm : MapIs W' M ents') : GSt w W' Q M R B0 nq nr rv0 rot0 rv rh it rot ents' :=
  h.step ho (by simp [qBlocksG]) (h.q.mapped ho hm) (fun k hk => .inl hk) (fun k hk => hk)
/-- Behind the result's own store. -/
theorem GSt.fin (h : GSt w W Q M R B0 nq nr rv0 rot0 rv rh it rot ents) (hB : w.heap.size ≤ B0) (ho : Only [B0] W W') :
    QG W' Q M R nq nr rv rh it rot ents ∧ Only (qBlocksG Q M R rv0 rot0) w W' ∧ (∀ k ∈ qBlocksG Q M R rv rot, k ∈ qBlocksG Q M R rv0 rot0 ∨ w.heap.size ≤ k) := by
  refine ⟨h.q.only ho ?_, h.o.then ho (by simp [hB]), h.old⟩
  intro k hk
  rw [List.mem_singleton]
  rintro rfl
  exact h.q.not_mine h.res (by decide) (by decide) (by decide) (by decide) (by decide) hk
end
end Go.Proofs.Ybulkhba
