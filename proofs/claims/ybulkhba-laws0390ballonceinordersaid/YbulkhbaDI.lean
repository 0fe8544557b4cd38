import Derived.Test.YbulkhbaBI
namespace Go.Proofs.Ybulkhba
open Go.RowKit
set_option linter.unusedVariables false
set_option linter.unusedSimpArgs false

/-- Whether a may be served before b. -/
def bokB (a b : Req) : Bool := if (a.pr != b.pr) then decide (b.pr < a.pr) else if (a.hd != b.hd) then a.hd else if (a.hd && (a.dl != b.dl)) then decide (a.dl < b.dl) else decide (a.id < b.id)
theorem bok_of_bf {a b : Arr} (h : bf a b = true) (hs : a.sq < b.sq → a.r.id < b.r.id) : bokB a.r b.r = true := by
  unfold bf beforeB rankI cmpI at h
  unfold bokB
  cases hp : (a.r.pr != b.r.pr)
  · simp only [hp, Bool.false_eq_true, if_false] at h ⊢
    cases hh : (a.r.hd != b.r.hd)
    · simp only [hh, Bool.false_eq_true, if_false] at h ⊢
      cases ha : a.r.hd
      · simp [ha] at h ⊢
        exact hs h
      · simp only [ha, if_true, Bool.true_and] at h ⊢
        rcases Int.lt_trichotomy a.r.dl b.r.dl with g | g | g
        · have : (a.r.dl != b.r.dl) = true := by simp; omega
          simp [this, g]
        · simp [g] at h ⊢
          exact hs h
        · have h2 : ¬ a.r.dl < b.r.dl := by omega
          simp [g, h2] at h
    · simp only [hh, if_true] at h ⊢
      cases ha : a.r.hd
      · simp [ha] at h
      · rfl
  · simp only [hp, if_true] at h ⊢
    have hp' : a.r.pr ≠ b.r.pr := by simpa using hp
    rcases Int.lt_trichotomy b.r.pr a.r.pr with g | g | g
    · simp [g]
    · exact absurd g.symm hp'
    · have h2 : ¬ b.r.pr < a.r.pr := by omega
      simp [g, h2] at h

/-- What of a tenant the draining needs. -/
structure TJ (t : TG) : Prop where
  inv : OInv t.H t.A t.n
  ne : t.els ≠ []
  nm : ∀ a ∈ t.els, a.r.tn = t.nm
  sq : ∀ a ∈ t.els, ∀ b ∈ t.els, a.sq < b.sq → a.r.id < b.r.id
theorem TI.j {t : TG} (h : TI t) : TJ t := ⟨h.inv, h.ne, h.nm, h.sq⟩
/-- THE DRAINING's WORD: 'out' is served. -/
structure DI (rs out : List Req) (rot : List TG) (ents : List (ByteArray × Nat)) : Prop where
  perm : (out ++ (elsOf rot).map Arr.r).Perm rs
  tj : ∀ t ∈ rot, TJ t
  names : (rot.map TG.nm).Nodup
  keys : (ents.map Prod.fst).Perm (rot.map TG.nm)
  ord : ∀ r ∈ out, ∀ t ∈ rot, t.nm = r.tn → ∀ a ∈ t.els, bokB r a.r = true
section
variable {rs out : List Req} {rot rot' : List TG} {ents : List (ByteArray × Nat)}
theorem els_core (rot : List TG) : elsOf rot = (rot.map TG.core).flatMap TG.els := by
  unfold elsOf
  rw [List.flatMap_map]
  rfl
theorem nm_core (rot : List TG) : rot.map TG.nm = (rot.map TG.core).map TG.nm := by simp [Function.comp_def, TG.core]
theorem DI.turn (h : DI rs out rot ents) (hp : (rot'.map TG.core).Perm (rot.map TG.core)) : DI rs out rot' ents := by
  have h1 : (elsOf rot').Perm (elsOf rot) := by
    rw [els_core rot', els_core rot]
    exact List.Perm.flatMap_right _ hp
  have h2 : (rot'.map TG.nm).Perm (rot.map TG.nm) := by
    rw [nm_core rot', nm_core rot]
    exact hp.map _
  have h3 : ∀ t ∈ rot', ∃ s ∈ rot, s.core = t.core := by
    intro t ht
    have := hp.mem_iff.1 (List.mem_map_of_mem (f := TG.core) ht)
    obtain ⟨s, hs, e⟩ := List.mem_map.1 this
    exact ⟨s, hs, e⟩
  refine ⟨((h1.map _).append_left _).trans h.perm, fun t ht => ?_, h2.nodup_iff.2 h.names, h.keys.trans h2.symm, fun r hr t ht hn a ha => ?_⟩
  · obtain ⟨s, hs, e⟩ := h3 t ht
    have := h.tj s hs
    have g : TJ s.core := ⟨this.inv, this.ne, this.nm, this.sq⟩
    rw [e] at g
    exact ⟨g.inv, g.ne, g.nm, g.sq⟩
  · obtain ⟨s, hs, e⟩ := h3 t ht
    have e1 : s.core.nm = t.core.nm := congrArg TG.nm e
    have e2 : s.core.els = t.core.els := congrArg TG.els e
    exact h.ord r hr s hs (e1.trans hn) a (show a ∈ s.core.els from e2 ▸ ha)
theorem DI.few (h : DI rs out rot ents) (hl : out.length < rs.length) : rot ≠ [] := by
  rintro rfl
  have := h.perm.length_eq
  simp [elsOf] at this
  omega
theorem DI.done (h : DI rs out rot ents) (hl : out.length = rs.length) : ents = [] := by
  have h1 := h.perm.length_eq
  rw [List.length_append, List.length_map] at h1
  have h2 : rot = [] := by
    cases rot with
    | nil => rfl
    | cons t ts =>
      have h3 := (h.tj t (by simp)).ne
      have h4 := List.length_pos_iff.2 h3
      rw [elsOf_cons, List.length_append] at h1
      omega
  subst h2
  simpa using h.keys.length_eq
end

/-- The key goes. -/
theorem look_at {s : ByteArray} : ∀ {ents : List (ByteArray × Nat)} {i0 i : Nat} {v : Value}, look s ents i0 = some (i, v) → i0 ≤ i ∧ ∃ h : i - i0 < ents.length, ents[i - i0].1 = s
  | [], _, _, _, h => by simp [look] at h
  | p :: r, i0, i, v, h => by
    simp only [look] at h
    split at h
    · rename_i hu
      simp only [Option.some.injEq, Prod.mk.injEq] at h
      obtain ⟨rfl, _⟩ := h
      refine ⟨Nat.le_refl _, by simp, ?_⟩
      simp only [Nat.sub_self, List.getElem_cons_zero]
      exact ((Go.MapKept.bytes_beq _ _).1 hu).symm
    · obtain ⟨h1, h2, h3⟩ := look_at h
      refine ⟨by omega, by simp; omega, ?_⟩
      have e : i - i0 = (i - (i0 + 1)) + 1 := by omega
      simp only [e, List.getElem_cons_succ]
      exact h3
theorem look_not {s : ByteArray} : ∀ {ents : List (ByteArray × Nat)} {i0 : Nat}, look s ents i0 = none → s ∉ ents.map Prod.fst
  | [], _, _ => by simp
  | p :: r, i0, h => by
    simp only [look] at h
    split at h
    · cases h
    · rename_i hu
      rw [List.map_cons, List.mem_cons, not_or]
      exact ⟨fun e => hu ((Go.MapKept.bytes_beq _ _).2 e), look_not h⟩
theorem erase_perm {α : Type} : ∀ {l : List α} {i : Nat} (h : i < l.length), (l[i] :: l.eraseIdx i).Perm l
  | x :: l, 0, _ => by simp
  | x :: l, i + 1, h => by
    have := erase_perm (l := l) (i := i) (by simpa using h)
    simp only [List.getElem_cons_succ, List.eraseIdx_cons_succ]
    exact (List.Perm.swap _ _ _).trans (this.cons x)
theorem delE_keys {s : ByteArray} {ents : List (ByteArray × Nat)} {ns : List ByteArray} (h : (ents.map Prod.fst).Perm (s :: ns)) : ((delE s ents).map Prod.fst).Perm ns := by
  unfold delE
  cases hl : look s ents 0 with
  | none => exact absurd (h.mem_iff.2 (by simp)) (look_not hl)
  | some p =>
    obtain ⟨i, v⟩ := p
    obtain ⟨_, h1, h2⟩ := look_at hl
    simp only [Nat.sub_zero] at h1 h2
    have h3 := (erase_perm h1).map Prod.fst
    rw [List.map_cons, h2] at h3
    exact List.Perm.cons_inv (h3.trans h)

section
variable {rs out : List Req} {rot0 : List TG} {ents ents' : List (ByteArray × Nat)}
/-- ONE POP, PLAIN. -/
theorem DI.pop {t : TG} {ts rot' : List TG} {x : Arr} {H' A' : List Arr} (h : DI rs out rot0 ents) (hnd : rs.Nodup) (hp : ((t :: ts).map TG.core).Perm (rot0.map TG.core)) (hpop : OPop t.H t.A x H' A')
    (hc : (H' ++ A' = [] ∧ rot' = ts ∧ ents' = delE x.r.tn ents) ∨ (H' ++ A' ≠ [] ∧ ents' = ents ∧ ∃ t' : TG, t'.H = H' ∧ t'.A = A' ∧ t'.nm = t.nm ∧ t'.b = t.b ∧ t'.n = t.n ∧ (rot' = t' :: ts ∨ rot' = ts ++ [t']))) :
    DI rs (out ++ [x.r]) rot' ents' ∧ x.r ∈ rs ∧ x.r ∉ out ∧ ∀ r ∈ out, r.tn = x.r.tn → bokB r x.r = true := by
  have h1 := h.turn hp
  have tj := h1.tj t (by simp)
  obtain ⟨o1, o2, o3⟩ := tj.inv.pop hpop
  have hx : x ∈ t.els := o2.mem_iff.1 (by simp)
  have hxn := tj.nm x hx
  have hsub : ∀ a ∈ H' ++ A', a ∈ t.els := fun a ha => o2.mem_iff.1 (List.mem_cons_of_mem _ ha)
  have hperm : (out ++ x.r :: ((H' ++ A') ++ elsOf ts).map Arr.r).Perm rs := by
    refine List.Perm.trans (List.Perm.append_left _ ?_) h1.perm
    have h2 := (o2.map Arr.r).append_right ((elsOf ts).map Arr.r)
    rw [elsOf_cons]
    simpa [TG.els] using h2
  have hmem : x.r ∈ rs := hperm.mem_iff.1 (by simp)
  have hnot : x.r ∉ out := by
    have := hperm.nodup_iff.2 hnd
    intro hm
    exact (List.nodup_append.1 this).2.2 _ hm _ (by simp) rfl
  have hnm := List.nodup_cons.1 (show (t.nm :: ts.map TG.nm).Nodup from h1.names)
  have hkeys : (ents.map Prod.fst).Perm (t.nm :: ts.map TG.nm) := h1.keys
  have hnts : ∀ s ∈ ts, s.nm ≠ x.r.tn := fun s hs e => hnm.1 (by
    rw [← hxn, ← e]
    exact List.mem_map_of_mem hs)
  refine ⟨?_, hmem, hnot, fun r hr e => h1.ord r hr t (by simp) (by rw [← hxn, e]) x hx⟩
  have hperm2 : ((out ++ [x.r]) ++ ((H' ++ A') ++ elsOf ts).map Arr.r).Perm rs := by
    rw [List.append_assoc, List.singleton_append]; exact hperm
  rcases hc with ⟨e1, rfl, rfl⟩ | ⟨e1, rfl, t', g1, g2, g3, g4, g5, g6⟩
  · rw [e1, List.nil_append] at hperm2
    refine ⟨hperm2, fun s hs => h1.tj s (by simp [hs]), hnm.2, delE_keys (by rw [hxn]; exact hkeys), ?_⟩
    intro r hr s hs hn a ha
    rcases List.mem_append.1 hr with g | g
    · exact h1.ord r g s (by simp [hs]) hn a ha
    · rw [List.mem_singleton.1 g] at hn
      exact absurd hn (hnts s hs)
  · have he : t'.els = H' ++ A' := by rw [TG.els, g1, g2]
    have hall : ∀ s, s ∈ rot' ↔ s = t' ∨ s ∈ ts := by
      intro s
      rcases g6 with rfl | rfl
      · simp
      · simp [or_comm]
    have tj' : TJ t' := by
      refine ⟨by rw [g1, g2, g5]; exact o1, by rw [he]; exact e1, fun a ha => ?_, fun a ha b hb => ?_⟩
      · rw [g3]; exact tj.nm a (hsub a (he ▸ ha))
      · exact tj.sq a (hsub a (he ▸ ha)) b (hsub b (he ▸ hb))
    have help : (elsOf rot').Perm ((H' ++ A') ++ elsOf ts) := by
      rcases g6 with rfl | rfl
      · rw [elsOf_cons, he]
      · rw [elsOf_append, show elsOf [t'] = t'.els by simp [elsOf], he]
        exact List.perm_append_comm
    have hnmp : (rot'.map TG.nm).Perm (t.nm :: ts.map TG.nm) := by
      rcases g6 with rfl | rfl
      · rw [List.map_cons, g3]
      · rw [List.map_append, List.map_cons, List.map_nil, g3]
        exact List.perm_append_singleton _ _
    refine ⟨((help.map _).append_left _).trans hperm2, fun s hs => ?_, hnmp.nodup_iff.2 h1.names, hkeys.trans hnmp.symm, ?_⟩
    · rcases (hall s).1 hs with rfl | hs
      · exact tj'
      · exact h1.tj s (by simp [hs])
    · intro r hr s hs hn a ha
      rcases (hall s).1 hs with rfl | hs
      · rw [he] at ha
        rcases List.mem_append.1 hr with g | g
        · exact h1.ord r g t (by simp) (by rw [← g3]; exact hn) a (hsub a ha)
        · rw [List.mem_singleton.1 g]
          exact bok_of_bf (o3 a ha) (tj.sq x hx a (hsub a ha))
      · rcases List.mem_append.1 hr with g | g
        · exact h1.ord r g s (by simp [hs]) hn a ha
        · rw [List.mem_singleton.1 g] at hn
          exact absurd hn (hnts s hs)
end
theorem DI.start {rs : List Req} {rot : List TG} (h : BI rs rs.length rot) : DI rs [] rot (rot.map fun t => (t.nm, t.b)) := by
  refine ⟨by simpa using h.perm, fun t ht => (h.ti t ht).j, ?_, ?_, by simp⟩
  · rw [List.nodup_iff_pairwise_ne, List.pairwise_map]
    exact h.names
  · rw [List.map_map]
    exact List.Perm.refl _

set_option maxRecDepth 100000 in
set_option maxHeartbeats 800000 in
/-- zzs0390bok -/
theorem bok_any (a b : Req) (w : World) : Calls Yba.prog 20 #[.agg a.vs, .agg b.vs] w fun e w' => e = .returned (.bool (bokB a b)) ∧ Below w.heap.size w w' := by
  unfold bokB
  obtain ⟨i1, t1, k1, p1, d1, h1⟩ := a
  obtain ⟨i2, t2, k2, p2, d2, h2⟩ := b
  simp only []
  cases hp : (p1 != p2) <;> cases h1 <;> cases h2 <;> cases hd : (d1 != d2)
  all_goals
    go_enter Yba.func20, Yba.ntmps20
    go_wp2
    go_ret
    refine ⟨by simp, ?_⟩
    exact ((Below.refl _ _).alloc (Nat.le_refl _) _).alloc (by simp) _

/-- (*fair).Len -/
theorem len_any (Q M R : Nat) (n : Int) (w : World) (rQ : Row w Q 107 (fairRow M R n)) :
    Calls Yba.prog 19 #[.pointer (some ⟨Q, 0, none⟩)] w fun e w' => e = .returned (.int .i64 n) ∧ w' = w := by
  have hQl := rQ.lt
  have kq := rQ.cell 6
  simp at kq
  go_enter Yba.func19, Yba.ntmps19
  go_wp2
  go_ret
  exact ⟨rfl, rfl⟩
end Go.Proofs.Ybulkhba
