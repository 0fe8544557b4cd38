import Derived.Test.YbulkhbaQ
namespace Go.Proofs.Ybulkhba
open Go.RowKit
set_option linter.unusedVariables false
set_option linter.unusedSimpArgs false

/-! ### BUILDING: the lines as plain data -/
structure TB where
  nm : ByteArray
  A : List Arr
  n : Nat
  q : Int
  d : Int
  hd : Nat
def TS.tb (t : TS) : TB := ⟨t.nm, t.A, t.n, t.q, t.d, t.hd⟩
def pushB (r : Req) (q : Int) : List TB → List TB
  | [] => [⟨r.tn, [⟨r, 0⟩], 1, q, 0, 0⟩]
  | b :: L => if r.tn == b.nm then { b with A := b.A ++ [⟨r, b.n⟩], n := b.n + 1 } :: L else b :: pushB r q L
def buildB (l : List (Req × Int)) : List TB := l.foldl (fun L p => pushB p.1 p.2 L) []
theorem buildB_snoc (l : List (Req × Int)) (p : Req × Int) : buildB (l ++ [p]) = pushB p.1 p.2 (buildB l) := by simp [buildB]

/-- What every line of the building is. -/
def GoodB (P : Req → Prop) (j : Nat) (b : TB) : Prop := b.hd = 0 ∧ b.d = 0 ∧ b.A ≠ [] ∧ b.A.length = b.n ∧ b.n ≤ j ∧ ∀ a ∈ b.A, P a.r
theorem pushB_good {P : Req → Prop} {j : Nat} {r : Req} {q : Int} (hr : P r) : ∀ {L : List TB}, (∀ b ∈ L, GoodB P j b) → ∀ b ∈ pushB r q L, GoodB P (j + 1) b
  | [], _ => by
    intro b hb
    simp only [pushB, List.mem_singleton] at hb
    subst hb
    exact ⟨rfl, rfl, by simp, rfl, by show 1 ≤ j + 1; omega, by simpa using hr⟩
  | c :: L, h => by
    intro b hb
    have hup : ∀ b, GoodB P j b → GoodB P (j + 1) b := fun b ⟨h1, h2, h3, h4, h5, h6⟩ => ⟨h1, h2, h3, h4, by omega, h6⟩
    unfold pushB at hb
    split at hb
    · rcases List.mem_cons.1 hb with rfl | hb
      · obtain ⟨h1, h2, h3, h4, h5, h6⟩ := h c (by simp)
        refine ⟨h1, h2, by simp, by simp [h4], by show c.n + 1 ≤ j + 1; omega, ?_⟩
        intro a ha
        rcases List.mem_append.1 ha with ha | ha
        · exact h6 a ha
        · rw [List.mem_singleton.1 ha]; exact hr
      · exact hup b (h b (by simp [hb]))
    · rcases List.mem_cons.1 hb with rfl | hb
      · exact hup _ (h _ (by simp))
      · exact pushB_good hr (fun b hb => h b (by simp [hb])) b hb
theorem pushB_length (r : Req) (q : Int) : ∀ L : List TB, (pushB r q L).length ≤ L.length + 1
  | [] => by simp [pushB]
  | c :: L => by
    unfold pushB
    split
    · simp
    · simp; exact pushB_length r q L
theorem buildB_take (l : List (Req × Int)) (j : Nat) (h : j < l.length) : buildB (l.take (j + 1)) = pushB l[j].1 l[j].2 (buildB (l.take j)) := by
  rw [List.take_succ_eq_append_getElem h, buildB_snoc]
theorem buildB_good {P : Req → Prop} (l : List (Req × Int)) (h : ∀ p ∈ l, P p.1) : ∀ j, j ≤ l.length → (∀ b ∈ buildB (l.take j), GoodB P j b) ∧ (buildB (l.take j)).length ≤ j
  | 0, _ => by simp [buildB]
  | j + 1, hj => by
    obtain ⟨h1, h2⟩ := buildB_good l h j (by omega)
    rw [buildB_take l j (by omega)]
    refine ⟨pushB_good (h _ (List.getElem_mem _)) h1, ?_⟩
    have := pushB_length l[j].1 l[j].2 (buildB (l.take j))
    omega

/-! ### THE LOOK-UP AND THE LINES -/
theorem look_none {s : ByteArray} : ∀ {rot : List TS} {i : Nat}, look s (rot.map fun t => (t.nm, t.b)) i = none → ∀ t ∈ rot, (s == t.nm) = false
  | [], _, _ => by simp
  | u :: rot, i, h => by
    simp only [List.map_cons, look] at h
    split at h
    · cases h
    · rename_i hu
      intro t ht
      rcases List.mem_cons.1 ht with rfl | ht
      · simpa using hu
      · exact look_none h t ht
theorem look_some {s : ByteArray} : ∀ {rot : List TS} {i : Nat} {p : Nat × Value}, look s (rot.map fun t => (t.nm, t.b)) i = some p →
    ∃ pre t post, rot = pre ++ t :: post ∧ (s == t.nm) = true ∧ p.2 = t.ptr ∧ ∀ u ∈ pre, (s == u.nm) = false
  | [], _, _, h => by simp [look] at h
  | u :: rot, i, p, h => by
    simp only [List.map_cons, look] at h
    split at h
    · rename_i hu
      cases h
      exact ⟨[], u, rot, rfl, hu, rfl, by simp⟩
    · rename_i hu
      obtain ⟨pre, t, post, rfl, h2, h3, h4⟩ := look_some h
      refine ⟨u :: pre, t, post, rfl, h2, h3, fun v hv => ?_⟩
      rcases List.mem_cons.1 hv with rfl | hv
      · simpa using hu
      · exact h4 v hv
theorem pushB_new (r : Req) (q : Int) : ∀ (rot : List TS), (∀ t ∈ rot, (r.tn == t.nm) = false) → pushB r q (rot.map TS.tb) = rot.map TS.tb ++ [⟨r.tn, [⟨r, 0⟩], 1, q, 0, 0⟩]
  | [], _ => rfl
  | u :: rot, h => by
    have hu := h u (by simp)
    simp only [List.map_cons, pushB]
    rw [if_neg (by simp [TS.tb, hu]), pushB_new r q rot (fun t ht => h t (by simp [ht]))]
    rfl
theorem pushB_old (r : Req) (q : Int) (t : TS) (post : List TS) (ht : (r.tn == t.nm) = true) (iv' : Value) : ∀ (pre : List TS), (∀ u ∈ pre, (r.tn == u.nm) = false) →
    pushB r q ((pre ++ t :: post).map TS.tb) = (pre ++ { t with iv := iv', A := t.A ++ [⟨r, t.n⟩], n := t.n + 1 } :: post).map TS.tb
  | [], _ => by
    simp only [List.nil_append, List.map_cons, pushB, TS.tb]
    rw [if_pos ht]
  | u :: pre, h => by
    have hu := h u (by simp)
    simp only [List.cons_append, List.map_cons, pushB]
    rw [if_neg (by simp [TS.tb, hu]), pushB_old r q t post ht iv' pre (fun v hv => h v (by simp [hv]))]

theorem QSt.setN {W : World} {Q M R : Nat} {n m : Int} {rv : Value} {rh : Nat} {it : Bool} {rot : List TS} {ents : List (ByteArray × Nat)}
    (h : QSt W Q M R n m rv rh it rot ents) (v : Int) : QSt (W.setCell ⟨Q, 6, none⟩ (.int .i64 v)) Q M R v m rv rh it rot ents := by
  have ho : Only [Q] W (W.setCell ⟨Q, 6, none⟩ (.int .i64 v)) := (Only.refl _ _).setCell (by simp) _
  refine ⟨by simpa using h.rQ.set 6 (.int .i64 v), h.rR.only ho (by simpa using h.rR.ne h.rQ (by decide)), h.line.only ho ?_, fun t ht => (h.tls t ht).only ho ?_, h.mp.only ho (by simpa using h.mp.ne h.rQ), h.pw⟩
  · intro k hk; simp; rintro rfl; exact h.line.ne h.rQ (by decide) hk
  · intro k hk
    simp only [TS.fp, List.mem_cons, Option.mem_toList] at hk
    rcases hk with rfl | hk
    · simpa using (h.tls t ht).1.ne h.rQ (by decide)
    · simp; rintro rfl; exact (h.tls t ht).2.1.ne h.rQ (by decide) hk
theorem QSt.mapped {W W' : World} {Q M R : Nat} {n m : Int} {rv : Value} {rh : Nat} {it : Bool} {rot : List TS} {ents ents' : List (ByteArray × Nat)}
    (h : QSt W Q M R n m rv rh it rot ents) (ho : Only [M] W W') (hm : MapIs W' M ents') : QSt W' Q M R n m rv rh it rot ents' := by
  refine ⟨h.rQ.only ho (by simpa using (h.mp.ne h.rQ).symm), h.rR.only ho (by simpa using (h.mp.ne h.rR).symm), h.line.only ho ?_, fun t ht => (h.tls t ht).only ho ?_, hm, h.pw⟩
  · intro k hk; simp; rintro rfl; exact h.mp.neP h.line hk
  · intro k hk
    simp only [TS.fp, List.mem_cons, Option.mem_toList] at hk
    rcases hk with rfl | hk
    · simpa using (h.mp.ne (h.tls t ht).1).symm
    · simp; rintro rfl; exact h.mp.neA (h.tls t ht).2.1 hk
theorem QSt.ext {W W' : World} {Q M R : Nat} {n m : Int} {rv : Value} {rh : Nat} {it : Bool} {rot : List TS} {ents : List (ByteArray × Nat)}
    (h : QSt W Q M R n m rv rh it rot ents) (hb : Below W.heap.size W W') : QSt W' Q M R n m rv rh it rot ents := h.only (S := []) (Only.ofBelow hb) (by simp)
end Go.Proofs.Ybulkhba
