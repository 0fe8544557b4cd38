import Derived.Test.YbulkhbaOwn
import Derived.MapKept
namespace Go.Proofs.Ybulkhba
open Go.RowKit
set_option linter.unusedVariables false
set_option linter.unusedSimpArgs false

/-! ### A MAP AS A FUNCTION -/
section
variable {α β : Type} [DecidableEq α]
def lookL (a : α) : List (α × β) → Nat → Option (Nat × β)
  | [], _ => none
  | p :: r, i => if p.1 = a then some (i, p.2) else lookL a r (i + 1)
def getL (a : α) : List (α × β) → Option β
  | [] => none
  | p :: r => if p.1 = a then some p.2 else getL a r
def putL (a : α) (b : β) : List (α × β) → List (α × β)
  | [] => [(a, b)]
  | p :: r => if p.1 = a then (a, b) :: r else p :: putL a b r
def delL (a : α) : List (α × β) → List (α × β)
  | [] => []
  | p :: r => if p.1 = a then r else p :: delL a r
theorem lookL_get (a : α) : ∀ (l : List (α × β)) (i : Nat), (lookL a l i).map Prod.snd = getL a l
  | [], i => rfl
  | p :: r, i => by
    unfold lookL getL
    split
    · rfl
    · exact lookL_get a r (i + 1)
theorem getL_none {a : α} : ∀ {l : List (α × β)}, getL a l = none ↔ a ∉ l.map Prod.fst
  | [] => by simp [getL]
  | p :: r => by
    unfold getL
    by_cases e : p.1 = a
    · simp [e]
    · simp only [e, if_false, List.map_cons, List.mem_cons, not_or]
      rw [getL_none]
      exact ⟨fun h => ⟨fun h' => e h'.symm, h⟩, fun h => h.2⟩
theorem getL_put (a : α) (b : β) (x : α) : ∀ l : List (α × β), getL x (putL a b l) = if x = a then some b else getL x l
  | [] => by
    simp only [putL, getL]
    by_cases e : x = a
    · simp [e]
    · have h2 : ¬ a = x := fun h => e h.symm
      simp [e, h2]
  | p :: r => by
    unfold putL
    by_cases e : p.1 = a
    · simp only [e, if_true, getL]
      by_cases h : x = a
      · simp [h]
      · have h2 : ¬ a = x := fun h' => h h'.symm
        simp [h, h2]
    · simp only [e, if_false, getL]
      rw [getL_put a b x r]
      by_cases h : x = a
      · subst h; simp [e]
      · simp [h]
theorem putL_keys {a x : α} {b : β} : ∀ {l : List (α × β)}, x ∈ (putL a b l).map Prod.fst ↔ x = a ∨ x ∈ l.map Prod.fst
  | [] => by simp [putL]
  | p :: r => by
    unfold putL
    by_cases e : p.1 = a
    · simp only [e, if_true, List.map_cons, List.mem_cons]
      constructor
      · rintro (h | h)
        · exact .inl h
        · exact .inr (.inr h)
      · rintro (h | h | h)
        · exact .inl h
        · exact .inl h
        · exact .inr h
    · simp only [e, if_false, List.map_cons, List.mem_cons]
      rw [putL_keys]
      constructor
      · rintro (h | h | h)
        · exact .inr (.inl h)
        · exact .inl h
        · exact .inr (.inr h)
      · rintro (h | h | h)
        · exact .inr (.inl h)
        · exact .inl h
        · exact .inr (.inr h)
theorem putL_nodup {a : α} {b : β} : ∀ {l : List (α × β)}, (l.map Prod.fst).Nodup → ((putL a b l).map Prod.fst).Nodup
  | [], _ => by simp [putL]
  | p :: r, h => by
    obtain ⟨h1, h2⟩ := List.nodup_cons.1 (show (p.1 :: r.map Prod.fst).Nodup from h)
    unfold putL
    by_cases e : p.1 = a
    · simp only [e, if_true, List.map_cons]
      exact List.nodup_cons.2 ⟨e ▸ h1, h2⟩
    · simp only [e, if_false, List.map_cons]
      refine List.nodup_cons.2 ⟨fun hm => ?_, putL_nodup h2⟩
      rcases putL_keys.1 hm with h' | h'
      · exact e h'
      · exact h1 h'
theorem delL_sub {a x : α} : ∀ {l : List (α × β)}, x ∈ (delL a l).map Prod.fst → x ∈ l.map Prod.fst
  | [], h => h
  | p :: r, h => by
    unfold delL at h
    split at h
    · exact List.mem_cons_of_mem _ h
    · rcases List.mem_cons.1 (show x ∈ p.1 :: (delL a r).map Prod.fst from h) with h' | h'
      · rw [h']; exact List.mem_cons_self
      · exact List.mem_cons_of_mem _ (delL_sub h')
theorem delL_nodup {a : α} : ∀ {l : List (α × β)}, (l.map Prod.fst).Nodup → ((delL a l).map Prod.fst).Nodup
  | [], h => h
  | p :: r, h => by
    obtain ⟨h1, h2⟩ := List.nodup_cons.1 (show (p.1 :: r.map Prod.fst).Nodup from h)
    unfold delL
    split
    · exact h2
    · exact List.nodup_cons.2 ⟨fun hm => h1 (delL_sub hm), delL_nodup h2⟩
theorem getL_del (a x : α) : ∀ {l : List (α × β)}, (l.map Prod.fst).Nodup → getL x (delL a l) = if x = a then none else getL x l
  | [], _ => by simp [delL, getL]
  | p :: r, h => by
    obtain ⟨h1, h2⟩ := List.nodup_cons.1 (show (p.1 :: r.map Prod.fst).Nodup from h)
    unfold delL
    by_cases e : p.1 = a
    · simp only [e, if_true, getL]
      by_cases hx : x = a
      · subst hx
        simp only [if_true]
        exact getL_none.2 (e ▸ h1)
      · have h2 : ¬ a = x := fun h' => hx h'.symm
        simp [hx, h2]
    · simp only [e, if_false, getL]
      rw [getL_del a x h2]
      by_cases hx : x = a
      · subst hx; simp [e]
      · simp [hx]
theorem putL_len_new {a : α} {b : β} : ∀ {l : List (α × β)}, getL a l = none → (putL a b l).length = l.length + 1
  | [], _ => rfl
  | p :: r, h => by
    unfold getL at h
    unfold putL
    by_cases e : p.1 = a
    · simp [e] at h
    · simp only [e, if_false] at h ⊢
      simp [putL_len_new h]
theorem putL_len_old {a : α} {b b' : β} : ∀ {l : List (α × β)}, getL a l = some b' → (putL a b l).length = l.length
  | [], h => by simp [getL] at h
  | p :: r, h => by
    unfold getL at h
    unfold putL
    by_cases e : p.1 = a
    · simp [e]
    · simp only [e, if_false] at h ⊢
      simp [putL_len_old h]
theorem delL_len {a : α} {b' : β} : ∀ {l : List (α × β)}, getL a l = some b' → (delL a l).length + 1 = l.length
  | [], h => by simp [getL] at h
  | p :: r, h => by
    unfold getL at h
    unfold delL
    by_cases e : p.1 = a
    · simp [e]
    · simp only [e, if_false] at h ⊢
      simp [delL_len h]
theorem delL_none {a : α} : ∀ {l : List (α × β)}, getL a l = none → delL a l = l
  | [], _ => rfl
  | p :: r, h => by
    unfold getL at h
    unfold delL
    by_cases e : p.1 = a
    · simp [e] at h
    · simp only [e, if_false] at h ⊢
      rw [delL_none h]
theorem putL_at {a : α} {b b' : β} : ∀ {l : List (α × β)} {i0 i : Nat}, lookL a l i0 = some (i, b') → i0 ≤ i ∧ i - i0 < l.length ∧ putL a b l = l.set (i - i0) (a, b) ∧ delL a l = l.eraseIdx (i - i0) ∧ (l[i - i0]?).map Prod.fst = some a
  | [], _, _, h => by simp [lookL] at h
  | p :: r, i0, i, h => by
    unfold lookL at h
    unfold putL delL
    by_cases e : p.1 = a
    · simp only [e, if_true, Option.some.injEq, Prod.mk.injEq] at h ⊢
      obtain ⟨rfl, _⟩ := h
      simp [e]
    · simp only [e, if_false] at h ⊢
      obtain ⟨h1, h2, h3, h4, h5⟩ := putL_at (b := b) h
      have e2 : i - i0 = (i - (i0 + 1)) + 1 := by omega
      refine ⟨by omega, by simp; omega, ?_, ?_, ?_⟩
      · rw [e2, h3]; rfl
      · rw [e2, h4]; rfl
      · rw [e2]; simpa using h5
theorem putL_new {a : α} {b : β} : ∀ {l : List (α × β)} {i0 : Nat}, lookL a l i0 = none → putL a b l = l ++ [(a, b)] ∧ getL a l = none
  | [], _, _ => ⟨rfl, rfl⟩
  | p :: r, i0, h => by
    unfold lookL at h
    unfold putL getL
    by_cases e : p.1 = a
    · simp [e] at h
    · simp only [e, if_false] at h ⊢
      obtain ⟨h1, h2⟩ := putL_new (b := b) h
      exact ⟨by rw [h1]; rfl, h2⟩
/-- The map at M reads as F; it has n entries. -/
def MapF (kv : α → Value) (vv : β → Value) (w : World) (M : Nat) (F : α → Option β) (n : Nat) : Prop :=
  ∃ (es : Array MapEntry) (clock : Nat) (ents : List (α × β)), w.heap[M]? = some (.map es clock) ∧ es.toList.map (fun e => (e.key, e.val)) = ents.map (fun p => (kv p.1, vv p.2)) ∧ (ents.map Prod.fst).Nodup ∧ (∀ a, F a = getL a ents) ∧ ents.length = n
variable {kv : α → Value} {vv : β → Value} {w w' : World} {M : Nat} {F : α → Option β} {n : Nat}
theorem MapF.lt (h : MapF kv vv w M F n) : M < w.heap.size := by
  obtain ⟨es, c, _, h, _⟩ := h
  exact (Array.getElem?_eq_some_iff.1 h).1
theorem MapF.only {S : List Nat} (h : MapF kv vv w M F n) (ho : Only S w w') (hS : M ∉ S) : MapF kv vv w' M F n := by
  have hlt := h.lt
  obtain ⟨es, c, ents, h, h2⟩ := h
  exact ⟨es, c, ents, (ho.block M hlt hS).trans h, h2⟩
theorem MapF.ne {b : Nat} {t : TypeId} {cs : Array Value} (h : MapF kv vv w M F n) (r : Row w b t cs) : M ≠ b := by
  rintro rfl
  obtain ⟨es, c, _, h, _⟩ := h
  rw [show w.heap[M]? = _ from r] at h
  simp at h
theorem findNow_lookL {kd : TypeDesc} (hs : ∀ a b : α, Instr.sameNow kd (kv a) (kv b) = some (decide (b = a))) (a : α) : ∀ (l : List MapEntry) (ents : List (α × β)) (i : Nat), l.map (fun e => (e.key, e.val)) = ents.map (fun p => (kv p.1, vv p.2)) → Instr.findNow kd (kv a) l i = some ((lookL a ents i).map fun p => (p.1, vv p.2))
  | [], [], i, _ => rfl
  | [], p :: r, i, h => by simp at h
  | e :: l, [], i, h => by simp at h
  | e :: l, p :: r, i, h => by
    simp only [List.map_cons, List.cons.injEq, Prod.mk.injEq] at h
    obtain ⟨⟨hk, hv⟩, hr⟩ := h
    have ih := findNow_lookL hs a l r (i + 1) hr
    unfold Instr.findNow lookL
    rw [hk, hs]
    by_cases e1 : p.1 = a
    · simp [e1, hv]
    · simp [e1, ih]
end
end Go.Proofs.Ybulkhba
