import Derived.Test.YbulkhbaTurn
namespace Go.Proofs.Ybulkhba
open Go.RowKit
set_option linter.unusedVariables false
set_option linter.unusedSimpArgs false

/-! ### THE MAP FROM NAMES TO LINES -/
def entOf (p : ByteArray × Nat) : Value × Value := (.string p.1, .pointer (some ⟨p.2, 0, none⟩))
def MapIs (w : World) (M : Nat) (ents : List (ByteArray × Nat)) : Prop :=
  ∃ es clock, w.heap[M]? = some (.map es clock) ∧ es.toList.map (fun e => (e.key, e.val)) = ents.map entOf
theorem MapIs.lt {w : World} {M : Nat} {ents : List (ByteArray × Nat)} (h : MapIs w M ents) : M < w.heap.size := by
  obtain ⟨es, c, h, _⟩ := h
  exact (Array.getElem?_eq_some_iff.1 h).1
theorem MapIs.only {S : List Nat} {w w' : World} {M : Nat} {ents : List (ByteArray × Nat)} (h : MapIs w M ents) (ho : Only S w w') (hS : M ∉ S) : MapIs w' M ents := by
  have hlt := h.lt
  obtain ⟨es, c, h, h2⟩ := h
  exact ⟨es, c, (ho.block M hlt hS).trans h, h2⟩
theorem MapIs.ne {w : World} {M b : Nat} {ents : List (ByteArray × Nat)} {t : TypeId} {cs : Array Value} (h : MapIs w M ents) (r : Row w b t cs) : M ≠ b := by
  rintro rfl
  obtain ⟨es, c, h, _⟩ := h
  rw [show w.heap[M]? = _ from r] at h
  simp at h

def look (s : ByteArray) : List (ByteArray × Nat) → Nat → Option (Nat × Value)
  | [], _ => none
  | p :: r, i => if s == p.1 then some (i, .pointer (some ⟨p.2, 0, none⟩)) else look s r (i + 1)
theorem findNow_look (s : ByteArray) : ∀ (l : List MapEntry) (ents : List (ByteArray × Nat)) (i : Nat), l.map (fun e => (e.key, e.val)) = ents.map entOf → Instr.findNow .string (.string s) l i = some (look s ents i)
  | [], [], i, _ => rfl
  | [], p :: r, i, h => by simp at h
  | e :: l, [], i, h => by simp at h
  | e :: l, p :: r, i, h => by
    simp only [List.map_cons, List.cons.injEq, entOf, Prod.mk.injEq] at h
    obtain ⟨⟨hk, hv⟩, hr⟩ := h
    have ih := findNow_look s l r (i + 1) hr
    unfold Instr.findNow look
    rw [hk]
    simp only [Instr.sameNow]
    cases hs : (s == p.1) with
    | true => simp [hv]
    | false => simp [ih]
def delE (s : ByteArray) (ents : List (ByteArray × Nat)) : List (ByteArray × Nat) :=
  match look s ents 0 with
  | some (i, _) => ents.eraseIdx i
  | none => ents

theorem map_eraseIdx (es : Array MapEntry) (ents : List (ByteArray × Nat)) (i : Nat) (h : es.toList.map (fun e => (e.key, e.val)) = ents.map entOf) :
    (es.eraseIdxIfInBounds i).toList.map (fun e => (e.key, e.val)) = (ents.eraseIdx i).map entOf := by
  have h1 : (es.eraseIdxIfInBounds i).toList = es.toList.eraseIdx i := by
    unfold Array.eraseIdxIfInBounds
    split
    · simp
    · rename_i hn
      rw [List.eraseIdx_of_length_le (by simpa using hn)]
  rw [h1, List.eraseIdx_eq_take_drop_succ, List.map_append, List.map_take, List.map_drop, h, ← List.map_take, ← List.map_drop, ← List.map_append, ← List.eraseIdx_eq_take_drop_succ]

theorem run_check (b : Bool) (s : ByteArray) (w : World) : (Instr.checkKey b 10000 9 (.string s)).run Yba.prog w = .ok () w := by kernel_rfl

/-- What stands of the world behind a map's turn. -/
theorem mapTurn {w : World} {M : Nat} {es : Array MapEntry} {c : Nat} (h : w.heap[M]? = some (.map es c)) (es' : Array MapEntry) (c' : Nat) : Only [M] w { w with heap := w.heap.setIfInBounds M (.map es' c') } ∧ (w.heap.setIfInBounds M (.map es' c'))[M]? = some (.map es' c') := by
  have hlt := (Array.getElem?_eq_some_iff.1 h).1
  exact ⟨⟨rfl, rfl, rfl, by simp, fun k hk hn => by simp only [List.mem_singleton] at hn; exact Array.getElem?_setIfInBounds_ne (fun e => hn e.symm)⟩, by simp [hlt]⟩

theorem run_delete {w : World} {M : Nat} {ents : List (ByteArray × Nat)} (h : MapIs w M ents) (s : ByteArray) (ty : TypeId) :
    ∃ w', (Builtin.delete_ #[104, 9] ty #[.map (some M), .string s]).run Yba.prog w = .ok (.tuple #[]) w' ∧ MapIs w' M (delE s ents) ∧ Only [M] w w' := by
  obtain ⟨es, c, hM, he⟩ := h
  have hf := findNow_look s es.toList ents 0 he
  cases hl : look s ents 0 with
  | none =>
    have hd : delE s ents = ents := by simp [delE, hl]
    rw [hl] at hf
    obtain ⟨ho, hg⟩ := mapTurn hM es c
    refine ⟨{ w with heap := w.heap.setIfInBounds M (.map es c) }, ?_, ⟨es, c, hg, by rw [hd]; exact he⟩, ho⟩
    simp [Builtin.delete_, run_underlying Yba.underlying104, run_check, run_underlying Yba.underlying9, Instr.findKey, hf, MapKept.run_getObj_map hM, setObj, Sem.run, hM]
  | some p =>
    obtain ⟨i, v⟩ := p
    have hd : delE s ents = ents.eraseIdx i := by simp [delE, hl]
    rw [hl] at hf
    obtain ⟨ho, hg⟩ := mapTurn hM (es.eraseIdxIfInBounds i) c
    refine ⟨{ w with heap := w.heap.setIfInBounds M (.map (es.eraseIdxIfInBounds i) c) }, ?_, ⟨_, c, hg, by rw [hd]; exact map_eraseIdx es ents i he⟩, ho⟩
    simp [Builtin.delete_, run_underlying Yba.underlying104, run_check, run_underlying Yba.underlying9, Instr.findKey, hf, MapKept.run_getObj_map hM, setObj, Sem.run, hM]

theorem run_look {w : World} {M : Nat} {ents : List (ByteArray × Nat)} (h : MapIs w M ents) (s : ByteArray) :
    (Instr.lookup 104 (.map (some M)) (.string s) false).run Yba.prog w = .ok (((look s ents 0).map (·.2)).getD (.pointer none)) w := by
  obtain ⟨es, c, hM, he⟩ := h
  have hf := findNow_look s es.toList ents 0 he
  have hz : ∀ w, (zeroValue 132).run Yba.prog w = .ok (.pointer none) w := fun w => by kernel_rfl
  cases hl : look s ents 0 with
  | none =>
    rw [hl] at hf
    simp [Instr.lookup, run_underlying Yba.underlying104, run_check, run_underlying Yba.underlying9, Instr.findKey, hf, MapKept.run_getObj_map hM, hz]
  | some p =>
    rw [hl] at hf
    simp [Instr.lookup, run_underlying Yba.underlying104, run_check, run_underlying Yba.underlying9, Instr.findKey, hf, MapKept.run_getObj_map hM]

theorem run_newKey {w : World} {M : Nat} {ents : List (ByteArray × Nat)} (h : MapIs w M ents) (s : ByteArray) (b : Nat) (hl : look s ents 0 = none) :
    ∃ w', (Instr.mapUpdate 104 (.map (some M)) (.string s) (.pointer (some ⟨b, 0, none⟩))).run Yba.prog w = .ok () w' ∧ MapIs w' M (ents ++ [(s, b)]) ∧ Only [M] w w' := by
  obtain ⟨es, c, hM, he⟩ := h
  have hf := findNow_look s es.toList ents 0 he
  rw [hl] at hf
  obtain ⟨ho, hg⟩ := mapTurn hM (es.push { key := .string s, val := .pointer (some ⟨b, 0, none⟩), born := c }) (c + 1)
  refine ⟨_, ?_, ⟨_, _, hg, by simp [he, entOf]⟩, ho⟩
  simp [Instr.mapUpdate, run_underlying Yba.underlying104, run_check, run_underlying Yba.underlying9, Instr.findKey, hf, MapKept.run_getObj_map hM, setObj, Sem.run, hM]
end Go.Proofs.Ybulkhba
