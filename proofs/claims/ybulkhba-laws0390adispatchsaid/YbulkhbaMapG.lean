import Derived.Test.YbulkhbaMapF
import Derived.Test.YbulkhbaPlain
namespace Go.Proofs.Ybulkhba
open Go.RowKit
set_option linter.unusedVariables false
set_option linter.unusedSimpArgs false

/-- What a map's type is to the laws. -/
structure MapTy {α : Type} [DecidableEq α] (kv : α → Value) (t kt et : TypeId) (kd : TypeDesc) (z : Value) : Prop where
  hu : Yba.prog.underlying t = some (.map kt et)
  hk : Yba.prog.underlying kt = some kd
  hs : ∀ a b : α, Instr.sameNow kd (kv a) (kv b) = some (decide (b = a))
  hck : ∀ (b : Bool) (a : α) (w : World), (Instr.checkKey b 10000 kt (kv a)).run Yba.prog w = .ok () w
  hz : ∀ w, (zeroValue et).run Yba.prog w = .ok z w
  hst : ∀ (a : α) (w : World), (Instr.keyThatStays (kv a) (kv a)).run Yba.prog w = .ok (kv a) w
section
variable {α β : Type} [DecidableEq α] {kv : α → Value} {vv : β → Value} {w : World} {M : Nat} {F : α → Option β} {n : Nat} {t kt et : TypeId} {kd : TypeDesc} {z : Value}
theorem MapF.look (h : MapF kv vv w M F n) (T : MapTy kv t kt et kd z) (a : α) : (Instr.lookup t (.map (some M)) (kv a) false).run Yba.prog w = .ok (((F a).map vv).getD z) w := by
  obtain ⟨es, c, ents, hM, he, hn, hF, hl⟩ := h
  have hf := findNow_lookL T.hs a es.toList ents 0 he
  have hg := lookL_get a ents 0
  rw [hF a, ← hg]
  cases hl2 : lookL a ents 0 with
  | none =>
    rw [hl2] at hf
    simp at hf
    simp [Instr.lookup, run_underlying T.hu, T.hck, run_underlying T.hk, Instr.findKey, hf, MapKept.run_getObj_map hM, T.hz]
  | some p =>
    rw [hl2] at hf
    simp at hf
    simp [Instr.lookup, run_underlying T.hu, T.hck, run_underlying T.hk, Instr.findKey, hf, MapKept.run_getObj_map hM]
theorem MapF.look_ok (h : MapF kv vv w M F n) (T : MapTy kv t kt et kd z) (a : α) : (Instr.lookup t (.map (some M)) (kv a) true).run Yba.prog w = .ok (.tuple #[((F a).map vv).getD z, .bool (F a).isSome]) w := by
  obtain ⟨es, c, ents, hM, he, hn, hF, hl⟩ := h
  have hf := findNow_lookL T.hs a es.toList ents 0 he
  have hg := lookL_get a ents 0
  rw [hF a, ← hg]
  cases hl2 : lookL a ents 0 with
  | none =>
    rw [hl2] at hf
    simp at hf
    simp [Instr.lookup, run_underlying T.hu, T.hck, run_underlying T.hk, Instr.findKey, hf, MapKept.run_getObj_map hM, T.hz]
  | some p =>
    rw [hl2] at hf
    simp at hf
    simp [Instr.lookup, run_underlying T.hu, T.hck, run_underlying T.hk, Instr.findKey, hf, MapKept.run_getObj_map hM]
theorem MapF.len (h : MapF kv vv w M F n) (hu : Yba.prog.underlying t = some (.map kt et)) (ty : TypeId) : (Builtin.len_ #[t] ty #[.map (some M)]).run Yba.prog w = .ok (.int .i64 n) w := by
  obtain ⟨es, c, ents, hM, he, hn, hF, hl⟩ := h
  have e : es.size = n := by
    have := congrArg List.length he
    simp at this
    omega
  simp [Builtin.len_, run_underlying hu, MapKept.run_getObj_map hM, goInt, Result.andThen, e]
theorem mapTurnF {w : World} {M : Nat} {es : Array MapEntry} {c : Nat} (h : w.heap[M]? = some (.map es c)) (es' : Array MapEntry) (c' : Nat) : Only [M] w { w with heap := w.heap.setIfInBounds M (.map es' c') } ∧ (w.heap.setIfInBounds M (.map es' c'))[M]? = some (.map es' c') := by
  have hlt := (Array.getElem?_eq_some_iff.1 h).1
  exact ⟨⟨rfl, rfl, rfl, by simp, fun k hk hn => by simp only [List.mem_singleton] at hn; exact Array.getElem?_setIfInBounds_ne (fun e => hn e.symm)⟩, by simp [hlt]⟩
theorem MapF.put (h : MapF kv vv w M F n) (T : MapTy kv t kt et kd z) (a : α) (b : β) :
    ∃ w', (Instr.mapUpdate t (.map (some M)) (kv a) (vv b)).run Yba.prog w = .ok () w' ∧ MapF kv vv w' M (fun x => if x = a then some b else F x) (if (F a).isSome then n else n + 1) ∧ Only [M] w w' := by
  obtain ⟨es, c, ents, hM, he, hn, hF, hl⟩ := h
  have hf := findNow_lookL T.hs a es.toList ents 0 he
  have hg := lookL_get a ents 0
  have hF' : ∀ x, (fun x => if x = a then some b else F x) x = getL x (putL a b ents) := fun x => by rw [getL_put, ← hF]
  cases hl2 : lookL a ents 0 with
  | none =>
    rw [hl2] at hf hg
    simp at hf hg
    obtain ⟨hp, hgn⟩ := putL_new (b := b) hl2
    obtain ⟨ho, hh⟩ := mapTurnF hM (es.push { key := kv a, val := vv b, born := c }) (c + 1)
    refine ⟨{ w with heap := w.heap.setIfInBounds M (.map (es.push { key := kv a, val := vv b, born := c }) (c + 1)) }, ?_, ⟨_, _, putL a b ents, hh, by rw [hp]; simp [he], putL_nodup hn, hF', ?_⟩, ho⟩
    · simp [Instr.mapUpdate, run_underlying T.hu, T.hck, run_underlying T.hk, Instr.findKey, hf, MapKept.run_getObj_map hM, MapKept.run_setObj_map _ hM]
    · rw [putL_len_new hgn, hF a, hgn, hl]; rfl
  | some p =>
    obtain ⟨i, b'⟩ := p
    rw [hl2] at hf hg
    simp at hf hg
    obtain ⟨_, hi, hp, _, hk⟩ := putL_at (b := b) hl2
    simp only [Nat.sub_zero] at hi hp hk
    have hsz : es.size = ents.length := by have := congrArg List.length he; simpa using this
    have hkey : ((es[i]?).map (·.key)).getD (kv a) = kv a := by
      have h1 := congrArg (fun l => (l[i]?).map Prod.fst) he
      simp only [List.getElem?_map, Array.getElem?_toList, Option.map_map] at h1
      cases he2 : es[i]? with
      | none => rfl
      | some e =>
        rw [he2] at h1
        cases hn2 : ents[i]? with
        | none => rw [hn2] at h1; simp at h1
        | some q =>
          rw [hn2] at h1 hk
          simp at h1 hk
          simp [h1, hk]
    obtain ⟨ho, hh⟩ := mapTurnF hM (es.modify i fun e => { e with key := kv a, val := vv b }) c
    refine ⟨{ w with heap := w.heap.setIfInBounds M (.map (es.modify i fun e => { e with key := kv a, val := vv b }) c) }, ?_, ⟨_, _, putL a b ents, hh, ?_, putL_nodup hn, hF', ?_⟩, ho⟩
    · simp [Instr.mapUpdate, run_underlying T.hu, T.hck, run_underlying T.hk, Instr.findKey, hf, MapKept.run_getObj_map hM, MapKept.run_setObj_map _ hM, hkey, T.hst]
    · rw [hp, List.map_set, ← he]
      apply List.ext_getElem?
      intro j
      simp only [List.getElem?_map, Array.getElem?_toList, Array.getElem?_modify, List.getElem?_set, List.length_map, Array.length_toList]
      by_cases e : i = j
      · subst e
        have hlt : i < es.size := by omega
        simp [hlt]
      · simp [e]
    · rw [putL_len_old hg.symm, hF a, ← hg, hl]; rfl
theorem MapF.del (h : MapF kv vv w M F n) (T : MapTy kv t kt et kd z) (a : α) (ty : TypeId) :
    ∃ w', (Builtin.delete_ #[t, kt] ty #[.map (some M), kv a]).run Yba.prog w = .ok (.tuple #[]) w' ∧ MapF kv vv w' M (fun x => if x = a then none else F x) (if (F a).isSome then n - 1 else n) ∧ Only [M] w w' := by
  obtain ⟨es, c, ents, hM, he, hn, hF, hl⟩ := h
  have hf := findNow_lookL T.hs a es.toList ents 0 he
  have hg := lookL_get a ents 0
  have hF' : ∀ x, (fun x => if x = a then none else F x) x = getL x (delL a ents) := fun x => by rw [getL_del a x hn, ← hF]
  cases hl2 : lookL a ents 0 with
  | none =>
    rw [hl2] at hf hg
    simp at hf hg
    have hd := delL_none hg.symm
    obtain ⟨ho, hh⟩ := mapTurnF hM es c
    refine ⟨{ w with heap := w.heap.setIfInBounds M (.map es c) }, ?_, ⟨es, c, delL a ents, hh, by rw [hd]; exact he, delL_nodup hn, hF', ?_⟩, ho⟩
    · simp [Builtin.delete_, run_underlying T.hu, T.hck, run_underlying T.hk, Instr.findKey, hf, MapKept.run_getObj_map hM, setObj, Sem.run, hM]
    · rw [hd, hF a, ← hg, hl]; rfl
  | some p =>
    obtain ⟨i, b'⟩ := p
    rw [hl2] at hf hg
    simp at hf hg
    obtain ⟨_, hi, _, hp, hk⟩ := putL_at (b := b') hl2
    simp only [Nat.sub_zero] at hi hp hk
    obtain ⟨ho, hh⟩ := mapTurnF hM (es.eraseIdxIfInBounds i) c
    refine ⟨{ w with heap := w.heap.setIfInBounds M (.map (es.eraseIdxIfInBounds i) c) }, ?_, ⟨_, c, delL a ents, hh, ?_, delL_nodup hn, hF', ?_⟩, ho⟩
    · simp [Builtin.delete_, run_underlying T.hu, T.hck, run_underlying T.hk, Instr.findKey, hf, MapKept.run_getObj_map hM, setObj, Sem.run, hM]
    · have h1 : (es.eraseIdxIfInBounds i).toList = es.toList.eraseIdx i := by
        unfold Array.eraseIdxIfInBounds
        split
        · simp
        · rename_i hn
          rw [List.eraseIdx_of_length_le (by simpa using hn)]
      rw [h1, hp, List.eraseIdx_eq_take_drop_succ, List.eraseIdx_eq_take_drop_succ, List.map_append, List.map_take, List.map_drop, he, ← List.map_take, ← List.map_drop, ← List.map_append]
    · have := delL_len hg.symm
      rw [hF a, ← hg]
      simp
      omega
end
abbrev kvI : Int → Value := fun a => .int .i64 a
abbrev vvP : Nat → Value := fun b => .pointer (some ⟨b, 0, none⟩)
abbrev kvS : Fin 3 → Value := fun k => .string (nameB k.val)
abbrev vvI : Int → Value := fun a => .int .i64 a
theorem mapTy49 : MapTy kvI 49 3 75 (.int .i64) (.pointer none) := by
  refine ⟨Yba.underlying49, Yba.underlying3, fun a b => ?_, fun b a w => by kernel_rfl, fun w => by kernel_rfl, fun a w => ?_⟩
  · simp only [kvI, Instr.sameNow]
    by_cases e : b = a
    · simp [e]
    · have e2 : ¬ a = b := fun h => e h.symm
      simp [e, e2]
  · have hb : Instr.sameBits 10000 (.int .i64 a) (.int .i64 a) = true := by simp [Instr.sameBits]
    simp [kvI, Instr.keyThatStays, hb]
theorem mapTy50 : MapTy kvS 50 9 2 .string (.int .i64 0) := by
  refine ⟨Yba.underlying50, Yba.underlying9, fun a b => ?_, fun b a w => by kernel_rfl, fun w => by kernel_rfl, fun a w => ?_⟩
  · simp only [kvS, Instr.sameNow]
    rw [nameB_eq a.isLt b.isLt]
    congr 1
    by_cases e : b = a
    · simp [e]
    · have e2 : ¬ a.val = b.val := fun h => e (Fin.ext h).symm
      simp [e, e2]
  · have hb : Instr.sameBits 10000 (.string (nameB a.val)) (.string (nameB a.val)) = true := by
      simp only [Instr.sameBits]
      rw [nameB_eq a.isLt a.isLt]; simp
    simp [kvS, Instr.keyThatStays, hb]
end Go.Proofs.Ybulkhba
