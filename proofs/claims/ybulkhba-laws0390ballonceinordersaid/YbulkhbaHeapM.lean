import Derived.Test.YbulkhbaHeap
namespace Go.Proofs.Ybulkhba
open Go.RowKit
set_option linter.unusedVariables false
set_option linter.unusedSimpArgs false

/-! ### THE HEAP IN MEMORY -/
def HeapAt (W : World) (g cap : Nat) (H : List Arr) : Prop := ∃ cs, Row W g 117 cs ∧ cs.size = cap * 7 ∧ ∀ i (h : i < H.length), ∀ c, c < 7 → cs[i * 7 + c]? = H[i].vs[c]?
def HeapL (W : World) (ev : Value) (H : List Arr) : Prop :=
  (ev = .slice none 0 0 ∧ H = []) ∨ ∃ g cap, ev = .slice (some ⟨g, 0, none⟩) H.length cap ∧ H.length ≤ cap ∧ cap ≤ maxLen ∧ HeapAt W g cap H
theorem HeapAt.lt {W : World} {g cap : Nat} {H : List Arr} (h : HeapAt W g cap H) : g < W.heap.size := by obtain ⟨cs, r, _⟩ := h; exact r.lt
theorem HeapAt.only {S : List Nat} {W W' : World} {g cap : Nat} {H : List Arr} (h : HeapAt W g cap H) (ho : Only S W W') (hg : g ∉ S) : HeapAt W' g cap H := by
  obtain ⟨cs, r, h2, h3⟩ := h
  exact ⟨cs, r.only ho hg, h2, h3⟩
theorem HeapAt.cell {W : World} {g cap : Nat} {H : List Arr} (h : HeapAt W g cap H) (i : Nat) (hi : i < H.length) (c : Nat) (hc : c < 7) : W.cell? ⟨g, i * 7 + c, none⟩ = H[i].vs[c]? := by
  obtain ⟨cs, r, h2, h3⟩ := h
  rw [r.cell, h3 i hi c hc]
theorem HeapAt.frozen {W : World} {g cap : Nat} {H : List Arr} (h : HeapAt W g cap H) (k : Nat) : W.frozen? ⟨g, k, none⟩ = false := by
  obtain ⟨cs, r, _⟩ := h
  exact r.frozen k
theorem HeapAt.ne {W : World} {g cap b : Nat} {H : List Arr} {ty : TypeId} {cs : Array Value} (h : HeapAt W g cap H) (r : Row W b ty cs) (ht : ty ≠ 117) : g ≠ b := by
  obtain ⟨cs', r', _⟩ := h
  exact r'.ne r (Ne.symm ht)
theorem HeapAt.takeN {W : World} {g cap : Nat} {H : List Arr} (h : HeapAt W g cap H) (n : Nat) : HeapAt W g cap (H.take n) := by
  obtain ⟨cs, r, h2, h3⟩ := h
  refine ⟨cs, r, h2, fun i hi c hc => ?_⟩
  have hi' : i < H.length := by simp at hi; omega
  rw [h3 i hi' c hc]
  simp
/-- Seven cells laid into the i-th place. -/
abbrev set7 (W : World) (g i : Nat) (a : Arr) : World :=
  ((((((W.setCell ⟨g, i * 7, none⟩ (.int .i64 a.r.id)).setCell ⟨g, i * 7 + 1, none⟩ (.string a.r.tn)).setCell ⟨g, i * 7 + 2, none⟩ (.int .i64 a.r.tk)).setCell ⟨g, i * 7 + 3, none⟩ (.int .i64 a.r.pr)).setCell ⟨g, i * 7 + 4, none⟩ (.int .i64 a.r.dl)).setCell ⟨g, i * 7 + 5, none⟩ (.bool a.r.hd)).setCell ⟨g, i * 7 + 6, none⟩ (.int .u64 a.sq)
theorem only_set7 (W : World) (g i : Nat) (a : Arr) : Only [g] W (set7 W g i a) :=
  (((((((Only.refl _ _).setCell (by simp) _).setCell (by simp) _).setCell (by simp) _).setCell (by simp) _).setCell (by simp) _).setCell (by simp) _).setCell (by simp) _
theorem HeapAt.set {W : World} {g cap : Nat} {H : List Arr} (h : HeapAt W g cap H) (i : Nat) (hi : i < H.length) (hc : H.length ≤ cap) (a : Arr) : HeapAt (set7 W g i a) g cap (H.set i a) := by
  obtain ⟨cs, r, h2, h3⟩ := h
  refine ⟨_, (((((((r.set (i * 7) _).set (i * 7 + 1) _).set (i * 7 + 2) _).set (i * 7 + 3) _).set (i * 7 + 4) _).set (i * 7 + 5) _).set (i * 7 + 6) _), by simpa using h2, ?_⟩
  intro j hj c hc7
  have hj' : j < H.length := by simpa using hj
  by_cases e : j = i
  · subst e
    rw [List.getElem_set_self]
    have e : c = 0 ∨ c = 1 ∨ c = 2 ∨ c = 3 ∨ c = 4 ∨ c = 5 ∨ c = 6 := by omega
    have l6 : j * 7 + 6 < cs.size := by omega
    rcases e with rfl | rfl | rfl | rfl | rfl | rfl | rfl <;> simp [Array.getElem?_setIfInBounds] <;> omega
  · rw [List.getElem_set_ne (Ne.symm e), ← h3 j hj' c hc7]
    rw [Array.getElem?_setIfInBounds_ne (by omega), Array.getElem?_setIfInBounds_ne (by omega), Array.getElem?_setIfInBounds_ne (by omega), Array.getElem?_setIfInBounds_ne (by omega), Array.getElem?_setIfInBounds_ne (by omega), Array.getElem?_setIfInBounds_ne (by omega), Array.getElem?_setIfInBounds_ne (by omega)]
theorem arrCells_get : ∀ (H : List Arr) (i : Nat) (hi : i < H.length) (c : Nat), c < 7 → (arrCells H)[i * 7 + c]? = H[i].vs[c]?
  | [], i, hi, _, _ => by simp at hi
  | a :: H, 0, _, c, hc => by
    rw [arrCells_cons, List.getElem?_append_left (by simp; omega)]
    simp
  | a :: H, i + 1, hi, c, hc => by
    have ih := arrCells_get H i (by simpa using hi) c hc
    rw [arrCells_cons, List.getElem?_append_right (by simp; omega)]
    simp only [List.getElem_cons_succ]
    rw [← ih]
    congr 1
    simp
    omega
theorem heapL_of_owns {W : World} {ev : Value} {H : List Arr} (h : W.ownsRow 0 117 7 ev H.length (arrCells H)) : HeapL W ev H := by
  obtain ⟨hl, h | ⟨g, cap, cur, hv, _, hg, hcap, hm, hs, ht⟩⟩ := h
  · exact .inl ⟨h.1, List.eq_nil_of_length_eq_zero h.2⟩
  · refine .inr ⟨g, cap, hv, hcap, hm, cur, hg, hs, fun i hi c hc => ?_⟩
    rw [← arrCells_get H i hi c hc, ← ht, List.getElem?_take, if_pos (by omega)]
    simp
theorem owns_of_heapL {W : World} {ev : Value} {H : List Arr} (h : HeapL W ev H) : W.ownsRow 0 117 7 ev H.length (arrCells H) := by
  refine ⟨arrCells_length H, ?_⟩
  rcases h with ⟨h1, h2⟩ | ⟨g, cap, hv, hcap, hm, cs, r, hs, hc⟩
  · subst h2; exact .inl ⟨h1, rfl⟩
  · refine .inr ⟨g, cap, cs, hv, Nat.zero_le _, r, hcap, hm, hs, ?_⟩
    apply List.ext_getElem?
    intro k
    rw [List.getElem?_take]
    split
    · rename_i hk
      have h1 := hc (k / 7) (by omega) (k % 7) (by omega)
      have h2 := arrCells_get H (k / 7) (by omega) (k % 7) (by omega)
      have e : k / 7 * 7 + k % 7 = k := by omega
      rw [e] at h1 h2
      rw [h2, ← h1]
      simp
    · rename_i hk
      rw [List.getElem?_eq_none]
      rw [arrCells_length]; omega
theorem HeapL.only {S : List Nat} {W W' : World} {ev : Value} {H : List Arr} (h : HeapL W ev H) (ho : Only S W W') (hS : ∀ k, ev.ownBlock = some k → k ∉ S) : HeapL W' ev H := by
  rcases h with h | ⟨g, cap, rfl, hc, hm, hh⟩
  · exact .inl h
  · exact .inr ⟨g, cap, rfl, hc, hm, hh.only ho (hS g rfl)⟩
theorem HeapL.lt {W : World} {ev : Value} {H : List Arr} (h : HeapL W ev H) : ∀ k, ev.ownBlock = some k → k < W.heap.size := by
  intro k hk
  rcases h with ⟨rfl, _⟩ | ⟨g, cap, rfl, hc, hm, hh⟩
  · simp [Value.ownBlock] at hk
  · simp [Value.ownBlock] at hk; subst hk; exact hh.lt
theorem HeapL.row {W : World} {ev : Value} {H : List Arr} (h : HeapL W ev H) : ∀ k, ev.ownBlock = some k → ∃ cs, Row W k 117 cs := by
  intro k hk
  rcases h with ⟨rfl, _⟩ | ⟨g, cap, rfl, hc, hm, cs, r, _⟩
  · simp [Value.ownBlock] at hk
  · simp [Value.ownBlock] at hk; subst hk; exact ⟨cs, r⟩
theorem HeapL.ne {W : World} {ev : Value} {H : List Arr} {b : Nat} {ty : TypeId} {cs : Array Value} (h : HeapL W ev H) (r : Row W b ty cs) (ht : ty ≠ 117) : ev.ownBlock ≠ some b := by
  intro e
  obtain ⟨cs', r'⟩ := h.row b e
  exact absurd rfl (r'.ne r (Ne.symm ht))
theorem HeapL.shape {W : World} {ev : Value} {H : List Arr} (h : HeapL W ev H) : ∃ a cap, ev = .slice a H.length cap ∧ H.length ≤ cap ∧ cap ≤ maxLen := by
  rcases h with ⟨rfl, rfl⟩ | ⟨g, cap, rfl, hc, hm, hh⟩
  · exact ⟨none, 0, rfl, by simp, by simp [maxLen]⟩
  · exact ⟨_, cap, rfl, hc, hm⟩
theorem HeapL.at {W : World} {ev : Value} {H : List Arr} (h : HeapL W ev H) (hne : 0 < H.length) : ∃ g cap, ev = .slice (some ⟨g, 0, none⟩) H.length cap ∧ H.length ≤ cap ∧ cap ≤ maxLen ∧ HeapAt W g cap H := by
  rcases h with ⟨_, h⟩ | h
  · rw [h] at hne; simp at hne
  · exact h
theorem HeapL.nil (W : World) : HeapL W (.slice none 0 0) [] := .inl ⟨rfl, rfl⟩
end Go.Proofs.Ybulkhba
