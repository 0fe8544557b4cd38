import Derived.Test.YbulkhbaPushP
import Derived.Test.YbulkhbaPushA
namespace Go.Proofs.Ybulkhba
open Go.RowKit
set_option linter.unusedVariables false
set_option linter.unusedSimpArgs false

/-! ### LINES AS LISTS -/
def arrCells (A : List Arr) : List Value := A.flatMap fun a => a.vs.toList
theorem arrCells_cons (x : Arr) (A : List Arr) : arrCells (x :: A) = x.vs.toList ++ arrCells A := rfl
theorem arrCells_append (A B : List Arr) : arrCells (A ++ B) = arrCells A ++ arrCells B := by simp [arrCells]
theorem arrCells_one (x : Arr) : arrCells [x] = x.vs.toList := by simp [arrCells]
theorem arrCells_length (A : List Arr) : (arrCells A).length = A.length * 7 := by
  induction A with
  | nil => rfl
  | cons x A ih => rw [arrCells_cons, List.length_append, ih]; simp; omega
theorem arrCells_oneCell (A : List Arr) : ∀ u ∈ arrCells A, u.oneCell' = true := by
  intro u hu
  simp only [arrCells, List.mem_flatMap] at hu
  obtain ⟨a, _, h⟩ := hu
  exact seven_one u h

/-- A line of arrived requests: 'hd' that have gone, then those that wait. -/
def LineA (w : World) (iv : Value) (hd : Nat) (A : List Arr) : Prop :=
  ∃ dead, w.ownsRow 0 117 7 iv (hd + A.length) (dead ++ arrCells A) ∧ dead.length = hd * 7 ∧ (A = [] → hd = 0) ∧ ∀ ad n cap, iv = .slice (some ad) n cap → 0 < cap

theorem LineA.nil (w : World) : LineA w (.slice none 0 0) 0 [] := ⟨[], World.ownsRow_nil _ _ _ _, rfl, fun _ => rfl, by simp⟩
theorem LineP.nil (w : World) : LineP w (.slice none 0 0) 0 [] := ⟨[], World.ownsRow_nil _ _ _ _, rfl, fun _ => rfl, by simp⟩
theorem LineA.only {S : List Nat} {w w' : World} {iv : Value} {hd : Nat} {A : List Arr} (h : LineA w iv hd A) (ho : Only S w w') (hS : ∀ k, iv.ownBlock = some k → k ∉ S) : LineA w' iv hd A := by
  obtain ⟨dead, h1, h2⟩ := h
  exact ⟨dead, owns_only h1 ho hS, h2⟩
theorem LineP.only {S : List Nat} {w w' : World} {iv : Value} {hd : Nat} {A : List Value} (h : LineP w iv hd A) (ho : Only S w w') (hS : ∀ k, iv.ownBlock = some k → k ∉ S) : LineP w' iv hd A := by
  obtain ⟨dead, h1, h2⟩ := h
  exact ⟨dead, owns_only h1 ho hS, h2⟩
theorem LineA.lt {w : World} {iv : Value} {hd : Nat} {A : List Arr} (h : LineA w iv hd A) : ∀ k, iv.ownBlock = some k → k < w.heap.size := by
  obtain ⟨dead, h1, _⟩ := h
  exact fun k hk => (h1.lt k hk).2
theorem LineP.lt {w : World} {iv : Value} {hd : Nat} {A : List Value} (h : LineP w iv hd A) : ∀ k, iv.ownBlock = some k → k < w.heap.size := by
  obtain ⟨dead, h1, _⟩ := h
  exact fun k hk => (h1.lt k hk).2

/-- What a line's slice is. -/
theorem LineA.shape {w : World} {iv : Value} {hd : Nat} {A : List Arr} (h : LineA w iv hd A) :
    ∃ a cap, iv = .slice a (hd + A.length) cap ∧ hd + A.length ≤ cap ∧ cap ≤ maxLen ∧ iv.ownBlock = a.map (·.block) ∧ (a = none → hd = 0 ∧ A = [] ∧ cap = 0) ∧
      ∀ g, iv.ownBlock = some g → a = some ⟨g, 0, none⟩ ∧ 0 < cap ∧ ∃ cur dead, Row w g 117 cur ∧ cur.size = cap * 7 ∧ cur.toList.take ((hd + A.length) * 7) = dead ++ arrCells A ∧ dead.length = hd * 7 := by
  obtain ⟨dead, h1, h2, h3, h4⟩ := h
  rcases h1.2 with ⟨hv, h0⟩ | ⟨g, cap, cur, hv, _, hg, hn, hc, hs, ht⟩
  · have hA : A = [] := List.eq_nil_of_length_eq_zero (by omega)
    refine ⟨none, 0, by rw [hv, h0], by omega, by decide, by rw [hv]; rfl, fun _ => ⟨by omega, hA, rfl⟩, ?_⟩
    rw [hv]; intro g hg; simp [Value.ownBlock] at hg
  · refine ⟨some ⟨g, 0, none⟩, cap, hv, hn, hc, by rw [hv]; rfl, by simp, ?_⟩
    intro g' hg'
    rw [hv] at hg'
    simp [Value.ownBlock] at hg'
    subst hg'
    exact ⟨rfl, h4 _ _ _ hv, cur, dead, hg, hs, ht, h2⟩

/-- The cells of the front one. -/
theorem LineA.front {w : World} {iv : Value} {hd : Nat} {x : Arr} {A : List Arr} {g : Nat} {cur : Array Value} {dead : List Value} (ht : cur.toList.take ((hd + (x :: A).length) * 7) = dead ++ arrCells (x :: A)) (hdl : dead.length = hd * 7) :
    ∀ j, j < 7 → cur[hd * 7 + j]? = x.vs[j]? := by
  intro j hj
  have h1 : (cur.toList.take ((hd + (x :: A).length) * 7))[hd * 7 + j]? = cur.toList[hd * 7 + j]? := List.getElem?_take_of_lt (by simp; omega)
  rw [← Array.getElem?_toList, ← h1, ht, List.getElem?_append_right (by omega), hdl, show hd * 7 + j - hd * 7 = j by omega, arrCells_cons, List.getElem?_append_left (by simpa using hj), Array.getElem?_toList]

theorem take_from (l m : List Value) (a b : Nat) (hs : l.length = m.length) (hab : a ≤ b) (h : ∀ k, a ≤ k → l[k]? = m[k]?) : (l.take b).drop a = (m.take b).drop a := by
  apply List.ext_getElem?
  intro i
  simp only [List.getElem?_drop, List.getElem?_take]
  split
  · exact h _ (by omega)
  · rfl

/-- pop, on lists. -/
theorem popA_line (T hd : Nat) (iv : Value) (x : Arr) (A : List Arr) (c0 c3 c4 c5 c6 : Value) (w : World)
    (r0 : Row w T 140 #[c0, iv, .int .i64 hd, c3, c4, c5, c6]) (hl : LineA w iv hd (x :: A)) (hne : iv.ownBlock ≠ some T) :
    Calls Yba.prog 56 #[.pointer (some ⟨T, 1, none⟩)] w fun e w' => e = .returned (.tuple #[.agg x.vs, .bool true]) ∧ Only (T :: iv.ownBlock.toList) w w' ∧
      ∃ iv' hd', Row w' T 140 #[c0, iv', .int .i64 (hd' : Nat), c3, c4, c5, c6] ∧ LineA w' iv' hd' A ∧ iv'.ownBlock = iv.ownBlock := by
  obtain ⟨a, cap, hv, hn, hc, hob, hnone, hsome⟩ := hl.shape
  cases ha : a with
  | none => exact absurd (hnone ha).2.1 (by simp)
  | some ad =>
    obtain ⟨hag, hcap0, cur, dead, hg, hs, ht, hdl⟩ := hsome ad.block (by rw [hob, ha]; rfl)
    generalize ad.block = g at *
    have hob' : iv.ownBlock = some g := by rw [hob, hag]; rfl
    have hTg : ¬ T = g := fun e => hne (by rw [hob', e])
    rw [hag] at hv
    refine (popA_any T (hd + (x :: A).length) cap hd g x c0 c3 c4 c5 c6 cur w hn hc (by simp) (by rw [← hv]; exact r0) hg (LineA.front (w := w) (iv := iv) (g := g) ht hdl) hTg).mono ?_
    rintro e w' ⟨rfl, ho, ⟨cs', hr', hsz', hk⟩, n', hd', hr0, hcase⟩
    refine ⟨rfl, by rw [hob']; exact ho, .slice (some ⟨g, 0, none⟩) n' cap, hd', hr0, ?_, by rw [hob']; rfl⟩
    have hlen : (hd + (x :: A).length) * 7 ≤ cap * 7 := Nat.mul_le_mul_right _ hn
    have hxl : (x :: A).length = A.length + 1 := rfl
    rcases hcase with ⟨h1, rfl, rfl⟩ | ⟨h1, rfl, rfl⟩
    · have hA : A = [] := List.eq_nil_of_length_eq_zero (by rw [List.length_cons] at h1; omega)
      subst hA
      exact ⟨[], ⟨by simp [arrCells], .inr ⟨g, cap, cs', rfl, Nat.zero_le _, hr', Nat.zero_le _, hc, by omega, by simp [arrCells]⟩⟩, by simp, by simp, fun ad n c h => by simp at h; omega⟩
    · have hlst : (cs'.toList.take ((hd + (x :: A).length) * 7)).drop ((hd + 1) * 7) = arrCells A := by
        rw [take_from cs'.toList cur.toList ((hd + 1) * 7) ((hd + (x :: A).length) * 7) (by simpa using hsz') (Nat.mul_le_mul_right _ (by simp)) (fun k hk' => by rw [Array.getElem?_toList, Array.getElem?_toList]; exact hk k hk'), ht]
        rw [List.drop_append, List.drop_of_length_le (by omega), List.nil_append, hdl]
        rw [arrCells_cons, show (hd + 1) * 7 - hd * 7 = x.vs.toList.length by simp; omega, List.drop_left]
      obtain ⟨L, hL⟩ : ∃ L, L = cs'.toList.take ((hd + (x :: A).length) * 7) := ⟨_, rfl⟩
      have hq : cs'.toList.length = cap * 7 := by simp; omega
      have hLl : L.length = (hd + 1 + A.length) * 7 := by rw [hL, List.length_take, hq]; omega
      have hLt : cs'.toList.take ((hd + 1 + A.length) * 7) = L := by rw [hL]; congr 2; omega
      rw [← hL] at hlst
      have hsp : L.take ((hd + 1) * 7) ++ arrCells A = L := by rw [← hlst, List.take_append_drop]
      exact ⟨L.take ((hd + 1) * 7), ⟨by rw [hsp, hLl], .inr ⟨g, cap, cs', by rw [List.length_cons]; congr 1; omega, Nat.zero_le _, hr', by omega, hc, by omega, by rw [hsp, hLt]⟩⟩, by rw [List.length_take, hLl]; omega, fun h => by subst h; simp at h1, fun ad n c h => by simp at h; omega⟩

/-- push, on lists; nothing has gone yet. -/
theorem pushA_line (T : Nat) (iv : Value) (x : Arr) (A : List Arr) (c0 c3 c4 c5 c6 : Value) (w : World)
    (r0 : Row w T 140 #[c0, iv, .int .i64 0, c3, c4, c5, c6]) (hl : LineA w iv 0 A) (hne : iv.ownBlock ≠ some T) (hA : A.length ≤ 1000000) :
    Calls Yba.prog 81 #[.pointer (some ⟨T, 1, none⟩), .agg x.vs] w fun e w' => e = .returned (.tuple #[]) ∧ Only (T :: iv.ownBlock.toList) w w' ∧
      ∃ iv', Row w' T 140 #[c0, iv', .int .i64 0, c3, c4, c5, c6] ∧ LineA w' iv' 0 (A ++ [x]) ∧ (∀ k, iv'.ownBlock = some k → iv.ownBlock = some k ∨ w.heap.size ≤ k) := by
  have fin : ∀ (w' : World) (iv' : Value), w'.ownsRow 0 117 7 iv' (A.length + 1) (arrCells A ++ x.vs.toList) → LineA w' iv' 0 (A ++ [x]) := by
    intro w' iv' h
    refine ⟨[], ?_, rfl, by simp, fun ad n c hv => ?_⟩
    · rw [List.nil_append, arrCells_append, arrCells_one, show 0 + (A ++ [x]).length = A.length + 1 by simp]
      exact h
    · subst hv
      rcases h.2 with ⟨h1, _⟩ | ⟨g, cap, cur, h1, _, _, hn, _⟩
      · simp at h1
      · simp at h1; omega
  obtain ⟨a, cap, hv, hn, hc, hob, hnone, hsome⟩ := hl.shape
  cases ha : a with
  | none =>
    obtain ⟨_, rfl, rfl⟩ := hnone ha
    rw [ha] at hv
    simp at hv
    subst hv
    refine (pushA_nil T c0 c3 c4 c5 c6 x w r0).mono ?_
    rintro e w' ⟨rfl, ho, iv', hr, hown, hnew⟩
    exact ⟨rfl, ho, iv', hr, fin w' iv' (by simpa [arrCells] using hown), fun k hk => .inr (hnew k hk)⟩
  | some ad =>
    obtain ⟨hag, hcap0, cur, dead, hg, hs, ht, hdl⟩ := hsome ad.block (by rw [hob, ha]; rfl)
    generalize ad.block = g at *
    have hob' : iv.ownBlock = some g := by rw [hob, hag]; rfl
    have hTg : ¬ T = g := fun e => hne (by rw [hob', e])
    rw [hag, Nat.zero_add] at hv
    rw [Nat.zero_add] at hn
    have hown : w.ownsRow 0 117 7 (.slice (some ⟨g, 0, none⟩) A.length cap) A.length (arrCells A) := by
      obtain ⟨dd, h1, h2, _⟩ := hl
      have : dd = [] := List.eq_nil_of_length_eq_zero (by omega)
      subst this
      rw [Nat.zero_add, List.nil_append, hv] at h1
      exact h1
    subst hv
    have post : ∀ (e : Ending) (w' : World), (e = .returned (.tuple #[]) ∧ Only [T, g] w w' ∧ ∃ iv', Row w' T 140 #[c0, iv', .int .i64 0, c3, c4, c5, c6] ∧ w'.ownsRow 0 117 7 iv' (A.length + 1) (arrCells A ++ x.vs.toList) ∧ (∀ k, iv'.ownBlock = some k → k = g ∨ w.heap.size ≤ k)) →
        (e = .returned (.tuple #[]) ∧ Only (T :: (Value.slice (some ⟨g, 0, none⟩) A.length cap).ownBlock.toList) w w' ∧
      ∃ iv', Row w' T 140 #[c0, iv', .int .i64 0, c3, c4, c5, c6] ∧ LineA w' iv' 0 (A ++ [x]) ∧ (∀ k, iv'.ownBlock = some k → (Value.slice (some ⟨g, 0, none⟩) A.length cap).ownBlock = some k ∨ w.heap.size ≤ k)) := by
      rintro e w' ⟨rfl, ho, iv', hr, hown', hnew⟩
      refine ⟨rfl, ho, iv', hr, fin w' iv' hown', fun k hk => ?_⟩
      rcases hnew k hk with h | h
      · exact .inl (by rw [h]; rfl)
      · exact .inr h
    by_cases hroom : A.length < cap
    · exact (pushA_room T g A.length cap (arrCells A) c0 c3 c4 c5 c6 x w r0 hown hTg hA hc hroom).mono post
    · by_cases h2 : 2 ≤ cap
      · exact (pushA_full T g A.length cap (arrCells A) c0 c3 c4 c5 c6 x w r0 hown hTg hA hc h2 (by omega)).mono post
      · exact (pushA_one T g A.length cap (arrCells A) c0 c3 c4 c5 c6 x w r0 hown hTg (arrCells_oneCell A) hA hc (by omega) (by omega)).mono post

/-! ### THE LINE OF POINTERS -/
theorem LineP.shape {w : World} {iv : Value} {hd : Nat} {A : List Value} (h : LineP w iv hd A) :
    ∃ a cap, iv = .slice a (hd + A.length) cap ∧ hd + A.length ≤ cap ∧ cap ≤ maxLen ∧ iv.ownBlock = a.map (·.block) ∧ (a = none → hd = 0 ∧ A = [] ∧ cap = 0) ∧
      ∀ g, iv.ownBlock = some g → a = some ⟨g, 0, none⟩ ∧ 0 < cap ∧ ∃ cur dead, Row w g 132 cur ∧ cur.size = cap ∧ cur.toList.take (hd + A.length) = dead ++ A ∧ dead.length = hd := by
  obtain ⟨dead, h1, h2, h3, h4⟩ := h
  rcases h1.2 with ⟨hv, h0⟩ | ⟨g, cap, cur, hv, _, hg, hn, hc, hs, ht⟩
  · have hA : A = [] := List.eq_nil_of_length_eq_zero (by omega)
    refine ⟨none, 0, by rw [hv, h0], by omega, by decide, by rw [hv]; rfl, fun _ => ⟨by omega, hA, rfl⟩, ?_⟩
    rw [hv]; intro g hg; simp [Value.ownBlock] at hg
  · refine ⟨some ⟨g, 0, none⟩, cap, hv, hn, hc, by rw [hv]; rfl, by simp, ?_⟩
    intro g' hg'
    rw [hv] at hg'
    simp [Value.ownBlock] at hg'
    subst hg'
    exact ⟨rfl, h4 _ _ _ hv, cur, dead, hg, by omega, by simpa using ht, h2⟩

/-- pop, on lists. -/
theorem popP_line (R hd : Nat) (iv : Value) (p : Option Addr) (A : List Value) (c0 c3 c4 : Value) (w : World)
    (r0 : Row w R 131 #[c0, iv, .int .i64 hd, c3, c4]) (hl : LineP w iv hd (.pointer p :: A)) (hne : iv.ownBlock ≠ some R) :
    Calls Yba.prog 42 #[.pointer (some ⟨R, 1, none⟩)] w fun e w' => e = .returned (.tuple #[.pointer p, .bool true]) ∧ Only (R :: iv.ownBlock.toList) w w' ∧
      ∃ iv' hd', Row w' R 131 #[c0, iv', .int .i64 (hd' : Nat), c3, c4] ∧ LineP w' iv' hd' A ∧ iv'.ownBlock = iv.ownBlock := by
  obtain ⟨a, cap, hv, hn, hc, hob, hnone, hsome⟩ := hl.shape
  have hxl : (Value.pointer p :: A).length = A.length + 1 := rfl
  cases ha : a with
  | none => exact absurd (hnone ha).2.1 (by simp)
  | some ad =>
    obtain ⟨hag, hcap0, cur, dead, hg, hs, ht, hdl⟩ := hsome ad.block (by rw [hob, ha]; rfl)
    generalize ad.block = g at *
    have hob' : iv.ownBlock = some g := by rw [hob, hag]; rfl
    have hTg : ¬ R = g := fun e => hne (by rw [hob', e])
    rw [hag] at hv
    have hcs : cur[hd]? = some (.pointer p) := by
      have h1 : (cur.toList.take (hd + (Value.pointer p :: A).length))[hd]? = cur.toList[hd]? := List.getElem?_take_of_lt (by omega)
      rw [← Array.getElem?_toList, ← h1, ht, List.getElem?_append_right (by omega), hdl, Nat.sub_self]
      rfl
    refine (popP_any R (hd + (Value.pointer p :: A).length) cap hd g p c0 c3 c4 cur w hn hc (by omega) (by rw [← hv]; exact r0) hg hcs hTg).mono ?_
    rintro e w' ⟨rfl, ho, hr', n', hd', hr0, hcase⟩
    refine ⟨rfl, by rw [hob']; exact ho, .slice (some ⟨g, 0, none⟩) n' cap, hd', hr0, ?_, by rw [hob']; rfl⟩
    rcases hcase with ⟨h1, rfl, rfl⟩ | ⟨h1, rfl, rfl⟩
    · have hA : A = [] := List.eq_nil_of_length_eq_zero (by omega)
      subst hA
      exact ⟨[], ⟨by simp, .inr ⟨g, cap, _, rfl, Nat.zero_le _, hr', Nat.zero_le _, hc, by simp; omega, by simp⟩⟩, by simp, by simp, fun ad n c h => by simp at h; omega⟩
    · have hlst : ((cur.setIfInBounds hd (.pointer none)).toList.take (hd + (Value.pointer p :: A).length)).drop (hd + 1) = A := by
        rw [take_from _ cur.toList (hd + 1) (hd + (Value.pointer p :: A).length) (by simp) (by omega) (fun k hk' => by rw [Array.getElem?_toList, Array.getElem?_toList, Array.getElem?_setIfInBounds_ne (by omega)]), ht]
        rw [List.drop_append, List.drop_of_length_le (by omega), List.nil_append, hdl, show hd + 1 - hd = 1 by omega]
        rfl
      obtain ⟨L, hL⟩ : ∃ L, L = (cur.setIfInBounds hd (.pointer none)).toList.take (hd + (Value.pointer p :: A).length) := ⟨_, rfl⟩
      have hq : (cur.setIfInBounds hd (.pointer none)).toList.length = cap := by simp; omega
      have hLl : L.length = hd + 1 + A.length := by rw [hL, List.length_take, hq]; omega
      have hLt : (cur.setIfInBounds hd (.pointer none)).toList.take (hd + 1 + A.length) = L := by rw [hL]; congr 1; omega
      rw [← hL] at hlst
      have hsp : L.take (hd + 1) ++ A = L := by
        have := List.take_append_drop (hd + 1) L
        rw [hlst] at this
        exact this
      exact ⟨L.take (hd + 1), ⟨by rw [hsp, hLl]; omega, .inr ⟨g, cap, cur.setIfInBounds hd (.pointer none), by congr 1; omega, Nat.zero_le _, hr', by omega, hc, by simp; omega, by rw [hsp, Nat.mul_one, hLt]⟩⟩, by rw [List.length_take, hLl]; omega, fun h => by subst h; simp at h1, fun ad n c h => by simp at h; omega⟩

/-- push, on lists. -/
theorem pushP_line (R hd : Nat) (iv : Value) (p : Option Addr) (A : List Value) (c0 c3 c4 : Value) (w : World)
    (r0 : Row w R 131 #[c0, iv, .int .i64 hd, c3, c4]) (hl : LineP w iv hd A) (hne : iv.ownBlock ≠ some R) (hA : A.length ≤ 1000000) (h1c : ∀ u ∈ A, u.oneCell' = true) :
    Calls Yba.prog 51 #[.pointer (some ⟨R, 1, none⟩), .pointer p] w fun e w' => e = .returned (.tuple #[]) ∧ Only (R :: iv.ownBlock.toList) w w' ∧
      ∃ iv' hd', Row w' R 131 #[c0, iv', .int .i64 (hd' : Nat), c3, c4] ∧ LineP w' iv' hd' (A ++ [.pointer p]) ∧ (∀ k, iv'.ownBlock = some k → iv.ownBlock = some k ∨ w.heap.size ≤ k) := by
  obtain ⟨a, cap, hv, hn, hc, hob, hnone, hsome⟩ := hl.shape
  cases ha : a with
  | none =>
    obtain ⟨rfl, rfl, rfl⟩ := hnone ha
    rw [ha] at hv
    simp at hv
    subst hv
    refine (pushP_nil R c0 c3 c4 p w r0).mono ?_
    rintro e w' ⟨rfl, ho, iv', hr, hlp, hnew⟩
    exact ⟨rfl, ho, iv', 0, hr, hlp, fun k hk => .inr (hnew k hk)⟩
  | some ad =>
    obtain ⟨hag, hcap0, cur, dead, hg, hs, ht, hdl⟩ := hsome ad.block (by rw [hob, ha]; rfl)
    generalize ad.block = g at *
    have hob' : iv.ownBlock = some g := by rw [hob, hag]; rfl
    have hTg : ¬ R = g := fun e => hne (by rw [hob', e])
    rw [hag] at hv
    have post : ∀ (h' : Nat) (e : Ending) (w' : World), (e = .returned (.tuple #[]) ∧ Only [R, g] w w' ∧ ∃ iv', Row w' R 131 #[c0, iv', .int .i64 h', c3, c4] ∧ LineP w' iv' h' (A ++ [.pointer p]) ∧ (∀ k, iv'.ownBlock = some k → k = g ∨ w.heap.size ≤ k)) →
        (e = .returned (.tuple #[]) ∧ Only (R :: iv.ownBlock.toList) w w' ∧
      ∃ iv' hd', Row w' R 131 #[c0, iv', .int .i64 (hd' : Nat), c3, c4] ∧ LineP w' iv' hd' (A ++ [.pointer p]) ∧ (∀ k, iv'.ownBlock = some k → iv.ownBlock = some k ∨ w.heap.size ≤ k)) := by
      rintro h' e w' ⟨rfl, ho, iv', hr, hlp, hnew⟩
      refine ⟨rfl, by rw [hob']; exact ho, iv', h', hr, hlp, fun k hk => ?_⟩
      rcases hnew k hk with h | h
      · exact .inl (by rw [hob', h])
      · exact .inr h
    by_cases hsl : hd + A.length = cap ∧ cap / 2 ≤ hd
    · obtain ⟨h1, h2⟩ := hsl
      have hA0 : 0 < A.length := by
        rcases Nat.eq_zero_or_pos A.length with h | h
        · obtain ⟨_, _, _, h3, _⟩ := hl
          have := h3 (List.eq_nil_of_length_eq_zero h)
          omega
        · exact h
      have hcl : cur.toList = dead ++ A := by rw [← ht, List.take_of_length_le (by simp; omega)]
      have := post 0
      exact (pushP_slide R g hd cap A dead c0 c3 c4 p w (by rw [hv, h1] at r0; exact r0) cur hg hs hcl hdl hc h1.symm h1c hTg hA hA0 h2).mono (by simpa using this)
    · refine (pushP_plain R g hd cap A dead c0 c3 c4 p w (by rw [hv] at r0; exact r0) ⟨by simp; omega, .inr ⟨g, cap, cur, rfl, Nat.zero_le _, hg, hn, hc, by omega, by simpa using ht⟩⟩ hdl hc hTg hA ?_).mono (post hd)
      rcases Nat.lt_or_ge (hd + A.length) cap with h | h
      · exact .inl h
      · have h5 : hd + A.length = cap := by omega
        exact .inr ⟨h5, by rw [h5]; rcases Nat.lt_or_ge hd (cap / 2) with h6 | h6; exact h6; exact absurd ⟨h5, h6⟩ hsl⟩
end Go.Proofs.Ybulkhba
