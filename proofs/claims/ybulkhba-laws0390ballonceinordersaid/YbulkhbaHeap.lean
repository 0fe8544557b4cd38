import Derived.Test.YbulkhbaOrdPushS
namespace Go.Proofs.Ybulkhba
open Go.RowKit
set_option linter.unusedVariables false
set_option linter.unusedSimpArgs false

/-! ### THE ORDER OF TWO ARRIVED REQUESTS, as a lexicographic order -/
def bf (a b : Arr) : Bool := beforeB a.r.pr a.r.dl a.r.hd a.sq b.r.pr b.r.dl b.r.hd b.sq
def hKey (h : Bool) : Int := if h then 0 else 1
def dKey (h : Bool) (d : Int) : Int := if h then d else 0
def lex4 (p h d s p' h' d' s' : Int) : Prop := p' < p ∨ (p = p' ∧ (h < h' ∨ (h = h' ∧ (d < d' ∨ (d = d' ∧ s < s')))))
theorem bf_lex (a b : Arr) : bf a b = true ↔ lex4 a.r.pr (hKey a.r.hd) (dKey a.r.hd a.r.dl) a.sq b.r.pr (hKey b.r.hd) (dKey b.r.hd b.r.dl) b.sq := by
  unfold bf beforeB rankI cmpI lex4 hKey dKey
  rcases Int.lt_trichotomy a.r.pr b.r.pr with h | h | h
  · have h1 : a.r.pr ≠ b.r.pr := by omega
    have h2 : ¬ b.r.pr < a.r.pr := by omega
    simp [h1, h, h2]
  · cases a.r.hd <;> cases b.r.hd <;> simp [h]
    rcases Int.lt_trichotomy a.r.dl b.r.dl with g | g | g
    · simp [g]
    · simp [g]
    · have g2 : ¬ a.r.dl < b.r.dl := by omega
      have g3 : a.r.dl ≠ b.r.dl := by omega
      simp [g, g2, g3]
  · have h1 : a.r.pr ≠ b.r.pr := by omega
    simp [h1, h]
def le (a b : Arr) : Prop := bf b a = false
theorem le_iff (a b : Arr) : le a b ↔ ¬ lex4 b.r.pr (hKey b.r.hd) (dKey b.r.hd b.r.dl) b.sq a.r.pr (hKey a.r.hd) (dKey a.r.hd a.r.dl) a.sq := by
  unfold le
  rw [← Bool.not_eq_true, bf_lex]
theorem le_refl (a : Arr) : le a a := by rw [le_iff]; unfold lex4; omega
theorem le_trans {a b c : Arr} (h1 : le a b) (h2 : le b c) : le a c := by rw [le_iff] at *; unfold lex4 at *; omega
theorem le_of_bf {a b : Arr} (h : bf a b = true) : le a b := by rw [le_iff]; rw [bf_lex] at h; unfold lex4 at *; omega
theorem bf_of_le {a b : Arr} (h : le a b) (hs : a.sq ≠ b.sq) : bf a b = true := by rw [bf_lex]; rw [le_iff] at h; unfold lex4 at *; omega
theorem bf_le_trans {a b c : Arr} (h1 : bf a b = true) (h2 : le b c) : bf a c = true := by rw [bf_lex] at *; rw [le_iff] at h2; unfold lex4 at *; omega
theorem le_bf_trans {a b c : Arr} (h1 : le a b) (h2 : bf b c = true) : bf a c = true := by rw [bf_lex] at *; rw [le_iff] at h1; unfold lex4 at *; omega

/-! ### THE HEAP, PLAIN -/
def par (i : Nat) : Nat := (i - 1) / 2
def Heap (H : List Arr) : Prop := ∀ j (h0 : 0 < j) (hj : j < H.length), le (H[par j]'(by unfold par; omega)) H[j]

def up (v : Arr) (H : List Arr) (i : Nat) : List Arr :=
  if h : 0 < i then
    if bf v (H.getD (par i) v) then up v (H.set i (H.getD (par i) v)) (par i) else H.set i v
  else H.set i v
termination_by i
decreasing_by unfold par; omega

/-- 'With v in the hole': two cells exchanged. -/
theorem hole_swap (H : List Arr) (i p : Nat) (v : Arr) (hi : i < H.length) (hp : p < H.length) (hne : i ≠ p) : ((H.set i (H.getD p v)).set p v).Perm (H.set i v) := by
  have h := @Array.swap_perm _ (H.set i v).toArray i p (by simpa using hi) (by simpa using hp)
  rw [Array.swap_def] at h
  have h' := Array.perm_iff_toList_perm.1 h
  simp [hi, hp, hne, List.getElem_set, Ne.symm hne] at h'
  have e : H.getD p v = H[p] := by simp [List.getD_eq_getElem?_getD, hp]
  rw [e]
  exact h'

theorem up_length (v : Arr) : ∀ (i : Nat) (H : List Arr), (up v H i).length = H.length := by
  intro i
  induction i using Nat.strongRecOn with
  | _ i ih =>
    intro H
    unfold up
    split
    · split
      · rw [ih (par i) (by unfold par; omega)]; simp
      · simp
    · simp
theorem up_perm (v : Arr) : ∀ (i : Nat) (H : List Arr), i < H.length → (up v H i).Perm (H.set i v) := by
  intro i
  induction i using Nat.strongRecOn with
  | _ i ih =>
    intro H hi
    unfold up
    split
    · rename_i h0
      split
      · have hp : par i < i := by unfold par; omega
        exact (ih (par i) hp _ (by simp; omega)).trans (hole_swap H i (par i) v hi (by omega) (by omega))
      · exact List.Perm.refl _
    · exact List.Perm.refl _

/-- The heap but for the hole at i, in which v is to go, rising. -/
structure HoleUp (H : List Arr) (i : Nat) (v : Arr) : Prop where
  rest : ∀ j (h0 : 0 < j) (hj : j < H.length), j ≠ i → par j ≠ i → le (H[par j]'(by unfold par; omega)) H[j]
  kids : ∀ j (h0 : 0 < j) (hj : j < H.length), par j = i → le v H[j]
  over : ∀ j (h0 : 0 < j) (hj : j < H.length) (hp : par j = i) (hi : 0 < i), le (H[par i]'(by unfold par at *; omega)) H[j]
theorem up_heap (v : Arr) : ∀ (i : Nat) (H : List Arr), i < H.length → HoleUp H i v → Heap (up v H i) := by
  intro i
  induction i using Nat.strongRecOn with
  | _ i ih =>
    intro H hi hh
    have stop : (∀ h0 : 0 < i, le (H[par i]'(by unfold par; omega)) v) → Heap (H.set i v) := by
      intro hs j h0 hj
      have hj' : j < H.length := by simpa using hj
      have hpj : par j < H.length := by unfold par; omega
      have hpne : par j ≠ j := by unfold par; omega
      by_cases e : j = i
      · subst e
        rw [List.getElem_set_ne (by omega), List.getElem_set_self]
        exact hs h0
      · by_cases e2 : par j = i
        · simp only [List.getElem_set, e2, if_true, if_neg (Ne.symm e)]
          exact hh.kids j h0 hj' e2
        · rw [List.getElem_set_ne (by omega), List.getElem_set_ne (by omega)]
          exact hh.rest j h0 hj' e e2
    unfold up
    split
    · rename_i h0
      have hp : par i < i := by unfold par; omega
      have hpl : par i < H.length := by omega
      have e : H.getD (par i) v = H[par i] := by simp [List.getD_eq_getElem?_getD, hpl]
      rw [e]
      split
      · rename_i hb
        refine ih (par i) hp _ (by simp; omega) ⟨?_, ?_, ?_⟩
        · intro j h0' hj hne hpn
          have hj' : j < H.length := by simpa using hj
          have hji : j ≠ i := fun e => by subst e; exact hpn rfl
          rw [List.getElem_set_ne (Ne.symm hji)]
          by_cases e2 : par j = i
          · simp only [List.getElem_set, e2, if_true]
            exact hh.over j h0' hj' e2 h0
          · rw [List.getElem_set_ne (by omega)]
            exact hh.rest j h0' hj' hji e2
        · intro j h0' hj hpj
          have hj' : j < H.length := by simpa using hj
          by_cases e2 : j = i
          · subst e2
            rw [List.getElem_set_self]
            exact le_of_bf hb
          · rw [List.getElem_set_ne (Ne.symm e2)]
            have h1 := hh.rest j h0' hj' e2 (by omega)
            simp only [hpj] at h1
            exact le_trans (le_of_bf hb) h1
        · intro j h0' hj hpj hp0
          have hj' : j < H.length := by simpa using hj
          have hpp : par (par i) < par i := by unfold par at *; omega
          have h2 := hh.rest (par i) hp0 hpl (by omega) (by omega)
          rw [List.getElem_set_ne (by omega)]
          by_cases e2 : j = i
          · subst e2
            rw [List.getElem_set_self]
            exact h2
          · rw [List.getElem_set_ne (Ne.symm e2)]
            have h1 := hh.rest j h0' hj' e2 (by omega)
            simp only [hpj] at h1
            exact le_trans h2 h1
      · rename_i hb
        exact stop (fun _ => by simpa [le] using hb)
    · rename_i h0
      exact stop (fun h => absurd h h0)

/-- pushEarlier, plain. -/
def pushH (H : List Arr) (v : Arr) : List Arr := up v (H ++ [v]) H.length
theorem pushH_perm (H : List Arr) (v : Arr) : (pushH H v).Perm (v :: H) := by
  have h := up_perm v H.length (H ++ [v]) (by simp)
  have e : (H ++ [v]).set H.length v = H ++ [v] := by
    rw [List.set_append_right _ _ (Nat.le_refl _)]
    simp
  rw [e] at h
  exact h.trans (List.perm_append_singleton v H)
theorem pushH_length (H : List Arr) (v : Arr) : (pushH H v).length = H.length + 1 := by
  unfold pushH
  rw [up_length]
  simp
theorem pushH_heap {H : List Arr} (h : Heap H) (v : Arr) : Heap (pushH H v) := by
  refine up_heap v _ _ (by simp) ⟨?_, ?_, ?_⟩
  · intro j h0 hj hne _
    have hj' : j < H.length := by simp at hj; omega
    have := h j h0 hj'
    rw [List.getElem_append_left hj', List.getElem_append_left (by unfold par; omega)]
    exact this
  · intro j h0 hj hp
    simp at hj
    unfold par at hp
    omega
  · intro j h0 hj hp _
    simp at hj
    unfold par at hp
    omega

def kid (H : List Arr) (i : Nat) (v : Arr) : Nat := if 2 * i + 2 < H.length ∧ bf (H.getD (2 * i + 2) v) (H.getD (2 * i + 1) v) = true then 2 * i + 2 else 2 * i + 1
theorem kid_gt (H : List Arr) (i : Nat) (v : Arr) : i < kid H i v := by unfold kid; split <;> omega
theorem kid_lt {H : List Arr} {i : Nat} {v : Arr} (h : 2 * i + 1 < H.length) : kid H i v < H.length := by unfold kid; split <;> omega
theorem kid_par (H : List Arr) (i : Nat) (v : Arr) : par (kid H i v) = i := by unfold kid par; split <;> omega
def down (v : Arr) (H : List Arr) (i : Nat) : List Arr :=
  if h : 2 * i + 1 < H.length then
    if bf (H.getD (kid H i v) v) v then down v (H.set i (H.getD (kid H i v) v)) (kid H i v) else H.set i v
  else H.set i v
termination_by H.length - i
decreasing_by
  have := kid_gt H i v
  simp
  omega
theorem down_length (v : Arr) : ∀ (m i : Nat) (H : List Arr), H.length - i ≤ m → (down v H i).length = H.length := by
  intro m
  induction m with
  | zero =>
    intro i H hm
    unfold down
    rw [dif_neg (by omega)]
    simp
  | succ m ih =>
    intro i H hm
    unfold down
    split
    · split
      · have := kid_gt H i v
        rw [ih _ _ (by simp; omega)]
        simp
      · simp
    · simp
theorem down_perm (v : Arr) : ∀ (m i : Nat) (H : List Arr), H.length - i ≤ m → i < H.length → (down v H i).Perm (H.set i v) := by
  intro m
  induction m with
  | zero => intro i H hm hi; omega
  | succ m ih =>
    intro i H hm hi
    unfold down
    split
    · rename_i h1
      split
      · have h2 := kid_gt H i v
        have h3 := kid_lt (v := v) h1
        exact (ih _ _ (by simp; omega) (by simpa using h3)).trans (hole_swap H i _ v hi h3 (by omega))
      · exact List.Perm.refl _
    · exact List.Perm.refl _
/-- The heap but for the hole at i, in which v is to go, sinking. -/
structure HoleDown (H : List Arr) (i : Nat) (v : Arr) : Prop where
  rest : ∀ j (h0 : 0 < j) (hj : j < H.length), j ≠ i → par j ≠ i → le (H[par j]'(by unfold par; omega)) H[j]
  over : ∀ j (h0 : 0 < j) (hj : j < H.length) (hp : par j = i) (hi : 0 < i), le (H[par i]'(by unfold par at *; omega)) H[j]
  self : ∀ (h0 : 0 < i) (hi : i < H.length), le (H[par i]'(by unfold par; omega)) v
theorem down_heap (v : Arr) : ∀ (m i : Nat) (H : List Arr), H.length - i ≤ m → i < H.length → HoleDown H i v → Heap (down v H i) := by
  intro m
  induction m with
  | zero => intro i H hm hi; omega
  | succ m ih =>
    intro i H hm hi hh
    have stop : (∀ j (h0 : 0 < j) (hj : j < H.length), par j = i → le v H[j]) → Heap (H.set i v) := by
      intro hs j h0 hj
      have hj' : j < H.length := by simpa using hj
      have hpne : par j ≠ j := by unfold par; omega
      by_cases e : j = i
      · subst e
        rw [List.getElem_set_ne (by omega), List.getElem_set_self]
        exact hh.self h0 hj'
      · by_cases e2 : par j = i
        · simp only [List.getElem_set, e2, if_true, if_neg (Ne.symm e)]
          exact hs j h0 hj' e2
        · rw [List.getElem_set_ne (by omega), List.getElem_set_ne (by omega)]
          exact hh.rest j h0 hj' e e2
    unfold down
    split
    · rename_i h1
      have hkg := kid_gt H i v
      have hkl := kid_lt (v := v) h1
      have hkp := kid_par H i v
      have e : H.getD (kid H i v) v = H[kid H i v] := by simp [List.getD_eq_getElem?_getD, hkl]
      -- the kid goes before its sibling
      have hsib : ∀ j (h0 : 0 < j) (hj : j < H.length), par j = i → le H[kid H i v] H[j] := by
        intro j h0 hj hpj
        have hj2 : j = 2 * i + 1 ∨ j = 2 * i + 2 := by unfold par at hpj; omega
        by_cases hc : 2 * i + 2 < H.length ∧ bf (H.getD (2 * i + 2) v) (H.getD (2 * i + 1) v) = true
        · have ek : kid H i v = 2 * i + 2 := if_pos hc
          have hb := hc.2
          simp only [List.getD_eq_getElem?_getD, List.getElem?_eq_getElem hc.1, List.getElem?_eq_getElem h1, Option.getD_some] at hb
          rcases hj2 with rfl | rfl
          · simp only [ek]; exact le_of_bf hb
          · simp only [ek]; exact le_refl _
        · have ek : kid H i v = 2 * i + 1 := if_neg hc
          rcases hj2 with rfl | rfl
          · simp only [ek]; exact le_refl _
          · simp only [ek]
            have hb : ¬ bf (H.getD (2 * i + 2) v) (H.getD (2 * i + 1) v) = true := fun h => hc ⟨hj, h⟩
            simp only [List.getD_eq_getElem?_getD, List.getElem?_eq_getElem hj, List.getElem?_eq_getElem h1, Option.getD_some] at hb
            simpa [le] using hb
      rw [e]
      split
      · rename_i hb
        refine ih _ _ (by simp; omega) (by simpa using hkl) ⟨?_, ?_, ?_⟩
        · intro j h0 hj hne hpn
          have hj' : j < H.length := by simpa using hj
          by_cases e1 : j = i
          · subst e1
            rw [List.getElem_set_ne (by unfold par; omega), List.getElem_set_self]
            exact hh.over _ (by omega) hkl hkp h0
          · rw [List.getElem_set_ne (Ne.symm e1)]
            by_cases e2 : par j = i
            · simp only [List.getElem_set, e2, if_true]
              exact hsib j h0 hj' e2
            · rw [List.getElem_set_ne (by omega)]
              exact hh.rest j h0 hj' e1 e2
        · intro j h0 hj hpj hk0
          have hj' : j < H.length := by simpa using hj
          have hjk : kid H i v < j := by unfold par at hpj; omega
          have h2 := hh.rest j h0 hj' (by omega) (by omega)
          rw [List.getElem_set_ne (show i ≠ j by omega)]
          simp only [List.getElem_set, hkp, if_true]
          simp only [hpj] at h2
          exact h2
        · intro hk0 hk
          simp only [List.getElem_set, hkp, if_true]
          exact le_of_bf hb
      · rename_i hb
        refine stop fun j h0 hj hpj => ?_
        have hb' : le v H[kid H i v] := by simpa [le] using hb
        exact le_trans hb' (hsib j h0 hj hpj)
    · rename_i h1
      refine stop fun j h0 hj hpj => ?_
      unfold par at hpj
      omega

/-- popEarlier, plain: what is left. -/
def popH (H : List Arr) (v : Arr) : List Arr := down v (H.take (H.length - 1)) 0
theorem popH_length (x : Arr) (H : List Arr) (v : Arr) : (popH (x :: H) v).length = H.length := by
  unfold popH
  rw [down_length v _ _ _ (Nat.le_refl _)]
  simp
theorem heap_take {H : List Arr} (h : Heap H) (n : Nat) : Heap (H.take n) := by
  intro j h0 hj
  have hj' : j < n ∧ j < H.length := by simp at hj; omega
  have := h j h0 hj'.2
  simp only [List.getElem_take]
  exact this
/-- The last of the heap, put in at the top's place. -/
theorem popH_perm (x : Arr) (H : List Arr) : (x :: popH (x :: H) ((x :: H).getLast (by simp))).Perm (x :: H) := by
  cases H with
  | nil =>
    have : popH [x] ([x].getLast (by simp)) = [] := List.eq_nil_of_length_eq_zero (by rw [popH_length]; rfl)
    rw [this]
  | cons y H =>
    refine List.Perm.cons x ?_
    have hl : (x :: y :: H).getLast (by simp) = (y :: H).getLast (by simp) := by simp [List.getLast_cons]
    rw [hl]
    generalize hv : (y :: H).getLast (by simp) = v
    have h1 : (x :: y :: H).take ((x :: y :: H).length - 1) = x :: (y :: H).dropLast := by
      rw [List.dropLast_eq_take]
      simp
    unfold popH
    rw [h1]
    have h2 := down_perm v _ 0 (x :: (y :: H).dropLast) (Nat.le_refl _) (by simp)
    refine h2.trans ?_
    rw [List.set_cons_zero]
    have h3 : (y :: H).dropLast ++ [v] = y :: H := by rw [← hv]; exact List.dropLast_concat_getLast (by simp)
    rw [← h3]
    simp only [List.dropLast_concat]
    exact (List.perm_append_singleton v _).symm
theorem popH_heap {x : Arr} {H : List Arr} (h : Heap (x :: H)) (v : Arr) : Heap (popH (x :: H) v) := by
  cases H with
  | nil =>
    have : popH [x] v = [] := List.eq_nil_of_length_eq_zero (by rw [popH_length]; rfl)
    rw [this]
    intro j h0 hj
    simp at hj
  | cons y H =>
    have ht := heap_take h ((x :: y :: H).length - 1)
    refine down_heap v _ 0 _ (Nat.le_refl _) (by simp) ⟨fun j h0 hj _ _ => ht j h0 hj, fun j h0 hj hp hi => by omega, fun h0 => by omega⟩
theorem heap_min {H : List Arr} (h : Heap H) : ∀ (j : Nat) (hj : j < H.length), le (H[0]'(by omega)) H[j] := by
  intro j
  induction j using Nat.strongRecOn with
  | _ j ih =>
    intro hj
    by_cases h0 : j = 0
    · subst h0; exact le_refl _
    · have hp : par j < j := by unfold par; omega
      exact le_trans (ih (par j) hp (by omega)) (h j (by omega) hj)
end Go.Proofs.Ybulkhba
