import Derived.Test.YbulkhbaRR
namespace Go.Proofs.Ybulkhba
open Go.RowKit
set_option linter.unusedVariables false
set_option linter.unusedSimpArgs false

theorem pushB_none (r : Req) (q : Int) : ∀ (L : List TB), (∀ b ∈ L, (r.tn == b.nm) = false) → pushB r q L = L ++ [⟨r.tn, [⟨r, 0⟩], 1, q, 0, 0⟩]
  | [], _ => rfl
  | u :: L, h => by
    have hu := h u (by simp)
    simp only [pushB, hu]
    rw [if_neg (by simp), pushB_none r q L (fun t ht => h t (by simp [ht]))]
    rfl

def qOf (q0 q1 q2 : Int) (kd : Int) : Int := if kd = 0 then q0 else if kd = 1 then q1 else q2
def reqI (c : Int) (k : Nat) (id : Int) : Req := ⟨id, nameB k, c, 0, 0, false⟩
/-- The line of the requests with these IDs, numbered from s on. -/
def lineI (c : Int) (k : Nat) : Nat → List Int → List Arr
  | _, [] => []
  | s, id :: l => ⟨reqI c k id, s⟩ :: lineI c k (s + 1) l
theorem lineI_snoc (c : Int) (k : Nat) (id : Int) : ∀ (l : List Int) (s : Nat), lineI c k s (l ++ [id]) = lineI c k s l ++ [⟨reqI c k id, ((s + l.length : Nat) : Int)⟩]
  | [], s => by simp [lineI]
  | x :: l, s => by
    simp only [List.cons_append, lineI, lineI_snoc c k id l (s + 1), List.length_cons]
    rw [show s + 1 + l.length = s + (l.length + 1) by omega]
def tbOf (c q0 q1 q2 : Int) (X : Nat → List Int) (kd : Int) : TB := ⟨nameB kd.toNat, lineI c kd.toNat 0 (X kd.toNat), (X kd.toNat).length, qOf q0 q1 q2 kd, 0, 0⟩

theorem pushB_map (c q0 q1 q2 : Int) (X : Nat → List Int) (k : Nat) (hk : k < 3) (q id : Int) : ∀ (F : List Int), (∀ x ∈ F, 0 ≤ x ∧ x < 3) → F.Nodup → (k : Int) ∈ F →
    pushB (reqI c k id) q (F.map (tbOf c q0 q1 q2 X)) = F.map (tbOf c q0 q1 q2 (upd X k (X k ++ [id])))
  | [], _, _, h => by simp at h
  | x :: F, hr, hn, hm => by
    have hx := hr x (by simp)
    have hn' := List.nodup_cons.1 hn
    have heq : ((reqI c k id).tn == (tbOf c q0 q1 q2 X x).nm) = decide (k = x.toNat) := nameB_eq hk (by omega)
    simp only [List.map_cons, pushB, heq]
    by_cases e : k = x.toNat
    · have hxk : x = (k : Int) := by omega
      subst hxk
      rw [if_pos (by simp)]
      have h1 : F.map (tbOf c q0 q1 q2 X) = F.map (tbOf c q0 q1 q2 (upd X k (X k ++ [id]))) := by
        apply List.map_congr_left
        intro y hy
        have hy3 := hr y (by simp [hy])
        have hne : y.toNat ≠ k := by
          intro e2
          have : y = (k : Int) := by omega
          exact hn'.1 (this ▸ hy)
        simp [tbOf, upd, hne]
      rw [h1]
      simp [tbOf, upd, lineI_snoc]
    · rw [if_neg (by simpa using e), pushB_map c q0 q1 q2 X k hk q id F (fun y hy => hr y (by simp [hy])) hn'.2 (by
        rcases List.mem_cons.1 hm with h | h
        · omega
        · exact h)]
      have hne : x.toNat ≠ k := fun h => e h.symm
      simp [tbOf, upd, hne]

theorem sum_upd (X : Nat → List Int) (k : Nat) (id : Int) : ∀ (F : List Int), (∀ x ∈ F, 0 ≤ x) → F.Nodup → (k : Int) ∈ F →
    (F.map (fun kd => ((upd X k (X k ++ [id])) kd.toNat).length)).sum = (F.map (fun kd => (X kd.toNat).length)).sum + 1
  | [], _, _, h => by simp at h
  | x :: F, hr, hn, hm => by
    have hx := hr x (by simp)
    have hn' := List.nodup_cons.1 hn
    simp only [List.map_cons, List.sum_cons]
    by_cases e : x.toNat = k
    · have hxk : x = (k : Int) := by omega
      subst hxk
      have h1 : F.map (fun kd => ((upd X k (X k ++ [id])) kd.toNat).length) = F.map (fun kd => (X kd.toNat).length) := by
        apply List.map_congr_left
        intro y hy
        have hy0 := hr y (by simp [hy])
        have hne : y.toNat ≠ k := by
          intro e2
          have : y = (k : Int) := by omega
          exact hn'.1 (this ▸ hy)
        simp [upd, hne]
      rw [h1]
      simp [upd]
      omega
    · rw [sum_upd X k id F (fun y hy => hr y (by simp [hy])) hn'.2 (by
        rcases List.mem_cons.1 hm with h | h
        · omega
        · exact h)]
      simp [upd, e]
      omega

/-- What the plain lists are, after j requests. -/
structure PInv (K : List Nat) (j : Nat) : Prop where
  rng : ∀ kd ∈ plainAt K j 3, 0 ≤ kd ∧ kd < 3
  nodup : (plainAt K j 3).Nodup
  mem : ∀ k, k < 3 → (plainAt K j k ≠ [] ↔ (k : Int) ∈ plainAt K j 3)
  sum : ((plainAt K j 3).map (fun kd => (plainAt K j kd.toNat).length)).sum = j
  build : ∀ c q0 q1 q2, j ≤ K.length → buildB ((zipP K c q0 q1 q2).take j) = (plainAt K j 3).map (tbOf c q0 q1 q2 (plainAt K j))

theorem zipP_len (K : List Nat) (c q0 q1 q2 : Int) : (zipP K c q0 q1 q2).length = K.length := by simp [zipP, rsP, ksP]
theorem zipP_get (K : List Nat) (c q0 q1 q2 : Int) (j : Nat) (hj : j < K.length) (h : j < (zipP K c q0 q1 q2).length) : (zipP K c q0 q1 q2)[j] = (reqI c (K.getD j 0) j, qOf q0 q1 q2 (K.getD j 0 : Nat)) := by
  simp only [zipP, rsP, ksP, List.getElem_zip, List.getElem_map, List.getElem_range]
  simp [plainReq, reqI, qOf, hj]

theorem pinv (K : List Nat) (hK : ∀ k ∈ K, k < 3) : ∀ j, j ≤ K.length → PInv K j
  | 0, _ => ⟨by simp [plainAt], by simp [plainAt], by simp [plainAt], by simp [plainAt], by simp [plainAt, buildB]⟩
  | j + 1, hj => by
    obtain ⟨h1, h2, h3, h4, h5⟩ := pinv K hK j (by omega)
    have hkj : K.getD j 0 < 3 := by
      rw [List.getD_eq_getElem?_getD, List.getElem?_eq_getElem (by omega)]
      exact hK _ (List.getElem_mem _)
    have hb : ∀ c q0 q1 q2, buildB ((zipP K c q0 q1 q2).take (j + 1)) = pushB (reqI c (K.getD j 0) j) (qOf q0 q1 q2 (K.getD j 0 : Nat)) ((plainAt K j 3).map (tbOf c q0 q1 q2 (plainAt K j))) := by
      intro c q0 q1 q2
      rw [buildB_take _ j (by rw [zipP_len]; omega), zipP_get K c q0 q1 q2 j (by omega), h5 c q0 q1 q2 (by omega)]
    have hp : plainAt K (j + 1) = upd (if plainAt K j (K.getD j 0) = [] then upd (plainAt K j) 3 (plainAt K j 3 ++ [(K.getD j 0 : Int)]) else plainAt K j) (K.getD j 0) (plainAt K j (K.getD j 0) ++ [(j : Int)]) := rfl
    generalize K.getD j 0 = k at *
    generalize plainAt K j = X at *
    have hk3 : ¬ (3 = k) := by omega
    by_cases hnil : X k = []
    · rw [if_pos hnil] at hp
      have hF : plainAt K (j + 1) 3 = X 3 ++ [(k : Int)] := by rw [hp]; simp [upd, hk3]
      have hX : ∀ i, i ≠ 3 → plainAt K (j + 1) i = upd X k [(j : Int)] i := by
        intro i hi
        rw [hp]
        simp [upd, hi, hnil]
      have hni : (k : Int) ∉ X 3 := fun h => (h3 k hkj).2 h hnil
      have hsame : ∀ kd ∈ X 3, plainAt K (j + 1) kd.toNat = X kd.toNat := by
        intro kd hkd
        have := h1 kd hkd
        have hne : kd.toNat ≠ k := fun e => hni (by rw [← e, Int.toNat_of_nonneg this.1]; exact hkd)
        rw [hX _ (by omega)]
        simp [upd, hne]
      have hself : plainAt K (j + 1) k = [(j : Int)] := by rw [hX k (by omega)]; simp [upd]
      refine ⟨?_, ?_, ?_, ?_, ?_⟩
      · rw [hF]; intro kd hkd
        rcases List.mem_append.1 hkd with h | h
        · exact h1 kd h
        · rw [List.mem_singleton.1 h]; omega
      · rw [hF]
        exact List.nodup_append.2 ⟨h2, by simp, fun a ha b hb e => by rw [List.mem_singleton.1 hb] at e; exact hni (e ▸ ha)⟩
      · intro i hi
        rw [hF, hX i (by omega)]
        by_cases e : i = k
        · subst e; simp [upd]
        · simp only [upd, if_neg e, h3 i hi, List.mem_append, List.mem_singleton]
          constructor
          · exact .inl
          · rintro (h | h)
            · exact h
            · omega
      · rw [hF, List.map_append, List.sum_append, List.map_congr_left (fun kd hkd => by rw [hsame kd hkd]), h4]
        simp [hself]
      · intro c q0 q1 q2 _
        rw [hb, hF, List.map_append]
        rw [pushB_none _ _ _ (by
          intro b hb'
          obtain ⟨kd, hkd, rfl⟩ := List.mem_map.1 hb'
          have := h1 kd hkd
          refine (nameB_eq (k := k) (k' := kd.toNat) hkj (by omega)).trans ?_
          simp
          intro e
          exact hni (by rw [e, Int.toNat_of_nonneg this.1]; exact hkd))]
        congr 1
        · apply List.map_congr_left
          intro kd hkd
          simp [tbOf, hsame kd hkd]
        · simp [tbOf, hself, lineI, reqI]
    · rw [if_neg hnil] at hp
      have hF : plainAt K (j + 1) 3 = X 3 := by rw [hp]; simp [upd, hk3]
      have hin : (k : Int) ∈ X 3 := (h3 k hkj).1 hnil
      refine ⟨?_, ?_, ?_, ?_, ?_⟩
      · rw [hF]; exact h1
      · rw [hF]; exact h2
      · intro i hi
        rw [hF, hp]
        by_cases e : i = k
        · subst e; simp [upd, hin]
        · simp only [upd, if_neg e]; exact h3 i hi
      · rw [hF, hp, sum_upd X k j _ (fun x hx => (h1 x hx).1) h2 hin, h4]
      · intro c q0 q1 q2 _
        rw [hb, hF, hp, pushB_map c q0 q1 q2 X k hkj _ _ _ h1 h2 hin]

/-- Three kinds, so three lines at most. -/
theorem count_le {a : Int} : ∀ {l : List Int}, l.Nodup → l.count a ≤ 1
  | [], _ => by simp
  | x :: l, h => by
    have h' := List.nodup_cons.1 h
    rw [List.count_cons]
    by_cases e : x = a
    · subst e
      rw [List.count_eq_zero_of_not_mem h'.1]
      simp
    · have := count_le (a := a) h'.2
      simp [e]
      exact this
theorem three_counts : ∀ {l : List Int}, (∀ x ∈ l, 0 ≤ x ∧ x < 3) → l.length = l.count 0 + l.count 1 + l.count 2
  | [], _ => by simp
  | x :: l, h => by
    have ih := three_counts (l := l) (fun y hy => h y (by simp [hy]))
    have hx := h x (by simp)
    have e : x = 0 ∨ x = 1 ∨ x = 2 := by omega
    rcases e with rfl | rfl | rfl <;> simp [List.count_cons] <;> omega
theorem PInv.few {K : List Nat} {j : Nat} (h : PInv K j) : (plainAt K j 3).length ≤ 3 := by
  have h0 := count_le (a := 0) h.nodup
  have h1 := count_le (a := 1) h.nodup
  have h2 := count_le (a := 2) h.nodup
  have := three_counts h.rng
  omega
end Go.Proofs.Ybulkhba
