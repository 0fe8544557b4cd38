import Derived.Test.YbulkhbaOrdPushG
namespace Go.Proofs.Ybulkhba
open Go.RowKit
set_option linter.unusedVariables false
set_option linter.unusedSimpArgs false

def rkA (a b : Arr) : Int := rankI a.r.pr a.r.dl a.r.hd b.r.pr b.r.dl b.r.hd
theorem bf_of_rank {a b : Arr} (h : rkA a b = 0) (hs : a.sq < b.sq) : bf a b = true := by
  unfold bf beforeB
  rw [show rankI a.r.pr a.r.dl a.r.hd b.r.pr b.r.dl b.r.hd = 0 from h]
  simpa using hs
theorem rank_key (a b : Arr) : rkA a b = 0 ↔ (a.r.pr = b.r.pr ∧ hKey a.r.hd = hKey b.r.hd ∧ dKey a.r.hd a.r.dl = dKey b.r.hd b.r.dl) := by
  unfold rkA rankI cmpI hKey dKey
  rcases Int.lt_trichotomy a.r.pr b.r.pr with h | h | h
  · have h1 : a.r.pr ≠ b.r.pr := by omega
    have h2 : ¬ b.r.pr < a.r.pr := by omega
    simp [h1, h2, h]
  · cases a.r.hd <;> cases b.r.hd <;> simp [h]
    rcases Int.lt_trichotomy a.r.dl b.r.dl with g | g | g
    · simp [g]; omega
    · simp [g]
    · have g2 : ¬ a.r.dl < b.r.dl := by omega
      simp [g, g2]
      omega
  · have h1 : a.r.pr ≠ b.r.pr := by omega
    simp [h1, h]
theorem rank_trans {a b c : Arr} (h1 : rkA a b = 0) (h2 : rkA b c = 0) : rkA a c = 0 := by
  rw [rank_key] at *
  exact ⟨h1.1.trans h2.1, h1.2.1.trans h2.2.1, h1.2.2.trans h2.2.2⟩
theorem rank_symm {a b : Arr} (h : rkA a b = 0) : rkA b a = 0 := by
  rw [rank_key] at *
  exact ⟨h.1.symm, h.2.1.symm, h.2.2.symm⟩
theorem rank_refl (a : Arr) : rkA a a = 0 := by rw [rank_key]; exact ⟨rfl, rfl, rfl⟩

/-- What a tenant's requests are: a heap, and the latest run. -/
structure OInv (H A : List Arr) (n : Nat) : Prop where
  heap : Heap H
  rank : ∀ a ∈ A, ∀ b ∈ A, rkA a b = 0
  run : A.Pairwise (fun a b => a.sq < b.sq)
  later : ∀ a ∈ H, ∀ b ∈ A, a.sq < b.sq
  dist : H.Pairwise (fun a b => a.sq ≠ b.sq)
  low : ∀ a ∈ H ++ A, a.sq < n
theorem OInv.nil : OInv [] [] 0 := ⟨fun j h0 hj => by simp at hj, by simp, List.Pairwise.nil, by simp, List.Pairwise.nil, by simp⟩
theorem OInv.up {H A : List Arr} {n : Nat} (h : OInv H A n) : OInv H A (n + 1) := ⟨h.heap, h.rank, h.run, h.later, h.dist, fun a ha => by have := h.low a ha; omega⟩

theorem opop_ex {H A : List Arr} (h : H ++ A ≠ []) : ∃ x H' A', OPop H A x H' A' ∧ OFront H A x := by
  cases hf : fromTail H A with
  | true =>
    cases A with
    | nil =>
      cases H with
      | nil => simp at h
      | cons x H => simp [fromTail] at hf
    | cons x A => exact ⟨x, H, A, .inl ⟨hf, rfl, rfl⟩, .inl ⟨hf, A, rfl⟩⟩
  | false =>
    cases H with
    | nil => simp [fromTail] at hf
    | cons x H => exact ⟨x, _, A, .inr ⟨hf, rfl, H, rfl, rfl⟩, .inr ⟨hf, H, rfl⟩⟩
theorem ofront_ex {H A : List Arr} (h : H ++ A ≠ []) : ∃ x, OFront H A x := by
  obtain ⟨x, _, _, _, h⟩ := opop_ex h
  exact ⟨x, h⟩
theorem ofront_inj {H A : List Arr} {x y : Arr} (h1 : OFront H A x) (h2 : OFront H A y) : x = y := by
  rcases h1 with ⟨a, A', e⟩ | ⟨a, H', e⟩ <;> rcases h2 with ⟨b, B', e'⟩ | ⟨b, G', e'⟩
  · rw [e] at e'; cases e'; rfl
  · rw [a] at b; cases b
  · rw [a] at b; cases b
  · rw [e] at e'; cases e'; rfl

theorem OInv.pop {H A H' A' : List Arr} {x : Arr} {n : Nat} (h : OInv H A n) (hp : OPop H A x H' A') :
    OInv H' A' n ∧ (x :: (H' ++ A')).Perm (H ++ A) ∧ ∀ y ∈ H' ++ A', bf x y = true := by
  rcases hp with ⟨hf, rfl, rfl⟩ | ⟨hf, rfl, Ht, rfl, rfl⟩
  · have hr := List.pairwise_cons.1 h.run
    refine ⟨⟨h.heap, fun a ha b hb => h.rank a (by simp [ha]) b (by simp [hb]), hr.2, fun a ha b hb => h.later a ha b (by simp [hb]), h.dist, fun a ha => h.low a (by
      rcases List.mem_append.1 ha with g | g
      · simp [g]
      · simp [g])⟩, List.perm_middle.symm, ?_⟩
    intro y hy
    rcases List.mem_append.1 hy with g | g
    · cases H' with
      | nil => simp at g
      | cons z H' =>
        have hz : bf x z = true := hf
        obtain ⟨i, hi, rfl⟩ := List.getElem_of_mem g
        have := heap_min h.heap i hi
        exact bf_le_trans hz (by simpa using this)
    · exact bf_of_rank (h.rank x (by simp) y (by simp [g])) (hr.1 y g)
  · have hperm := popH_perm x Ht
    generalize hv : (x :: Ht).getLast (by simp) = v at *
    have hd := List.pairwise_cons.1 h.dist
    have hsym : ∀ {a b : Arr}, a.sq ≠ b.sq → b.sq ≠ a.sq := fun h => Ne.symm h
    have hd2 := (List.Perm.pairwise_iff (R := fun a b : Arr => a.sq ≠ b.sq) hsym hperm).2 h.dist
    have hmem : ∀ a ∈ popH (x :: Ht) v, a ∈ x :: Ht := fun a ha => hperm.mem_iff.1 (by simp [ha])
    refine ⟨⟨popH_heap h.heap v, h.rank, h.run, fun a ha b hb => h.later a (hmem a ha) b hb, (List.pairwise_cons.1 hd2).2, fun a ha => h.low a (by
      rcases List.mem_append.1 ha with g | g
      · exact List.mem_append_left _ (hmem a g)
      · exact List.mem_append_right _ g)⟩, ?_, ?_⟩
    · exact (List.Perm.append_right A' hperm)
    · intro y hy
      rcases List.mem_append.1 hy with g | g
      · have hne := (List.pairwise_cons.1 hd2).1 y g
        obtain ⟨i, hi, rfl⟩ := List.getElem_of_mem (hmem y g)
        have := heap_min h.heap i hi
        exact bf_of_le (by simpa using this) hne
      · cases A' with
        | nil => simp at g
        | cons z A' =>
          have hz : bf z x = false := hf
          have hs := h.later x (by simp) z (by simp)
          have hxz : bf x z = true := bf_of_le hz (by omega)
          rcases List.mem_cons.1 g with rfl | g
          · exact hxz
          · exact bf_le_trans hxz (le_of_bf (bf_of_rank (h.rank z (by simp) y (by simp [g])) ((List.pairwise_cons.1 h.run).1 y g)))

theorem foldl_push : ∀ (A H : List Arr), Heap H → Heap (A.foldl pushH H) ∧ (A.foldl pushH H).Perm (H ++ A)
  | [], H, h => ⟨h, by simp⟩
  | a :: A, H, h => by
    obtain ⟨h1, h2⟩ := foldl_push A (pushH H a) (pushH_heap h a)
    refine ⟨h1, h2.trans ?_⟩
    exact ((pushH_perm H a).append_right A).trans List.perm_middle.symm
theorem OInv.push {H A : List Arr} {n : Nat} (h : OInv H A n) (r : Req) :
    OInv (oPush H A r n).1 (oPush H A r n).2 (n + 1) ∧ ((oPush H A r n).1 ++ (oPush H A r n).2).Perm (⟨r, n⟩ :: (H ++ A)) := by
  have hlow := h.low
  cases A with
  | nil =>
    refine ⟨⟨h.heap, by intro a ha b hb; simp only [oPush, List.mem_singleton] at ha hb; subst ha hb; exact rank_refl _, List.pairwise_singleton _ _, ?_, h.dist, ?_⟩, ?_⟩
    · intro a ha b hb
      simp only [oPush, List.mem_singleton] at hb
      subst hb
      exact hlow a (by simpa [oPush] using ha)
    · intro a ha
      rcases List.mem_append.1 ha with g | g
      · have := hlow a (by simpa [oPush] using g); omega
      · simp only [oPush, List.mem_singleton] at g; subst g; show (n : Int) < _; omega
    · simp only [oPush, List.append_nil]
      exact List.perm_append_singleton _ _
  | cons y A =>
    by_cases hr : rankI y.r.pr y.r.dl y.r.hd r.pr r.dl r.hd = 0
    · have e : oPush H (y :: A) r n = (H, (y :: A) ++ [⟨r, n⟩]) := by simp only [oPush]; rw [if_pos hr]
      rw [e]
      have hyr : rkA y ⟨r, n⟩ = 0 := hr
      have hall : ∀ a ∈ y :: A, rkA a ⟨r, n⟩ = 0 := fun a ha => rank_trans (h.rank a ha y (by simp)) hyr
      refine ⟨⟨h.heap, ?_, ?_, ?_, h.dist, ?_⟩, ?_⟩
      · intro a ha b hb
        rcases List.mem_append.1 ha with g | g <;> rcases List.mem_append.1 hb with g' | g'
        · exact h.rank a g b g'
        · rw [List.mem_singleton.1 g']; exact hall a g
        · rw [List.mem_singleton.1 g]; exact rank_symm (hall b g')
        · rw [List.mem_singleton.1 g, List.mem_singleton.1 g']; exact rank_refl _
      · refine List.pairwise_append.2 ⟨h.run, List.pairwise_singleton _ _, fun a ha b hb => ?_⟩
        rw [List.mem_singleton.1 hb]
        exact hlow a (by simp at ha ⊢; rcases ha with g | g <;> simp [g])
      · intro a ha b hb
        rcases List.mem_append.1 hb with g | g
        · exact h.later a ha b g
        · rw [List.mem_singleton.1 g]; exact hlow a (by simp [show a ∈ H from ha])
      · intro a ha
        show a.sq < ((n + 1 : Nat) : Int)
        rw [← List.append_assoc] at ha
        rcases List.mem_append.1 ha with g | g
        · have := hlow a g; omega
        · rw [List.mem_singleton.1 g]; show (n : Int) < _; omega
      · show (H ++ ((y :: A) ++ [(⟨r, n⟩ : Arr)])).Perm _
        rw [← List.append_assoc]
        exact List.perm_append_singleton _ _
    · have e : oPush H (y :: A) r n = ((y :: A).foldl pushH H, [⟨r, n⟩]) := by simp only [oPush]; rw [if_neg hr]
      rw [e]
      obtain ⟨hh, hperm⟩ := foldl_push (y :: A) H h.heap
      have hmem : ∀ a, a ∈ (y :: A).foldl pushH H ↔ a ∈ H ++ (y :: A) := fun a => hperm.mem_iff
      have hsym : ∀ {a b : Arr}, a.sq ≠ b.sq → b.sq ≠ a.sq := fun h => Ne.symm h
      have hdist : (H ++ (y :: A)).Pairwise (fun a b : Arr => a.sq ≠ b.sq) := List.pairwise_append.2 ⟨h.dist, h.run.imp (fun h => by omega), fun a ha b hb => by have := h.later a ha b hb; omega⟩
      refine ⟨⟨hh, by intro a ha b hb; rw [List.mem_singleton.1 ha, List.mem_singleton.1 hb]; exact rank_refl _, List.pairwise_singleton _ _, ?_, (List.Perm.pairwise_iff hsym hperm).2 hdist, ?_⟩, ?_⟩
      · intro a ha b hb
        rw [List.mem_singleton.1 hb]
        exact hlow a ((hmem a).1 ha)
      · intro a ha
        show a.sq < ((n + 1 : Nat) : Int)
        rcases List.mem_append.1 ha with g | g
        · have := hlow a ((hmem a).1 g); omega
        · rw [List.mem_singleton.1 g]; show (n : Int) < _; omega
      · exact (List.perm_append_singleton _ _).trans (List.Perm.cons _ hperm)
end Go.Proofs.Ybulkhba
