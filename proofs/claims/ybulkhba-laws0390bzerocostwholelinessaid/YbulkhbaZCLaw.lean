import Derived.Test.YbulkhbaZC
namespace Go.Proofs.Ybulkhba
open Go.RowKit
set_option linter.unusedVariables false
set_option linter.unusedSimpArgs false

/-! ### AT NO COST A LINE IS SERVED WHOLE -/
theorem serves_turn (out : List Int) (L : List PB) (q : Int) (hq0 : 0 ≤ q) (hq1 : q ≤ 1000000) (hl : L.length ≤ 1000) (h : Serves out false L) : ∀ (A : List Arr) (d : Int), A ≠ [] → (∀ a ∈ A, a.r.tk = 0) → 0 ≤ d → d ≤ 1000000 →
    Serves (A.map (fun a => a.r.id) ++ out) true (⟨A, q, d⟩ :: L)
  | [], _, hne, _, _, _ => absurd rfl hne
  | a :: A, d, _, htk, h0, h1 => by
    have ha : a.r.tk = 0 := htk a (by simp)
    have hA : ∀ b ∈ A, b.r.tk = 0 := fun b hb => htk b (by simp [hb])
    show Serves (a.r.id :: (A.map (fun a => a.r.id) ++ out)) true _
    refine ⟨⟨a :: A, q, d⟩, L, a, A, d, rfl, rfl, rfl, hq0, hq1, h0, h1, by omega, by omega, hl, .inl ⟨rfl, rfl⟩, by omega, fun e => ?_, fun y A' e hy => ?_, fun y A' e hy => ?_⟩
    · subst e; exact h
    · rw [ha, Int.sub_zero]
      exact serves_turn out L q hq0 hq1 hl h A d (by simp [e]) hA h0 h1
    · have := hA y (by simp [e])
      omega
theorem serves_line (out : List Int) (L : List PB) (q : Int) (hq0 : 0 ≤ q) (hq1 : q ≤ 1000) (hl : L.length ≤ 1000) (h : Serves out false L) (A : List Arr) (hne : A ≠ []) (htk : ∀ a ∈ A, a.r.tk = 0) :
    Serves (A.map (fun a => a.r.id) ++ out) false (⟨A, q, 0⟩ :: L) := by
  cases A with
  | nil => exact absurd rfl hne
  | cons a A =>
    have ha : a.r.tk = 0 := htk a (by simp)
    have hA : ∀ b ∈ A, b.r.tk = 0 := fun b hb => htk b (by simp [hb])
    show Serves (a.r.id :: (A.map (fun a => a.r.id) ++ out)) false _
    refine ⟨⟨a :: A, q, 0⟩, L, a, A, q, rfl, rfl, rfl, hq0, by show q ≤ 1000000; omega, by simp, by simp, by omega, by omega, hl, .inr ⟨rfl, by simp⟩, by omega, fun e => ?_, fun y A' e hy => ?_, fun y A' e hy => ?_⟩
    · subst e; exact h
    · rw [ha, Int.sub_zero]
      exact serves_turn out L q hq0 (by omega) hl h A q (by simp [e]) hA hq0 (by omega)
    · have := hA y (by simp [e])
      omega
theorem serves_lines (X : Nat → List Int) (Qf : Int → Int) (hQ : ∀ k, 0 ≤ Qf k ∧ Qf k ≤ 1000) : ∀ F : List Int, F.length ≤ 900 → (∀ k ∈ F, X k.toNat ≠ []) →
    Serves (wantZ F X) false (F.map (fun kd => (⟨lineI 0 kd.toNat 0 (X kd.toNat), Qf kd, 0⟩ : PB)))
  | [], _, _ => trivial
  | kd :: F, hl, hne => by
    have ih := serves_lines X Qf hQ F (by simp at hl; omega) (fun k hk => hne k (by simp [hk]))
    have h := serves_line (wantZ F X) _ (Qf kd) (hQ kd).1 (hQ kd).2 (by simp at hl ⊢; omega) ih (lineI 0 kd.toNat 0 (X kd.toNat)) (by
      intro e
      have := lineI_get 0 kd.toNat (X kd.toNat) 0
      rw [e] at this
      exact hne kd (by simp) this.symm) (lineI_tk 0 _ _ _)
    rw [lineI_get] at h
    simpa [wantZ] using h

theorem wantZ_count (X : Nat → List Int) : ∀ F : List Int, (wantZ F X).length = (F.map (fun kd => (X kd.toNat).length)).sum
  | [] => rfl
  | kd :: F => by
    have ih := wantZ_count X F
    simp only [wantZ, List.flatMap_cons, List.length_append, List.map_cons, List.sum_cons] at ih ⊢
    omega

theorem zc_law (a0 : Option Addr) (cap : Nat) (K : List Nat) (z0 z1 z2 : Int) (w : World) (hin : KindsIn w a0 K) (hn : K.length ≤ 1024) (hcap : K.length ≤ cap)
    (hz0 : 0 ≤ z0 ∧ z0 ≤ 255) (hz1 : 0 ≤ z1 ∧ z1 ≤ 255) (hz2 : 0 ≤ z2 ∧ z2 ≤ 255) (hk3 : ∀ k ∈ K, k < 3) :
    Calls Yba.prog 7 #[.slice a0 K.length cap, .agg #[.int .u8 z0, .int .u8 z1, .int .u8 z2]] w fun e w' => e = .returned (.bool true) ∧ Below w.heap.size w w' := by
  have hp := pinv K hk3
  have hN := hp _ (Nat.le_refl K.length)
  have hne : ∀ k ∈ plainAt K K.length 3, plainAt K K.length k.toNat ≠ [] := by
    intro kd hkd
    have h3 := hN.rng kd hkd
    exact (hN.mem kd.toNat (by omega)).2 (by rw [Int.toNat_of_nonneg h3.1]; exact hkd)
  refine zc_walk a0 cap K z0 z1 z2 w _ rfl ?_ hn hcap (by omega) (by omega) (by omega) hk3 hN.rng hne ?_ ?_ ?_
  · intro j hj
    obtain ⟨x, z, h1, h2, h3, h4⟩ := hin j hj
    refine ⟨x, z, h1, by simp; omega, ?_, h4⟩
    rw [World.cell?_alloc_lt _ _ _ (by unfold Addr.add; split <;> simpa using h2)]
    exact h3
  · rw [wantZ_count]; exact hN.sum
  · intro c q0 q1 q2 j hj
    rw [(hp j hj).build c q0 q1 q2 hj, List.length_map]
    have := (hp j hj).few
    omega
  · intro q0 q1 q2 a1 a2 b1 b2 c1 c2 rot hr
    have hb := hN.build 0 q0 q1 q2 (Nat.le_refl _)
    rw [List.take_of_length_le (by rw [zipP_len]; omega)] at hb
    have hpb : rot.map TS.pb = (rot.map TS.tb).map (fun b => (⟨b.A, b.q, b.d⟩ : PB)) := by simp [TS.pb, TS.tb]
    rw [hpb, hr, hb, List.map_map]
    refine serves_lines (plainAt K K.length) (qOf q0 q1 q2) ?_ _ (by have := hN.few; omega) hne
    intro k
    unfold qOf
    split
    · omega
    · split <;> omega
end Go.Proofs.Ybulkhba
