import Derived.Test.YbulkhbaPInv
namespace Go.Proofs.Ybulkhba
open Go.RowKit
set_option linter.unusedVariables false
set_option linter.unusedSimpArgs false

/-! ### ROUND ROBIN, PLAIN -/
def RRun : List Int → List (List Arr) → Prop
  | [], _ => True
  | x :: out, Ls => ∃ a A Ls', Ls = (a :: A) :: Ls' ∧ a.r.id = x ∧ (A = [] → RRun out Ls') ∧ (A ≠ [] → RRun out (Ls' ++ [A]))
def headIds (Ls : List (List Arr)) : List Int := Ls.filterMap (fun A => A.head?.map (fun a => a.r.id))
def tails (Ls : List (List Arr)) : List (List Arr) := (Ls.map List.tail).filter (fun A => !A.isEmpty)
theorem rrun_round : ∀ (Ls Ps : List (List Arr)) (out : List Int), (∀ A ∈ Ls, A ≠ []) → RRun out (Ps ++ tails Ls) → RRun (headIds Ls ++ out) (Ls ++ Ps)
  | [], Ps, out, _, h => by simpa [headIds, tails] using h
  | [] :: Ls, Ps, out, hne, h => by exact absurd rfl (hne [] (by simp))
  | (a :: A) :: Ls, Ps, out, hne, h => by
    have hne' : ∀ A ∈ Ls, A ≠ [] := fun A hA => hne A (by simp [hA])
    show RRun (a.r.id :: (headIds Ls ++ out)) ((a :: A) :: (Ls ++ Ps))
    refine ⟨a, A, Ls ++ Ps, rfl, rfl, fun e => ?_, fun e => ?_⟩
    · subst e
      exact rrun_round Ls Ps out hne' (by simpa [tails] using h)
    · rw [List.append_assoc]
      refine rrun_round Ls (Ps ++ [A]) out hne' ?_
      have : tails ((a :: A) :: Ls) = A :: tails Ls := by
        cases A with
        | nil => exact absurd rfl e
        | cons y A' => simp [tails]
      rw [this] at h
      simpa using h

theorem serves_of_rrun (c : Int) (hc : 1 ≤ c) (hc5 : c ≤ 5) : ∀ (out : List Int) (Ls : List (List Arr)), RRun out Ls → (∀ A ∈ Ls, ∀ a ∈ A, a.r.tk = c) → Ls.length ≤ 900 → Serves out false (Ls.map (fun A => (⟨A, c, 0⟩ : PB)))
  | [], _, _, _, _ => trivial
  | x :: out, Ls, h, htk, hl => by
    obtain ⟨a, A, Ls', rfl, hx, h1, h2⟩ := h
    have ha : a.r.tk = c := htk (a :: A) (by simp) a (by simp)
    have htk' : ∀ A ∈ Ls', ∀ a ∈ A, a.r.tk = c := fun A hA => htk A (by simp [hA])
    have hA : ∀ b ∈ A, b.r.tk = c := fun b hb => htk (a :: A) (by simp) b (by simp [hb])
    have hl' : Ls'.length + 1 ≤ 900 := by simpa using hl
    refine ⟨⟨a :: A, c, 0⟩, _, a, A, c, rfl, rfl, hx, by show (0 : Int) ≤ c; omega, by show c ≤ 1000000; omega, by simp, by simp, by omega, by omega, by simp; omega, .inr ⟨rfl, by simp⟩, by omega, fun e => ?_, fun y A' e hy => ?_, fun y A' e hy => ?_⟩
    · exact serves_of_rrun c hc hc5 out Ls' (h1 e) htk' (by omega)
    · have := hA y (by simp [e])
      omega
    · have h3 := serves_of_rrun c hc hc5 out (Ls' ++ [A]) (h2 (by simp [e])) (by
        intro B hB
        rcases List.mem_append.1 hB with h | h
        · exact htk' B h
        · rw [List.mem_singleton.1 h]; exact hA) (by simp; omega)
      have e0 : c - a.r.tk = 0 := by omega
      show Serves out false (Ls'.map _ ++ [⟨A, c, c - a.r.tk⟩])
      rw [e0]
      simpa using h3

def wantFrom (F : List Int) (X : Nat → List Int) : Nat → Nat → List Int
  | 0, _ => []
  | m + 1, r => wantRow F X r ++ wantFrom F X m (r + 1)
theorem wantFrom_range (F : List Int) (X : Nat → List Int) : ∀ m r, wantFrom F X m r = (List.range' r m).flatMap (wantRow F X)
  | 0, r => by simp [wantFrom]
  | m + 1, r => by simp [wantFrom, List.range'_succ, wantFrom_range F X m (r + 1)]
theorem wantFrom_all (F : List Int) (X : Nat → List Int) (n : Nat) : wantFrom F X n 0 = wantAt F X n := by
  rw [wantFrom_range, wantAt, List.range_eq_range']

theorem lineI_get (c : Int) (k : Nat) : ∀ (l : List Int) (s : Nat), (lineI c k s l).map (fun a => a.r.id) = l
  | [], s => rfl
  | x :: l, s => by simp [lineI, lineI_get c k l (s + 1), reqI]
theorem lineI_tk (c : Int) (k : Nat) : ∀ (l : List Int) (s : Nat), ∀ a ∈ lineI c k s l, a.r.tk = c
  | [], s => by simp [lineI]
  | x :: l, s => by
    intro a ha
    simp only [lineI, List.mem_cons] at ha
    rcases ha with rfl | ha
    · rfl
    · exact lineI_tk c k l (s + 1) a ha

/-- The lines as they stand at the r-th round. -/
def linesAt (G : Int → List Arr) (F : List Int) (r : Nat) : List (List Arr) := (F.map (fun kd => (G kd).drop r)).filter (fun A => !A.isEmpty)
theorem linesAt_ne {G : Int → List Arr} {F : List Int} {r : Nat} : ∀ A ∈ linesAt G F r, A ≠ [] := by
  intro A hA e
  subst e
  simp [linesAt] at hA
theorem linesAt_heads {X : Nat → List Int} {G : Int → List Arr} (hG : ∀ kd, (G kd).map (fun a => a.r.id) = X kd.toNat) (r : Nat) : ∀ F : List Int, headIds (linesAt G F r) = wantRow F X r
  | [] => rfl
  | kd :: F => by
    have ih := linesAt_heads hG r F
    have hx : (X kd.toNat)[r]? = (G kd)[r]?.map (fun a => a.r.id) := by rw [← hG kd, List.getElem?_map]
    unfold linesAt wantRow headIds at *
    simp only [List.map_cons, List.filterMap_cons, hx]
    cases hd : (G kd).drop r with
    | nil =>
      have : (G kd)[r]? = none := by
        rw [List.getElem?_eq_none_iff]
        exact List.drop_eq_nil_iff.1 hd
      simp [this, ih]
    | cons a A =>
      have : (G kd)[r]? = some a := by
        have h := congrArg List.head? hd
        simpa [List.head?_drop] using h
      simp [this, ih]
theorem linesAt_tails (G : Int → List Arr) (r : Nat) : ∀ F : List Int, tails (linesAt G F r) = linesAt G F (r + 1)
  | [] => rfl
  | kd :: F => by
    have ih := linesAt_tails G r F
    unfold tails linesAt at *
    simp only [List.map_cons]
    have h1 : (G kd).drop (r + 1) = ((G kd).drop r).tail := by simp
    rw [h1]
    cases hd : (G kd).drop r with
    | nil => simpa using ih
    | cons a A =>
      cases A with
      | nil => simpa using ih
      | cons y A' => simpa using ih
theorem rrun_from {X : Nat → List Int} {G : Int → List Arr} (hG : ∀ kd, (G kd).map (fun a => a.r.id) = X kd.toNat) (F : List Int) : ∀ m r, RRun (wantFrom F X m r) (linesAt G F r)
  | 0, r => trivial
  | m + 1, r => by
    have h := rrun_round (linesAt G F r) [] (wantFrom F X m (r + 1)) linesAt_ne (by rw [linesAt_tails]; exact rrun_from hG F m (r + 1))
    rw [linesAt_heads hG, List.append_nil] at h
    exact h

/-! ### THE COUNT -/
theorem wantRow_count (X : Nat → List Int) (r : Nat) : ∀ F : List Int, (wantRow F X r).length + (F.map (fun kd => (X kd.toNat).length - (r + 1))).sum = (F.map (fun kd => (X kd.toNat).length - r)).sum
  | [] => rfl
  | kd :: F => by
    have ih := wantRow_count X r F
    unfold wantRow at *
    simp only [List.filterMap_cons, List.map_cons, List.sum_cons]
    rcases Nat.lt_or_ge r (X kd.toNat).length with h | h
    · rw [List.getElem?_eq_getElem h]
      simp only [List.length_cons]
      omega
    · rw [List.getElem?_eq_none h]
      simp only []
      omega
theorem sum_zero : ∀ (l : List Nat), (∀ x ∈ l, x = 0) → l.sum = 0
  | [], _ => rfl
  | y :: l, h => by
    have h1 := h y (by simp)
    have h2 := sum_zero l (fun x hx => h x (by simp [hx]))
    simp only [List.sum_cons]
    omega
theorem wantFrom_count (F : List Int) (X : Nat → List Int) : ∀ m r, (∀ kd ∈ F, (X kd.toNat).length ≤ r + m) → (wantFrom F X m r).length = (F.map (fun kd => (X kd.toNat).length - r)).sum
  | 0, r, h => by
    have : (F.map (fun kd => (X kd.toNat).length - r)).sum = 0 := by
      refine sum_zero _ ?_
      intro x hx
      obtain ⟨kd, hkd, rfl⟩ := List.mem_map.1 hx
      have := h kd hkd
      omega
    rw [this]
    rfl
  | m + 1, r, h => by
    have ih := wantFrom_count F X m (r + 1) (fun kd hkd => by have := h kd hkd; omega)
    have := wantRow_count X r F
    simp only [wantFrom, List.length_append, ih]
    omega
theorem le_sum : ∀ (l : List Nat) (x : Nat), x ∈ l → x ≤ l.sum
  | [], x, h => by simp at h
  | y :: l, x, h => by
    simp only [List.sum_cons]
    rcases List.mem_cons.1 h with rfl | h
    · omega
    · have := le_sum l x h; omega
theorem PInv.count {K : List Nat} {n : Nat} (h : PInv K n) : (wantAt (plainAt K n 3) (plainAt K n) n).length = n := by
  rw [← wantFrom_all, wantFrom_count _ _ n 0]
  · simpa using h.sum
  · intro kd hkd
    have := le_sum _ _ (List.mem_map_of_mem (f := fun kd => (plainAt K n kd.toNat).length) hkd)
    rw [h.sum] at this
    omega

theorem rr_serves {K : List Nat} (h : PInv K K.length) (c : Int) (hc : 1 ≤ c) (hc5 : c ≤ 5) (rot : List TS) (hr : rot.map TS.tb = buildB (zipP K c c c c)) :
    Serves (wantAt (plainAt K K.length 3) (plainAt K K.length) K.length) false (rot.map TS.pb) := by
  have hb := h.build c c c c (Nat.le_refl _)
  rw [List.take_of_length_le (by rw [zipP_len]; omega)] at hb
  have hpb : rot.map TS.pb = (rot.map TS.tb).map (fun b => (⟨b.A, b.q, b.d⟩ : PB)) := by simp [TS.pb, TS.tb]
  have hne : ∀ kd ∈ plainAt K K.length 3, lineI c kd.toNat 0 (plainAt K K.length kd.toNat) ≠ [] := by
    intro kd hkd e
    have h3 := h.rng kd hkd
    have hk := (h.mem kd.toNat (by omega)).2 (by rw [Int.toNat_of_nonneg h3.1]; exact hkd)
    have := lineI_get c kd.toNat (plainAt K K.length kd.toNat) 0
    rw [e] at this
    exact hk this.symm
  have hL : rot.map TS.pb = (linesAt (fun kd => lineI c kd.toNat 0 (plainAt K K.length kd.toNat)) (plainAt K K.length 3) 0).map (fun A => (⟨A, c, 0⟩ : PB)) := by
    rw [hpb, hr, hb]
    unfold linesAt
    rw [List.filter_eq_self.2 (by
      intro A hA
      obtain ⟨kd, hkd, rfl⟩ := List.mem_map.1 hA
      have := hne kd hkd
      simpa using this)]
    simp [tbOf, qOf, Function.comp_def]
  rw [hL]
  refine serves_of_rrun c hc hc5 _ _ ?_ ?_ ?_
  · rw [← wantFrom_all]
    exact rrun_from (fun kd => lineI_get c kd.toNat _ 0) _ _ _
  · intro A hA a ha
    unfold linesAt at hA
    obtain ⟨kd, hkd, rfl⟩ := List.mem_map.1 (List.mem_filter.1 hA).1
    exact lineI_tk c _ _ _ a (List.mem_of_mem_drop ha)
  · have := h.few
    have h2 : (linesAt (fun kd => lineI c kd.toNat 0 (plainAt K K.length kd.toNat)) (plainAt K K.length 3) 0).length ≤ (plainAt K K.length 3).length := by
      unfold linesAt
      refine Nat.le_trans (List.length_filter_le _ _) ?_
      simp
    omega

/-- THE WALK, whole. -/
theorem rr_law (a0 : Option Addr) (cap : Nat) (K : List Nat) (a1 : Int) (w : World) (hin : KindsIn w a0 K) (hn : K.length ≤ 1024) (hcap : K.length ≤ cap) (ha0 : 0 ≤ a1) (ha1 : a1 < 256) (hk3 : ∀ k ∈ K, k < 3) :
    Calls Yba.prog 6 #[.slice a0 K.length cap, .int .u8 a1] w fun e w' => e = .returned (.bool true) ∧ Below w.heap.size w w' := by
  have hp := pinv K hk3
  refine rr_walk a0 cap K a1 w hin hn hcap ha0 ha1 hk3 (hp _ (Nat.le_refl _)).rng (hp _ (Nat.le_refl _)).count ?_ (fun c h1 h5 rot hr => rr_serves (hp _ (Nat.le_refl _)) c h1 h5 rot hr)
  intro c q0 q1 q2 j hj
  rw [(hp j hj).build c q0 q1 q2 hj, List.length_map]
  have := (hp j hj).few
  omega
theorem wf_u8 {n : Int} (h : (Lit.int .u8 n).wf = true) : 0 ≤ n ∧ n ≤ 255 := by
  simp only [Lit.wf, Bool.and_eq_true, decide_eq_true_eq] at h
  exact ⟨h.1, h.2⟩
/-- The kinds of the numbers that came in. -/
theorem kinds_of {w : World} {a : Option Addr} {len cap : Nat} {zs : List Int} (h : (a = none ∧ len = 0 ∧ cap = 0 ∧ zs = []) ∨ ∃ x, a = some x ∧ len ≤ cap ∧ cap ≤ maxLen ∧ zs.length = cap ∧ (∀ i, i < zs.length → w.cell? (x.add i) = some (.int .u8 (zs.getD i 0))) ∧ ∀ n ∈ zs, (Lit.int .u8 n).wf = true) : len ≤ cap ∧ ∃ K : List Nat, K.length = len ∧ (∀ k ∈ K, k < 3) ∧ KindsIn w a K := by
  rcases h with ⟨rfl, rfl, rfl, rfl⟩ | ⟨x, rfl, h1, h2, h3, h4, h5⟩
  · exact ⟨Nat.le_refl _, [], rfl, by simp, fun j hj => by simp at hj⟩
  · refine ⟨h1, (zs.take len).map (fun z => (z % 3).toNat), by simp; omega, ?_, ?_⟩
    · intro k hk
      simp only [List.mem_map] at hk
      obtain ⟨z, hz, rfl⟩ := hk
      omega
    · intro j hj
      have hjm : j < min len zs.length := by simpa using hj
      have hj' : j < len ∧ j < zs.length := by omega
      have hc := h4 j hj'.2
      have hw := wf_u8 (h5 (zs.getD j 0) (by rw [List.getD_eq_getElem?_getD, List.getElem?_eq_getElem hj'.2]; exact List.getElem_mem _))
      have hw0 := hw.1
      have hw1 := hw.2
      have hb : (x.add j).block = x.block := by unfold Addr.add; split <;> rfl
      refine ⟨x, zs.getD j 0, rfl, ?_, hc, hw0, by omega, ?_⟩
      · rw [← hb]; exact World.block_lt_of_cell? w _ hc
      · simp [List.getD_eq_getElem?_getD, hj'.1, hj'.2]

end Go.Proofs.Ybulkhba
