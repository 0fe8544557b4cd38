import Derived.Test.YbulkhbaNew
import Derived.Laws.OwnMore
import Derived.Laws.MakeOwn
namespace Go.Proofs.Ybulkhba
open Go.RowKit
set_option linter.unusedVariables false
set_option linter.unusedSimpArgs false

def nameB (k : Nat) : ByteArray := if k = 0 then ⟨#[97]⟩ else if k = 1 then ⟨#[98]⟩ else ⟨#[99]⟩
theorem nameB_eq {k k' : Nat} (h : k < 3) (h' : k' < 3) : (nameB k == nameB k') = decide (k = k') := by
  have e : k = 0 ∨ k = 1 ∨ k = 2 := by omega
  have e' : k' = 0 ∨ k' = 1 ∨ k' = 2 := by omega
  rcases e with rfl | rfl | rfl <;> rcases e' with rfl | rfl | rfl <;> decide

/-- zzs0390bname -/
theorem name_any (k : Nat) (w : World) : Calls Yba.prog 16 #[.int .i64 k] w fun e w' => e = .returned (.string (nameB k)) ∧ w' = w := by
  unfold nameB
  by_cases h0 : k = 0
  · subst h0
    go_enter Yba.func16, Yba.ntmps16
    go_wp2
    go_ret
    exact ⟨rfl, rfl⟩
  · by_cases h1 : k = 1
    · subst h1
      go_enter Yba.func16, Yba.ntmps16
      go_wp2
      go_ret
      exact ⟨rfl, rfl⟩
    · have e0 : (((k : Nat) : Int) == 0) = false := by rw [beq_eq_false_iff_ne]; omega
      have e1 : (((k : Nat) : Int) == 1) = false := by rw [beq_eq_false_iff_ne]; omega
      simp only [h0, h1, if_false]
      go_enter Yba.func16, Yba.ntmps16
      go_wp2
      go_ret
      exact ⟨rfl, rfl⟩

/-! ### THE LISTS -/
def upd {α : Type} (f : Nat → α) (i : Nat) (v : α) : Nat → α := fun m => if m = i then v else f m
def plainAt (K : List Nat) : Nat → (Nat → List Int)
  | 0 => fun _ => []
  | j + 1 => upd (if plainAt K j (K.getD j 0) = [] then upd (plainAt K j) 3 (plainAt K j 3 ++ [(K.getD j 0 : Int)]) else plainAt K j) (K.getD j 0) (plainAt K j (K.getD j 0) ++ [(j : Int)])

theorem plainAt_len (K : List Nat) : ∀ j i, (plainAt K j i).length ≤ 2 * j
  | 0, i => by simp [plainAt]
  | j + 1, i => by
    have h1 := plainAt_len K j i
    have h2 := plainAt_len K j (K.getD j 0)
    have h3 := plainAt_len K j 3
    simp only [plainAt]
    generalize plainAt K j = o at *
    generalize K.getD j 0 = k at *
    unfold upd
    split
    · simp; omega
    · split
      · simp only []
        split
        · simp; omega
        · omega
      · omega
/-- A slice of numbers that the run owns. -/
def Lst (W : World) (v : Value) (xs : List Int) : Prop := W.ownsRow 0 3 1 v xs.length (xs.map (Value.int .i64 ·))
theorem Lst.only {S : List Nat} {w w' : World} {v : Value} {xs : List Int} (h : Lst w v xs) (ho : Only S w w') (hS : ∀ k, v.ownBlock = some k → k ∉ S) : Lst w' v xs := owns_only h ho hS
theorem Lst.lt {w : World} {v : Value} {xs : List Int} (h : Lst w v xs) : ∀ k, v.ownBlock = some k → k < w.heap.size := fun k hk => (World.ownsRow.lt h k hk).2
/-- The four lists, apart, all above B. -/
structure Own4 (W : World) (os : Nat → Value) (xs : Nat → List Int) (B : Nat) : Prop where
  owns : ∀ i, i < 4 → Lst W (os i) (xs i)
  apart : ∀ i i', i < 4 → i' < 4 → i ≠ i' → ∀ k, (os i).ownBlock = some k → (os i').ownBlock ≠ some k
  lo : ∀ i, i < 4 → ∀ k, (os i).ownBlock = some k → B ≤ k
theorem Own4.only {S : List Nat} {W W' : World} {os : Nat → Value} {xs : Nat → List Int} {B : Nat} (h : Own4 W os xs B) (ho : Only S W W') (hS : ∀ k ∈ S, k < B) : Own4 W' os xs B :=
  ⟨fun i hi => (h.owns i hi).only ho (fun k hk hm => by have := hS k hm; have := h.lo i hi k hk; omega), h.apart, h.lo⟩
theorem Own4.push {W W' : World} {os : Nat → Value} {xs : Nat → List Int} {B : Nat} (h : Own4 W os xs B) (i : Nat) (hi : i < 4) (v' : Value) (ys : List Int) (ho : Only (os i).ownBlock.toList W W') (hl : Lst W' v' ys)
    (hn : v'.ownBlock = (os i).ownBlock ∨ ∀ k, v'.ownBlock = some k → W.heap.size ≤ k) (hB : B ≤ W.heap.size) : Own4 W' (upd os i v') (upd xs i ys) B := by
  have hne : ∀ m, m < 4 → m ≠ i → ∀ k, (os m).ownBlock = some k → v'.ownBlock ≠ some k := by
    intro m hm hmi k hk hv
    rcases hn with hn | hn
    · rw [hn] at hv; exact h.apart m i hm hi hmi k hk hv
    · have := hn k hv; have := (h.owns m hm).lt k hk; omega
  refine ⟨fun m hm => ?_, fun m m' hm hm' hmm k hk => ?_, fun m hm k hk => ?_⟩
  · by_cases e : m = i
    · simp only [upd, e, if_true]; exact hl
    · simp only [upd, e, if_false]
      exact (h.owns m hm).only ho (fun k hk hk' => by simp only [Option.mem_toList] at hk'; exact h.apart m i hm hi e k hk hk')
  · by_cases e : m = i
    · by_cases e' : m' = i
      · omega
      · simp only [upd, e, e', if_true, if_false] at hk ⊢
        exact fun h' => hne m' hm' e' k h' hk
    · by_cases e' : m' = i
      · simp only [upd, e, e', if_true, if_false] at hk ⊢
        exact hne m hm e k hk
      · simp only [upd, e, e', if_false] at hk ⊢
        exact h.apart m m' hm hm' hmm k hk
  · by_cases e : m = i
    · simp only [upd, e, if_true] at hk
      rcases hn with hn | hn
      · rw [hn] at hk; exact h.lo i hi k hk
      · exact Nat.le_trans hB (hn k hk)
    · simp only [upd, e, if_false] at hk
      exact h.lo m hm k hk

def plainReq (i k : Nat) : Req := ⟨i, nameB k, 0, 0, 0, false⟩
structure PL (w W : World) (K : List Nat) (jr jk : Nat) (os : Nat → Value) (xs : Nat → List Int) : Prop where
  below : Below w.heap.size w W
  res : Row W w.heap.size 109 #[.slice none 0 0, .slice none 0 0, .slice none 0 0]
  rs : ∃ cs, Row W (w.heap.size + 1) 83 cs ∧ cs.size = K.length * 6 ∧ ∀ i, i < jr → ∀ c, c < 6 → cs[i * 6 + c]? = (plainReq i (K.getD i 0)).vs[c]?
  ks : ∃ cs, Row W (w.heap.size + 1 + 1) 3 cs ∧ cs.size = K.length ∧ ∀ i, i < jk → cs[i]? = some (.int .i64 (K.getD i 0 : Nat))
  ls : Row W (w.heap.size + 1 + 1 + 1) 109 #[os 0, os 1, os 2]
  own : Own4 W os xs (w.heap.size + 4)
theorem PL.only {S : List Nat} {w W W' : World} {K : List Nat} {jr jk : Nat} {os : Nat → Value} {xs : Nat → List Int} (h : PL w W K jr jk os xs) (ho : Only S W W') (hS : ∀ k ∈ S, w.heap.size + 4 ≤ k) (own' : ∀ i, i < 4 → Lst W' (os i) (xs i)) : PL w W' K jr jk os xs := by
  obtain ⟨c1, a1, a2, a3⟩ := h.rs
  obtain ⟨c2, b1, b2, b3⟩ := h.ks
  have n : ∀ b, b < w.heap.size + 4 → b ∉ S := fun b hb hm => by have := hS b hm; omega
  exact ⟨h.below.trans (ho.below h.below.size (fun j hj => by have := hS j hj; omega)), h.res.only ho (n _ (by omega)), ⟨c1, a1.only ho (n _ (by omega)), a2, a3⟩, ⟨c2, b1.only ho (n _ (by omega)), b2, b3⟩, h.ls.only ho (n _ (by omega)), own', h.own.apart, h.own.lo⟩
theorem Lst.shape {w : World} {v : Value} {xs : List Int} (h : Lst w v xs) : ∃ a c, v = .slice a xs.length c ∧ xs.length ≤ c := by
  rcases h.2 with ⟨h1, h2⟩ | ⟨g, cap, cur, h1, _, _, h2, _⟩
  · exact ⟨none, 0, by rw [h1, h2], by omega⟩
  · exact ⟨_, cap, h1, h2⟩
theorem ints_one {x : Int} : ∀ (u : Value), u ∈ [Value.int .i64 x] → u.oneCell' = true := by
  intro u hu; simp at hu; subst hu; rfl

/-- A request laid into its six cells. -/
theorem row6 {W : World} {b : Nat} {cs : Array Value} {j n : Nat} (h : Row W b 83 cs) (hs : cs.size = n * 6) (hj : j < n) (v0 v1 v2 v3 v4 v5 : Value) :
    ∃ cs', Row ((((((W.setCell ⟨b, j * 6, none⟩ v0).setCell ⟨b, j * 6 + 1, none⟩ v1).setCell ⟨b, j * 6 + 2, none⟩ v2).setCell ⟨b, j * 6 + 3, none⟩ v3).setCell ⟨b, j * 6 + 4, none⟩ v4).setCell ⟨b, j * 6 + 5, none⟩ v5) b 83 cs' ∧ cs'.size = n * 6 ∧
      (∀ i c, c < 6 → i ≠ j → cs'[i * 6 + c]? = cs[i * 6 + c]?) ∧ ∀ c, c < 6 → cs'[j * 6 + c]? = #[v0, v1, v2, v3, v4, v5][c]? := by
  refine ⟨_, ((((((h.set (j * 6) v0).set (j * 6 + 1) v1).set (j * 6 + 2) v2).set (j * 6 + 3) v3).set (j * 6 + 4) v4).set (j * 6 + 5) v5), by simpa using hs, ?_, ?_⟩
  · intro i c hc hi
    rw [Array.getElem?_setIfInBounds_ne (by omega), Array.getElem?_setIfInBounds_ne (by omega), Array.getElem?_setIfInBounds_ne (by omega), Array.getElem?_setIfInBounds_ne (by omega), Array.getElem?_setIfInBounds_ne (by omega), Array.getElem?_setIfInBounds_ne (by omega)]
  · intro c hc
    have e : c = 0 ∨ c = 1 ∨ c = 2 ∨ c = 3 ∨ c = 4 ∨ c = 5 := by omega
    have l5 : j * 6 + 5 < cs.size := by omega
    rcases e with rfl | rfl | rfl | rfl | rfl | rfl <;> simp [Array.getElem?_setIfInBounds] <;> omega

theorem PL.kinds {w W : World} {K : List Nat} {jr j : Nat} {os : Nat → Value} {xs : Nat → List Int} (h : PL w W K jr j os xs) (hj : j < K.length) (k : Nat) (hk : k = K.getD j 0) :
    PL w (W.setCell ⟨w.heap.size + 1 + 1, j, none⟩ (.int .i64 k)) K jr (j + 1) os xs := by
  have ho : Only [w.heap.size + 1 + 1] W (W.setCell ⟨w.heap.size + 1 + 1, j, none⟩ (.int .i64 k)) := (Only.refl _ _).setCell (by simp) _
  obtain ⟨c1, a1, a2, a3⟩ := h.rs
  obtain ⟨c2, b1, b2, b3⟩ := h.ks
  refine ⟨h.below.trans (ho.below h.below.size (by simp; omega)), h.res.only ho (by simp; omega), ⟨c1, a1.only ho (by simp), a2, a3⟩, ⟨_, b1.set j _, by simpa using b2, ?_⟩, h.ls.only ho (by simp), h.own.only ho (by simp)⟩
  intro i hi
  rcases Nat.lt_or_ge i j with h1 | h1
  · rw [Array.getElem?_setIfInBounds_ne (by omega)]; exact b3 i h1
  · have e : i = j := by omega
    subst e
    rw [Array.getElem?_setIfInBounds_self_of_lt (by omega), hk]
theorem PL.alloc {w W : World} {K : List Nat} {jr jk : Nat} {os : Nat → Value} {xs : Nat → List Int} (h : PL w W K jr jk os xs) (o : Obj) : PL w (W.alloc o) K jr jk os xs :=
  h.only (S := []) ((Only.refl _ _).alloc o) (by simp) (h.own.only (S := []) ((Only.refl _ _).alloc o) (by simp)).owns
theorem PL.size {w W : World} {K : List Nat} {jr jk : Nat} {os : Nat → Value} {xs : Nat → List Int} (h : PL w W K jr jk os xs) : w.heap.size + 4 ≤ W.heap.size := by have := h.ls.lt; omega
theorem PL.grown {w W W' : World} {K : List Nat} {jr jk : Nat} {os : Nat → Value} {xs : Nat → List Int} (h : PL w W K jr jk os xs) (i : Nat) (hi : i < 4) (v' : Value) (x : Int)
    (hown : W'.ownsRow 0 3 1 v' ((xs i).length + 1) ((xs i).map (Value.int .i64 ·) ++ [.int .i64 x])) (hg : W.grownBy W' (os i).ownBlock) (hn : v'.ownBlock = (os i).ownBlock ∨ v'.ownBlock = some W.heap.size) :
    Below w.heap.size w W' ∧ Row W' w.heap.size 109 #[.slice none 0 0, .slice none 0 0, .slice none 0 0] ∧ (∃ cs, Row W' (w.heap.size + 1) 83 cs ∧ cs.size = K.length * 6 ∧ ∀ i, i < jr → ∀ c, c < 6 → cs[i * 6 + c]? = (plainReq i (K.getD i 0)).vs[c]?) ∧
    (∃ cs, Row W' (w.heap.size + 1 + 1) 3 cs ∧ cs.size = K.length ∧ ∀ i, i < jk → cs[i]? = some (.int .i64 (K.getD i 0 : Nat))) ∧ Row W' (w.heap.size + 1 + 1 + 1) 109 #[os 0, os 1, os 2] ∧ Own4 W' (upd os i v') (upd xs i (xs i ++ [x])) (w.heap.size + 4) := by
  have ho : Only (os i).ownBlock.toList W W' := Only.ofGrown hg (by intro j hj; simp [hj])
  obtain ⟨c1, a1, a2, a3⟩ := h.rs
  obtain ⟨c2, b1, b2, b3⟩ := h.ks
  have hlo : ∀ k ∈ (os i).ownBlock.toList, w.heap.size + 4 ≤ k := fun k hk => h.own.lo i hi k (by simpa using hk)
  have n : ∀ b, b < w.heap.size + 4 → b ∉ (os i).ownBlock.toList := fun b hb hm => by have := hlo b hm; omega
  refine ⟨h.below.trans (ho.below h.below.size (fun j hj => by have := hlo j hj; omega)), h.res.only ho (n _ (by omega)), ⟨c1, a1.only ho (n _ (by omega)), a2, a3⟩, ⟨c2, b1.only ho (n _ (by omega)), b2, b3⟩, h.ls.only ho (n _ (by omega)), h.own.push i hi v' _ ho (by simpa [Lst] using hown) ?_ h.size⟩
  rcases hn with e | e
  · exact .inl e
  · refine .inr fun k hk => ?_
    rw [e] at hk; cases hk; exact Nat.le_refl _
theorem PL.first {w W W' : World} {K : List Nat} {jr jk : Nat} {os : Nat → Value} {xs : Nat → List Int} (h : PL w W K jr jk os xs) (v' : Value) (x : Int)
    (hown : W'.ownsRow 0 3 1 v' ((xs 3).length + 1) ((xs 3).map (Value.int .i64 ·) ++ [.int .i64 x])) (hg : W.grownBy W' (os 3).ownBlock) (hn : v'.ownBlock = (os 3).ownBlock ∨ v'.ownBlock = some W.heap.size) :
    PL w W' K jr jk (upd os 3 v') (upd xs 3 (xs 3 ++ [x])) := by
  obtain ⟨h1, h2, h3, h4, h5, h6⟩ := h.grown 3 (by omega) v' x hown hg hn
  exact ⟨h1, h2, h3, h4, h5, h6⟩
theorem PL.list {w W W' : World} {K : List Nat} {jr jk : Nat} {os : Nat → Value} {xs : Nat → List Int} (h : PL w W K jr jk os xs) (k : Nat) (hk : k < 3) (v' : Value) (x : Int)
    (hown : W'.ownsRow 0 3 1 v' ((xs k).length + 1) ((xs k).map (Value.int .i64 ·) ++ [.int .i64 x])) (hg : W.grownBy W' (os k).ownBlock) (hn : v'.ownBlock = (os k).ownBlock ∨ v'.ownBlock = some W.heap.size) :
    PL w (W'.setCell ⟨w.heap.size + 1 + 1 + 1, k, none⟩ v') K jr jk (upd os k v') (upd xs k (xs k ++ [x])) ∧ W'.cell? ⟨w.heap.size + 1 + 1 + 1, k, none⟩ = some (os k) ∧ W'.frozen? ⟨w.heap.size + 1 + 1 + 1, k, none⟩ = false := by
  obtain ⟨h1, h2, ⟨c1, a1, a2, a3⟩, ⟨c2, b1, b2, b3⟩, h5, h6⟩ := h.grown k (by omega) v' x hown hg hn
  have ho : Only [w.heap.size + 1 + 1 + 1] W' (W'.setCell ⟨w.heap.size + 1 + 1 + 1, k, none⟩ v') := (Only.refl _ _).setCell (by simp) _
  have e : k = 0 ∨ k = 1 ∨ k = 2 := by omega
  refine ⟨⟨h1.trans (ho.below h1.size (by simp; omega)), h2.only ho (by simp; omega), ⟨c1, a1.only ho (by simp), a2, a3⟩, ⟨c2, b1.only ho (by simp), b2, b3⟩, ?_, h6.only ho (by simp)⟩, ?_, h5.frozen k⟩
  · have h7 := h5.set k v'
    rcases e with rfl | rfl | rfl <;> simpa [upd] using h7
  · rw [h5.cell]
    rcases e with rfl | rfl | rfl <;> simp
theorem PL.req {w W W' : World} {K : List Nat} {j jk : Nat} {os : Nat → Value} {xs : Nat → List Int} (h : PL w W K j jk os xs) (hj : j < K.length) (k : Nat) (hk : k = K.getD j 0)
    (hW : W' = ((((((W.setCell ⟨w.heap.size + 1, j * 6, none⟩ (.int .i64 j)).setCell ⟨w.heap.size + 1, j * 6 + 1, none⟩ (.string (nameB k))).setCell ⟨w.heap.size + 1, j * 6 + 2, none⟩ (.int .i64 0)).setCell ⟨w.heap.size + 1, j * 6 + 3, none⟩ (.int .i64 0)).setCell ⟨w.heap.size + 1, j * 6 + 4, none⟩ (.int .i64 0)).setCell ⟨w.heap.size + 1, j * 6 + 5, none⟩ (.bool false))) :
    PL w W' K (j + 1) jk os xs := by
  have ho : Only [w.heap.size + 1] W W' := by
    rw [hW]
    exact ((((((Only.refl _ _).setCell (by simp) _).setCell (by simp) _).setCell (by simp) _).setCell (by simp) _).setCell (by simp) _).setCell (by simp) _
  obtain ⟨c1, a1, a2, a3⟩ := h.rs
  obtain ⟨c2, b1, b2, b3⟩ := h.ks
  obtain ⟨cs', g1, g2, g3, g4⟩ := row6 a1 a2 hj (.int .i64 j) (.string (nameB k)) (.int .i64 0) (.int .i64 0) (.int .i64 0) (.bool false)
  rw [← hW] at g1
  refine ⟨h.below.trans (ho.below h.below.size (by simp)), h.res.only ho (by simp), ⟨cs', g1, g2, ?_⟩, ⟨c2, b1.only ho (by simp), b2, b3⟩, h.ls.only ho (by simp; omega), h.own.only ho (by simp)⟩
  intro i hi c hc
  by_cases e : i = j
  · subst e; rw [g4 c hc, hk]; rfl
  · rw [g3 i c hc e]; exact a3 i (by omega) c hc
end Go.Proofs.Ybulkhba
