import Derived.Test.YbulkhbaTail
import Derived.Lib.SliceRun
import Derived.Laws.CopyOwn
namespace Go.Proofs.Ybulkhba
open Go.RowKit

section
variable {P : Program} {w : World}
theorem result_inj {α : Type} {a b : α} {w w' : World} (h : Result.ok a w = Result.ok b w') : a = b := by cases h; rfl

/-- append, WHERE THE NEW ARRAY LIES TOLD TOO: the old one, or the next block. -/
theorem run_append_own2 (t ty e : TypeId) (i : TypeInfo) (z : Value) (size bytes : Nat) (ht : P.underlying t = some (.slice e)) (hi : P.info? e = some i) (hz : i.zero = some z)
    (hsize : i.size = size) (hby : i.bytes = bytes) (hzs : z.cells.size = size) (hsz : 0 < size)
    (v : Value) (n : Nat) (xs : List Value) (hown : w.ownsRow 0 e size v n xs)
    (a : Addr) (m c : Nat) (news : List Value) (hl : news.length = m * size) (hnews : ∀ j u, news[j]? = some u → w.cell? (a.add j) = some u) (h1 : ∀ u ∈ news, u.oneCell' = true)
    (h0 : 0 < m) (h63 : n + m ≤ maxLen) (hroomy : (∃ ad cap, v = .slice ad n cap ∧ n + m ≤ cap) ∨ (n + m) * bytes ≤ 140737488355328) :
    ∃ v' w', (Builtin.append_ #[t, t] ty #[v, .slice (some a) m c]).run P w = .ok v' w' ∧ w'.ownsRow 0 e size v' (n + m) (xs ++ news) ∧ w.grownBy w' v.ownBlock ∧
      (v'.ownBlock = v.ownBlock ∨ v'.ownBlock = some w.heap.size) := by
  rcases hroomy with ⟨ad, cap, rfl, hroom⟩ | hbytes
  · subst hsize
    rcases hown.2 with ⟨hv, hn⟩ | ⟨g, cap', cur, hv, _, hg, hnc, hcm, hcs, htake⟩
    · simp at hv; omega
    · simp at hv
      obtain ⟨rfl, rfl⟩ := hv
      have hfit : n * i.size + news.length ≤ cur.size := by rw [hl, hcs, ← Nat.add_mul]; exact Nat.mul_le_mul_right _ hroom
      have hlen : (xs ++ news).length = (n + m) * i.size := by rw [List.length_append, hown.1, hl, Nat.add_mul]
      have hx := run_append_room (P := P) w t ty e i ht hi g n cap cur hg a m c news hl hnews h1 hroom hfit
      refine ⟨_, _, hx, ⟨hlen, .inr ⟨g, cap, _, rfl, Nat.zero_le _, setRow_heap w g cur _ e _ hg, hroom, hcm, ?_, ?_⟩⟩, ⟨rfl, rfl, rfl, by simp, fun k _ hk => setRow_other w g k _ (fun e => hk (by simp [Value.ownBlock, e]))⟩, .inl rfl⟩
      · simp only [List.size_toArray, List.length_append, List.length_take, List.length_drop, Array.length_toList]
        omega
      · rw [htake, ← hlen]
        exact List.take_left
  obtain ⟨v', w', hr, h2, h3, _⟩ := run_append_own (P := P) w 0 t ty e i z size bytes ht hi hz hsize hby hzs hsz v n xs hown a m c news hl hnews h1 h63 hbytes (Nat.zero_le _)
  refine ⟨v', w', hr, h2, h3, ?_⟩
  have h63' : n + m ≤ 9223372036854775807 := by simp only [maxLen] at h63; omega
  subst hsize hby
  rcases hown.2 with ⟨rfl, rfl⟩ | ⟨g, cap, cur, rfl, _, hg, hnc, hcm, hcs, htake⟩
  · have hx := run_append_nil (P := P) w t ty e i z ht hi hz a m c news hl hnews h0 (by omega) (by have hb := hbytes; simp only [Nat.zero_add] at hb; omega)
    rw [hr] at hx
    rw [result_inj hx]
    exact .inr rfl
  · by_cases hroom : n + m ≤ cap
    · have hfit : n * i.size + news.length ≤ cur.size := by rw [hl, hcs, ← Nat.add_mul]; exact Nat.mul_le_mul_right _ hroom
      have hx := run_append_room (P := P) w t ty e i ht hi g n cap cur hg a m c news hl hnews h1 hroom hfit
      rw [hr] at hx
      rw [result_inj hx]
      exact .inl rfl
    · have holds : ∀ j u, xs[j]? = some u → w.cell? ((⟨g, 0, none⟩ : Addr).add j) = some u := hown.cells (g := g) rfl
      have hx := run_append_grow (P := P) w t ty e i z ht hi hz ⟨g, 0, none⟩ n cap xs hown.1 holds a m c news hl hnews (by omega) (by omega) (growslice_fits (by omega) hbytes)
      rw [hr] at hx
      rw [result_inj hx]
      exact .inr rfl

theorem wpList_append_own2 {ops : Array Oper} {rest : List Oper} {o : Oper} {a : Act} {Q : Exit → Act → World → Prop} (hgd : o.guard = none) (s x : Operand) (t : TypeId)
    (ho : o.op = .call { callee := .builtin .append, args := #[s, x], argTypes := #[t, t] })
    (e : TypeId) (i : TypeInfo) (z : Value) (size bytes : Nat) (ht : P.underlying t = some (.slice e)) (hi : P.info? e = some i) (hz : i.zero = some z)
    (hsize : i.size = size) (hby : i.bytes = bytes) (hzs : z.cells.size = size) (hsz : 0 < size)
    (v : Value) (n : Nat) (xs : List Value) (hs : a.eval s = v) (hown : w.ownsRow 0 e size v n xs)
    (ad : Addr) (m c : Nat) (news : List Value) (hx : a.eval x = .slice (some ad) m c) (hl : news.length = m * size) (hnews : ∀ j u, news[j]? = some u → w.cell? (ad.add j) = some u) (h1 : ∀ u ∈ news, u.oneCell' = true)
    (h0 : 0 < m) (h63 : n + m ≤ maxLen) (hbytes : (∃ ad cap, v = .slice ad n cap ∧ n + m ≤ cap) ∨ (n + m) * bytes ≤ 140737488355328)
    (h : ∀ v' w', w'.ownsRow 0 e size v' (n + m) (xs ++ news) → w.grownBy w' v.ownBlock → (v'.ownBlock = v.ownBlock ∨ v'.ownBlock = some w.heap.size) → wpList P ops Q rest (a.put o.dst v') w') : wpList P ops Q (o :: rest) a w := by
  refine wpList_plain hgd fun K hK => ?_
  obtain ⟨v', w', hr, h2, h3, h4⟩ := run_append_own2 (P := P) (w := w) t o.type e i z size bytes ht hi hz hsize hby hzs hsz v n xs hown ad m c news hl hnews h1 h0 h63 hbytes
  unfold Oper.wp execOp
  simp only [ho, resolve, invoke, builtin, Sem.run_bind, Sem.run_pure, Result.andThen_ok, List.map_toArray, List.map_cons, List.map_nil, hs, hx, hr]
  exact hK _ _ (h v' w' h2 h3 h4)
end

/-- The same as one step of a region that draws. -/
theorem step_append_own2 {P : Program} {w : World} {ops : Array Oper} {o : Oper} {a : Act} {K : Act → World → Prop} {Q : Exit → Act → World → Prop} {E : Prop} (hgd : o.guard = none) (s x : Operand) (t : TypeId)
    (ho : o.op = .call { callee := .builtin .append, args := #[s, x], argTypes := #[t, t] })
    (e : TypeId) (i : TypeInfo) (z : Value) (size bytes : Nat) (ht : P.underlying t = some (.slice e)) (hi : P.info? e = some i) (hz : i.zero = some z)
    (hsize : i.size = size) (hby : i.bytes = bytes) (hzs : z.cells.size = size) (hsz : 0 < size)
    (v : Value) (n : Nat) (xs : List Value) (hs : a.eval s = v) (hown : w.ownsRow 0 e size v n xs)
    (ad : Addr) (m c : Nat) (news : List Value) (hx : a.eval x = .slice (some ad) m c) (hl : news.length = m * size) (hnews : ∀ j u, news[j]? = some u → w.cell? (ad.add j) = some u) (h1 : ∀ u ∈ news, u.oneCell' = true)
    (h0 : 0 < m) (h63 : n + m ≤ maxLen) (hbytes : (∃ ad cap, v = .slice ad n cap ∧ n + m ≤ cap) ∨ (n + m) * bytes ≤ 140737488355328)
    (h : ∀ v' w', w'.ownsRow 0 e size v' (n + m) (xs ++ news) → w.grownBy w' v.ownBlock → (v'.ownBlock = v.ownBlock ∨ v'.ownBlock = some w.heap.size) → K (a.put o.dst v') w') :
    if Region.wanted o (yielded ops a.tmps) = true then Oper.wp P o a w K Q else E := by
  have hw : Region.wanted o (yielded ops a.tmps) = true := by simp [Region.wanted, hgd]
  rw [if_pos hw]
  obtain ⟨v', w', hr, h2, h3, h4⟩ := run_append_own2 (P := P) (w := w) t o.type e i z size bytes ht hi hz hsize hby hzs hsz v n xs hown ad m c news hl hnews h1 h0 h63 hbytes
  unfold Oper.wp execOp
  simp only [ho, resolve, invoke, builtin, Sem.run_bind, Sem.run_pure, Result.andThen_ok, List.map_toArray, List.map_cons, List.map_nil, hs, hx, hr]
  exact h v' w' h2 h3 h4
/-- copy onto a row, whatever the elements' size. -/
theorem run_copy_rowN {P : Program} (w : World) (dT sT ty elem : TypeId) (size g o dLen dCap : Nat) (a : Addr) (sLen sCap : Nat) (cur : Array Value) (t : TypeId) (cs : List Value)
    (hu : P.underlying dT = some (.slice elem)) (hs : (P.info? elem).map (·.size) = some size) (m : Nat) (hm : Nat.min sLen dLen = m)
    (hg : Row w g t cur) (hn : cs.length = m * size)
    (hsrc : ∀ j v, cs[j]? = some v → w.cell? (a.add j) = some v) (hfit : o + cs.length ≤ cur.size) (h1 : ∀ v ∈ cs, v.oneCell' = true) :
    (Builtin.copy_ #[dT, sT] ty #[.slice (some ⟨g, o, none⟩) dLen dCap, .slice (some a) sLen sCap]).run P w =
      .ok (goInt m) (w.setRow g (cur.toList.take o ++ cs ++ cur.toList.drop (o + cs.length)).toArray) := by
  have hl := run_firstCells_some (P := P) w size m a sLen sCap cs hn hsrc
  have hst := run_storeCells_at P g o t cs 0 cur w hg (by simpa using hfit) h1
  cases hq : P.info? elem with
  | none => simp [hq] at hs
  | some i =>
    have hi : i.size = size := by simpa [hq] using hs
    simp [Builtin.copy_, run_underlying hu, Builtin.lenOf, sizeOf, typeInfo, hq, hi, hm, hl, hst]

theorem Row.setRow {w : World} {b : Nat} {t : TypeId} {cs : Array Value} (h : Row w b t cs) (cs' : Array Value) : Row (w.setRow b cs') b t cs' := setRow_heap w b cs cs' t (0, 0) h
theorem Row.setRowOther {w : World} {b : Nat} {t : TypeId} {cs : Array Value} (h : Row w b t cs) {b' : Nat} (hne : b ≠ b') (cs' : Array Value) : Row (w.setRow b' cs') b t cs := (setRow_other w b' b cs' hne).trans h
theorem Only.setRow {S : List Nat} {a b : World} (h : Only S a b) {g : Nat} (hp : g ∈ S ∨ a.heap.size ≤ g) (cs : Array Value) : Only S a (b.setRow g cs) :=
  ⟨h.os, h.tape, h.output, by simpa using h.size, fun j hj hn => (setRow_other b g j cs (fun e => by subst e; rcases hp with h' | h'; exact hn h'; omega)).trans (h.block j hj hn)⟩
/-- 'clear(s)' of a slice of n > 0 elements, whatever their size. -/
theorem run_clear_row {P : Program} {w : World} (t e ty : TypeId) (z : Value) (ht : P.underlying t = some (.slice e)) (hv : ∀ w, (zeroValue e).run P w = .ok z w) (g o n c : Nat) (hn : 0 < n) (cur : Array Value) (hg : Row w g e cur)
    (hfit : o + (Builtin.zeroCells z.cells n).toList.length ≤ cur.size) (h1 : ∀ u ∈ (Builtin.zeroCells z.cells n).toList, u.oneCell' = true) :
    (Builtin.clear_ #[t] ty #[.slice (some ⟨g, o, none⟩) n c]).run P w = .ok (.tuple #[]) (w.setRow g (cur.toList.take o ++ (Builtin.zeroCells z.cells n).toList ++ cur.toList.drop (o + (Builtin.zeroCells z.cells n).toList.length)).toArray) := by
  have hst := run_storeCells_at P g o e (Builtin.zeroCells z.cells n).toList 0 cur w hg (by simpa using hfit) h1
  simp only [Nat.add_zero] at hst
  obtain ⟨m, rfl⟩ : ∃ m, n = m + 1 := ⟨n - 1, by omega⟩
  simp [Builtin.clear_, run_underlying ht, hv, hst]

/-- An owned row stays where its block is not touched. -/
theorem owns_only {S : List Nat} {w w' : World} {e : TypeId} {size : Nat} {v : Value} {n : Nat} {xs : List Value} (h : w.ownsRow 0 e size v n xs) (ho : Only S w w') (hS : ∀ k, v.ownBlock = some k → k ∉ S) : w'.ownsRow 0 e size v n xs := by
  refine ⟨h.1, ?_⟩
  rcases h.2 with hn | ⟨g, cap, cur, rfl, hb, hgg, rest⟩
  · exact .inl hn
  · exact .inr ⟨g, cap, cur, rfl, hb, (ho.block g (Array.getElem?_eq_some_iff.1 hgg).1 (hS g rfl)).trans hgg, rest⟩
/-- A slice that owns at least one element is written out. -/
theorem owns_shape {w : World} {e : TypeId} {size : Nat} {v : Value} {n : Nat} {xs : List Value} (h : w.ownsRow 0 e size v n xs) (hn : 0 < n) : ∃ g cap, v = .slice (some ⟨g, 0, none⟩) n cap := by
  rcases h.2 with ⟨_, h0⟩ | ⟨g, cap, _, hv, _⟩
  · omega
  · exact ⟨g, cap, hv⟩
theorem owns_cap {w : World} {e : TypeId} {size : Nat} {ad : Option Addr} {n cap : Nat} {xs : List Value} (h : w.ownsRow 0 e size (.slice ad n cap) n xs) : n ≤ cap := by
  rcases h.2 with ⟨hv, h0⟩ | ⟨g, cap', _, hv, _, _, hc, _⟩
  · omega
  · simp at hv; omega
/-- The new array of an append lies among the blocks that were written or made. -/
theorem own_new {w : World} {v v' : Value} (h : v'.ownBlock = v.ownBlock ∨ v'.ownBlock = some w.heap.size) : ∀ k, v'.ownBlock = some k → v.ownBlock = some k ∨ w.heap.size ≤ k := by
  intro k hk
  rcases h with h | h
  · exact .inl (h ▸ hk)
  · rw [h] at hk; cases hk; exact .inr (Nat.le_refl _)
end Go.Proofs.Ybulkhba
