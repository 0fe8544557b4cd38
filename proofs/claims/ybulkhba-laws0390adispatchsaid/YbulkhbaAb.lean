import Derived.Test.YbulkhbaPg
import Derived.Test.YbulkhbaPlain2
import Derived.Conc.SmallLaws
namespace Go.Proofs.Ybulkhba
open Go.Conc Go.RowKit
set_option linter.unusedVariables false
set_option linter.unusedSimpArgs false

theorem cntF_snoc (nm : Nat → Fin 3) (x : Fin 3) : ∀ d k, cntF nm x (d + 1) k = cntF nm x d k + (if nm (k + d) = x then 1 else 0)
  | 0, k => by simp [cntF]
  | d + 1, k => by
    rw [show cntF nm x (d + 1 + 1) k = (if nm k = x then 1 else 0) + cntF nm x (d + 1) (k + 1) from rfl, cntF_snoc nm x d (k + 1), show cntF nm x (d + 1) k = (if nm k = x then 1 else 0) + cntF nm x d (k + 1) from rfl, show k + 1 + d = k + (d + 1) by omega]
    omega
abbrev ptrTo (b : Nat) : Value := .pointer (some ⟨b, 0, none⟩)
def fwL (LW : List Wt) (a : Int) : Option Nat := if 0 ≤ a ∧ a < LW.length then (LW[a.toNat]?).map Wt.b else none
theorem fwL_snoc (LW : List Wt) (t : Wt) : (fun x => if x = (LW.length : Int) then some t.b else fwL LW x) = fwL (LW ++ [t]) := by
  funext x
  unfold fwL
  by_cases e : x = (LW.length : Int)
  · subst e
    simp
    omega
  · rw [if_neg e]
    by_cases h : 0 ≤ x ∧ x < LW.length
    · rw [if_pos h, if_pos ⟨h.1, by simp; omega⟩, List.getElem?_append_left (by omega)]
    · rw [if_neg h, if_neg (by simp; omega)]
theorem fwL_new (LW : List Wt) : fwL LW (LW.length : Int) = none := by simp [fwL]
def reqL (nm : Nat → Fin 3) (i : Nat) : Req := ⟨i, nameB (nm i).val, 0, 0, 0, false⟩
def reqCells (nm : Nat → Fin 3) : Nat → List Value
  | 0 => []
  | j + 1 => reqCells nm j ++ (reqL nm j).vs.toList
theorem reqCells_len (nm : Nat → Fin 3) : ∀ j, (reqCells nm j).length = j * 6
  | 0 => rfl
  | j + 1 => by
    unfold reqCells
    rw [List.length_append, reqCells_len nm j]
    simp
    omega
theorem reqCells_at (nm : Nat → Fin 3) : ∀ {j i c : Nat}, i < j → c < 6 → (reqCells nm j)[i * 6 + c]? = (reqL nm i).vs[c]?
  | 0, i, c, h, _ => by omega
  | j + 1, i, c, h, hc => by
    unfold reqCells
    have hl := reqCells_len nm j
    by_cases e : i = j
    · subst e
      rw [List.getElem?_append_right (by omega), hl, Nat.add_sub_cancel_left, Array.getElem?_toList]
    · rw [List.getElem?_append_left (by omega)]
      exact reqCells_at nm (by omega) hc

/-- What the line's build does not turn. -/
structure Bk where
  Bt : Nat
  B : Nat
  C : Nat
  N : Nat
  Q : Nat
  Mw : Nat
  Mq : Nat
  La : Nat
  n6 : Nat
  wl : Int
  ex : Int
  sl : Int
  inf0 : Int
  t0 : Int
  wk : Bool
  tr : Int
  nm : Nat → Fin 3
abbrev namesRow : Array Value := #[.string (nameB 0), .string (nameB 1), .string (nameB 2)]
/-- THE LINE, as far as it is built. -/
structure BL (w W : World) (z : Bk) (LW : List Wt) (qv : Value) : Prop where
  below : Below w.heap.size w W
  t0 : Row W z.Bt 29 (tmV z.wl z.ex)
  rB : Row W z.B 39 (bkRow z.sl z.inf0 z.t0 z.wl z.ex z.wk z.tr)
  rC : Row W z.C 43 (clkRow z.wl z.ex (.slice none 0 0))
  rN : Row W z.N 74 namesRow
  rQ : Row W z.Q 48 #[qv, .int .i64 0]
  ow : W.ownsRow 0 83 6 qv LW.length (reqCells z.nm LW.length)
  mw : MapF kvI vvP W z.Mw (fwL LW) LW.length
  mq : ∃ n, MapF kvS vvI W z.Mq (fun x => optI (cntF z.nm x LW.length 0)) n
  mm : z.Mw ≠ z.Mq
  la : ∃ cs, Row W z.La 75 cs ∧ cs.size = z.n6 ∧ ∀ i (h : i < LW.length), cs[i]? = some (ptrTo LW[i].b)
  ws : ∀ i (h : i < LW.length), WtIs W z.B LW[i] false
  nb : (LW.map Wt.b).Nodup
  nc : (LW.map Wt.c).Nodup
  lo : ∀ t ∈ LW, w.heap.size ≤ t.b ∧ w.heap.size ≤ t.c
  los : w.heap.size ≤ z.Bt ∧ w.heap.size ≤ z.B ∧ w.heap.size ≤ z.C ∧ w.heap.size ≤ z.N ∧ w.heap.size ≤ z.Q ∧ w.heap.size ≤ z.Mw ∧ w.heap.size ≤ z.Mq ∧ w.heap.size ≤ z.La
  qlo : ∀ g, qv.ownBlock = some g → w.heap.size ≤ g
theorem own_row {w : World} {e : TypeId} {size n : Nat} {v : Value} {xs : List Value} (h : w.ownsRow 0 e size v n xs) {k : Nat} (hk : v.ownBlock = some k) : ∃ cs, Row w k e cs := by
  rcases h.2 with ⟨rfl, _⟩ | ⟨g, cap, cur, rfl, _, hg, _⟩
  · simp [Value.ownBlock] at hk
  · simp [Value.ownBlock] at hk
    subst hk
    exact ⟨cur, hg⟩
theorem mem_own {v : Value} {k : Nat} (h : k ∈ v.ownBlock.toList) : v.ownBlock = some k := by simpa using h
section
variable {w W W' : World} {z : Bk} {LW : List Wt} {qv qv' : Value}
theorem WtIs.notMapI {α β : Type} [DecidableEq α] {kv : α → Value} {vv : β → Value} {F : α → Option β} {n M B : Nat} {t : Wt} {g : Bool} {W : World} (h : WtIs W B t g) (hm : MapF kv vv W M F n) : t.c ≠ M := by
  intro e
  have h1 := h.ch
  obtain ⟨es, cl, _, h2, _⟩ := hm
  rw [e, h2] at h1
  simp [chanV] at h1
theorem BL.ext (h : BL w W z LW qv) (hb : Below W.heap.size W W') : BL w W' z LW qv := by
  have ho : Only [] W W' := Only.ofBelow hb
  obtain ⟨n, hq⟩ := h.mq
  obtain ⟨cs, r, hl⟩ := h.la
  exact ⟨h.below.trans (hb.mono h.below.size), h.t0.only ho (by simp), h.rB.only ho (by simp), h.rC.only ho (by simp), h.rN.only ho (by simp), h.rQ.only ho (by simp), owns_only h.ow ho (by simp), h.mw.only ho (by simp), ⟨n, hq.only ho (by simp)⟩, h.mm, ⟨cs, r.only ho (by simp), hl⟩, fun i hi => (h.ws i hi).only ho (by simp) (by simp), h.nb, h.nc, h.lo, h.los, h.qlo⟩
/-- One more waits. -/
theorem BL.next (h : BL w W z LW qv) {t : Wt} (ho : Only (z.La :: z.Mw :: z.Mq :: z.Q :: qv.ownBlock.toList) W W') (ht : WtIs W' z.B t false) (hb : W.heap.size ≤ t.b) (hc : W.heap.size ≤ t.c)
    (rQ : Row W' z.Q 48 #[qv', .int .i64 0]) (ow : W'.ownsRow 0 83 6 qv' (LW.length + 1) (reqCells z.nm (LW.length + 1))) (hq : ∀ k, qv'.ownBlock = some k → qv.ownBlock = some k ∨ W.heap.size ≤ k)
    (mw : MapF kvI vvP W' z.Mw (fwL (LW ++ [t])) (LW.length + 1)) (mq : ∃ n, MapF kvS vvI W' z.Mq (fun x => optI (cntF z.nm x (LW.length + 1) 0)) n)
    (la : ∃ cs, Row W' z.La 75 cs ∧ cs.size = z.n6 ∧ ∀ i (h : i < (LW ++ [t]).length), cs[i]? = some (ptrTo (LW ++ [t])[i].b)) : BL w W' z (LW ++ [t]) qv' := by
  obtain ⟨nq, hmq⟩ := h.mq
  obtain ⟨cs, r, hl⟩ := h.la
  have key : ∀ {b : Nat} {ty : TypeId} {cs : Array Value}, Row W b ty cs → ty ≠ 75 → ty ≠ 48 → ty ≠ 83 → b ∉ z.La :: z.Mw :: z.Mq :: z.Q :: qv.ownBlock.toList := by
    intro b ty cs' r' h1 h2 h3 hm
    rcases List.mem_cons.1 hm with e | hm
    · exact r'.ne r h1 e
    rcases List.mem_cons.1 hm with e | hm
    · exact h.mw.ne r' e.symm
    rcases List.mem_cons.1 hm with e | hm
    · exact hmq.ne r' e.symm
    rcases List.mem_cons.1 hm with e | hm
    · exact r'.ne h.rQ h2 e
    obtain ⟨cs2, r2⟩ := own_row h.ow (mem_own hm)
    exact absurd rfl (r'.ne r2 h3)
  have keyc : ∀ {s : Wt}, WtIs W z.B s false → s.c ∉ z.La :: z.Mw :: z.Mq :: z.Q :: qv.ownBlock.toList := by
    intro s hs hm
    rcases List.mem_cons.1 hm with e | hm
    · exact hs.cne r e
    rcases List.mem_cons.1 hm with e | hm
    · exact hs.notMapI h.mw e
    rcases List.mem_cons.1 hm with e | hm
    · exact hs.notMapI hmq e
    rcases List.mem_cons.1 hm with e | hm
    · exact hs.cne h.rQ e
    obtain ⟨cs2, r2⟩ := own_row h.ow (mem_own hm)
    exact hs.cne r2 rfl
  have hws : ∀ i (hi : i < (LW ++ [t]).length), WtIs W' z.B (LW ++ [t])[i] false := by
    intro i hi
    rw [List.length_append, List.length_singleton] at hi
    by_cases e : i < LW.length
    · rw [List.getElem_append_left e]
      exact (h.ws i e).only ho (key (h.ws i e).row (by decide) (by decide) (by decide)) (keyc (h.ws i e))
    · have e : i = LW.length := by omega
      subst e
      simp only [List.getElem_concat_length]
      exact ht
  have ho2 : Below w.heap.size w W' := by
    refine h.below.trans (ho.below h.below.size ?_)
    obtain ⟨l1, l2, l3, l4, l5, l6, l7, l8⟩ := h.los
    intro j hm
    rcases List.mem_cons.1 hm with e | hm
    · omega
    rcases List.mem_cons.1 hm with e | hm
    · omega
    rcases List.mem_cons.1 hm with e | hm
    · omega
    rcases List.mem_cons.1 hm with e | hm
    · omega
    exact h.qlo j (mem_own hm)
  have hsz := h.below.size
  refine ⟨ho2, h.t0.only ho (key h.t0 (by decide) (by decide) (by decide)), h.rB.only ho (key h.rB (by decide) (by decide) (by decide)), h.rC.only ho (key h.rC (by decide) (by decide) (by decide)), h.rN.only ho (key h.rN (by decide) (by decide) (by decide)), rQ, by simpa using ow, by simpa using mw, by simpa using mq, h.mm, la, hws, ?_, ?_, ?_, h.los, ?_⟩
  · rw [List.map_append, List.nodup_append]
    refine ⟨h.nb, by simp, ?_⟩
    intro a ha b' hb' e
    obtain ⟨s, hs, rfl⟩ := List.mem_map.1 ha
    simp at hb'
    obtain ⟨i, hi, rfl⟩ := List.getElem_of_mem hs
    have := (h.ws i hi).row.lt
    omega
  · rw [List.map_append, List.nodup_append]
    refine ⟨h.nc, by simp, ?_⟩
    intro a ha b' hb' e
    obtain ⟨s, hs, rfl⟩ := List.mem_map.1 ha
    simp at hb'
    obtain ⟨i, hi, rfl⟩ := List.getElem_of_mem hs
    have := (h.ws i hi).clt
    omega
  · intro s hs
    rcases List.mem_append.1 hs with hs | hs
    · exact h.lo s hs
    · rw [List.mem_singleton.1 hs]
      omega
  · intro g hg
    rcases hq g hg with e | e
    · exact h.qlo g e
    · omega
end
/-- THE RETRYING, as far as they are made. -/
structure RL (V W : World) (B Ra n : Nat) (RW : List Wt) : Prop where
  below : Below V.heap.size V W
  ra : ∃ cs, Row W Ra 75 cs ∧ cs.size = n ∧ ∀ i (h : i < RW.length), cs[i]? = some (ptrTo RW[i].b)
  ws : ∀ i (h : i < RW.length), WtIs W B RW[i] false
  nb : (RW.map Wt.b).Nodup
  nc : (RW.map Wt.c).Nodup
  lo : ∀ t ∈ RW, V.heap.size ≤ t.b ∧ V.heap.size ≤ t.c
  los : V.heap.size ≤ Ra
theorem RL.next {V W W' : World} {B Ra n : Nat} {RW : List Wt} (h : RL V W B Ra n RW) {t : Wt} (ho : Only [Ra] W W') (ht : WtIs W' B t false) (hb : W.heap.size ≤ t.b) (hc : W.heap.size ≤ t.c)
    (ra : ∃ cs, Row W' Ra 75 cs ∧ cs.size = n ∧ ∀ i (h : i < (RW ++ [t]).length), cs[i]? = some (ptrTo (RW ++ [t])[i].b)) : RL V W' B Ra n (RW ++ [t]) := by
  obtain ⟨cs, r, hl⟩ := h.ra
  have hsz := h.below.size
  refine ⟨h.below.trans (ho.below h.below.size (by simpa using h.los)), ra, ?_, ?_, ?_, ?_, h.los⟩
  · intro i hi
    rw [List.length_append, List.length_singleton] at hi
    by_cases e : i < RW.length
    · rw [List.getElem_append_left e]
      exact (h.ws i e).only ho (by simpa using (h.ws i e).row.ne r (by decide)) (by simpa using (h.ws i e).cne r)
    · have e : i = RW.length := by omega
      subst e
      simp only [List.getElem_concat_length]
      exact ht
  · rw [List.map_append, List.nodup_append]
    refine ⟨h.nb, by simp, ?_⟩
    intro a ha b' hb' e
    obtain ⟨s, hs, rfl⟩ := List.mem_map.1 ha
    simp at hb'
    obtain ⟨i, hi, rfl⟩ := List.getElem_of_mem hs
    have := (h.ws i hi).row.lt
    omega
  · rw [List.map_append, List.nodup_append]
    refine ⟨h.nc, by simp, ?_⟩
    intro a ha b' hb' e
    obtain ⟨s, hs, rfl⟩ := List.mem_map.1 ha
    simp at hb'
    obtain ⟨i, hi, rfl⟩ := List.getElem_of_mem hs
    have := (h.ws i hi).clt
    omega
  · intro s hs
    rcases List.mem_append.1 hs with hs | hs
    · exact h.lo s hs
    · rw [List.mem_singleton.1 hs]
      omega
end Go.Proofs.Ybulkhba
