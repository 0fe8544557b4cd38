import Derived.Test.YbulkhbaWt
import Derived.Test.YbulkhbaMapG
import Derived.Test.YbulkhbaNx3
import Derived.Test.YbulkhbaClr
namespace Go.Proofs.Ybulkhba
open Go.Conc Go.RowKit
set_option linter.unusedVariables false
set_option linter.unusedSimpArgs false

/-- How many of the d requests from k on are of tenant x. -/
def cntF (nm : Nat → Fin 3) (x : Fin 3) : Nat → Nat → Nat
  | 0, _ => 0
  | d + 1, k => (if nm k = x then 1 else 0) + cntF nm x d (k + 1)
def optI (n : Nat) : Option Int := if n = 0 then none else some (n : Int)
/-- What does not turn while the requests that wait are served. -/
structure Cst where
  S : Nat
  C : Nat
  Qn : Nat
  Mw : Nat
  Mq : Nat
  Bb : Nat
  bcap : Nat
  Bq : Nat
  qa : Option Addr
  qcap : Nat
  B : Nat
  wl : Int
  ex : Int
  ex2 : Int
  sl : Int
  lgv : Value
  wr : List Nat
  RW : List Wt
  LW : List Wt
  nm : Nat → Fin 3
def Cst.reqOf (c : Cst) (i : Nat) : Req := ⟨i, nameB (c.nm i).val, 0, 0, 0, false⟩
def Cst.fw (c : Cst) (k : Nat) (a : Int) : Option Nat := if (k : Int) ≤ a ∧ a < c.LW.length then (c.LW[a.toNat]?).map Wt.b else none
def Cst.fq (c : Cst) (k : Nat) (x : Fin 3) : Option Int := optI (cntF c.nm x (c.LW.length - k) k)
/-- THE SERVER, ITS ONE BACKEND DOWN, AND ALL THAT WAITS. -/
structure DS (w0 W : World) (c : Cst) (mu : Int) (retr : Value) (inf try_ : Int) (k : Nat) (Fw : Int → Option Nat) (nw : Nat) (Fq : Fin 3 → Option Int) (rg lg : Nat → Bool) : Prop where
  only : Only c.wr w0 W
  rS : Row W c.S 67 (srvRow mu c.C c.Qn c.Mw c.Mq retr (.slice (some ⟨c.Bb, 0, none⟩) 1 c.bcap))
  rC : Row W c.C 43 (clkRow c.wl c.ex c.lgv)
  rQ : Row W c.Qn 48 #[.slice c.qa c.LW.length c.qcap, .int .i64 k]
  rb : ∃ cs, Row W c.Bb 33 cs ∧ cs[0]? = some (.pointer (some ⟨c.B, 0, none⟩))
  rB : Row W c.B 39 (bkRow c.sl inf try_ c.wl c.ex2 true 2)
  rq : 0 < c.LW.length → c.qa = some ⟨c.Bq, 0, none⟩ ∧ ∃ cs, Row W c.Bq 83 cs ∧ ∀ i, i < c.LW.length → ∀ j, j < 6 → cs[i * 6 + j]? = (c.reqOf i).vs[j]?
  mw : MapF kvI vvP W c.Mw Fw nw
  mq : ∃ n, MapF kvS vvI W c.Mq Fq n
  rws : ∀ i (h : i < c.RW.length), WtIs W c.B c.RW[i] (rg i)
  lws : ∀ i (h : i < c.LW.length), WtIs W c.B c.LW[i] (lg i)
/-- What holds of them from the start. -/
structure CstOk (w0 : World) (c : Cst) : Prop where
  nb : ((c.RW ++ c.LW).map Wt.b).Nodup
  nc : ((c.RW ++ c.LW).map Wt.c).Nodup
  lo : ∀ t ∈ c.RW ++ c.LW, t.b ∈ c.wr ∧ t.c ∈ c.wr
  los : c.S ∈ c.wr ∧ c.C ∈ c.wr ∧ c.Qn ∈ c.wr ∧ c.Mw ∈ c.wr ∧ c.Mq ∈ c.wr ∧ c.B ∈ c.wr
  hcap : 1 ≤ c.bcap
  qcap : c.LW.length ≤ c.qcap
  lr : c.RW.length ≤ 1024
  ll : c.LW.length ≤ 1024
  w0' : 0 ≤ c.wl
  w1' : c.wl < 1000000000
  hx : c.ex < c.ex2
  s0 : 0 ≤ c.sl
  s1 : c.sl ≤ 8
  mm : c.Mw ≠ c.Mq
section
variable {w0 W W' : World} {c : Cst} {mu : Int} {retr : Value} {inf try_ : Int} {k nw : Nat} {Fw : Int → Option Nat} {Fq : Fin 3 → Option Int} {rg lg : Nat → Bool}
/-- The frame: what S does not name stands. -/
theorem DS.frame {S : List Nat} (h : DS w0 W c mu retr inf try_ k Fw nw Fq rg lg) (ho : Only S W W') (hlo : ∀ j ∈ S, j ∈ c.wr)
    (key : ∀ {b : Nat} {ty : TypeId} {cs : Array Value}, (ty = 67 ∨ ty = 43 ∨ ty = 48 ∨ ty = 33 ∨ ty = 39 ∨ ty = 83 ∨ ty = 80) → Row W b ty cs → b ∉ S) (hMw : c.Mw ∉ S) (hMq : c.Mq ∉ S) (hch : ∀ t ∈ c.RW ++ c.LW, t.c ∉ S) : DS w0 W' c mu retr inf try_ k Fw nw Fq rg lg := by
  obtain ⟨cs, r1, r2⟩ := h.rb
  obtain ⟨n, hq⟩ := h.mq
  refine ⟨h.only.trans (ho.mono hlo), h.rS.only ho (key (by simp) h.rS), h.rC.only ho (key (by simp) h.rC), h.rQ.only ho (key (by simp) h.rQ), ⟨cs, r1.only ho (key (by simp) r1), r2⟩, h.rB.only ho (key (by simp) h.rB), fun hl => ?_, h.mw.only ho hMw, ⟨n, hq.only ho hMq⟩, fun i hi => (h.rws i hi).only ho (key (by simp) (h.rws i hi).row) (hch _ (by simp)), fun i hi => (h.lws i hi).only ho (key (by simp) (h.lws i hi).row) (hch _ (by simp))⟩
  obtain ⟨e, cs, r1, r2⟩ := h.rq hl
  exact ⟨e, cs, r1.only ho (key (by simp) r1), r2⟩
theorem DS.ext (h : DS w0 W c mu retr inf try_ k Fw nw Fq rg lg) (hb : Below W.heap.size W W') : DS w0 W' c mu retr inf try_ k Fw nw Fq rg lg :=
  h.frame (S := []) (Only.ofBelow hb) (by simp) (by simp) (by simp) (by simp) (by simp)
/-- A row of another type is written. -/
theorem DS.off {b : Nat} {cs : Array Value} {ty : TypeId} (h : DS w0 W c mu retr inf try_ k Fw nw Fq rg lg) (r : Row W b ty cs) (ht : ty ≠ 67 ∧ ty ≠ 43 ∧ ty ≠ 48 ∧ ty ≠ 33 ∧ ty ≠ 39 ∧ ty ≠ 83 ∧ ty ≠ 80) (hlo : b ∈ c.wr) (ho : Only [b] W W') : DS w0 W' c mu retr inf try_ k Fw nw Fq rg lg := by
  obtain ⟨n, hq⟩ := h.mq
  refine h.frame ho (by simpa using hlo) ?_ (by simpa using h.mw.ne r) (by simpa using hq.ne r) ?_
  · intro b' ty' cs' ht' r'
    have : ty' ≠ ty := by
      rintro rfl
      obtain ⟨h1, h2, h3, h4, h5, h6, h7⟩ := ht
      rcases ht' with e | e | e | e | e | e | e <;> first | exact h1 e | exact h2 e | exact h3 e | exact h4 e | exact h5 e | exact h6 e | exact h7 e
    simpa using r'.ne r this
  · intro t ht'
    simp only [List.mem_singleton]
    rcases List.mem_append.1 ht' with g | g
    · obtain ⟨i, hi, rfl⟩ := List.getElem_of_mem g
      exact (h.rws i hi).cne r
    · obtain ⟨i, hi, rfl⟩ := List.getElem_of_mem g
      exact (h.lws i hi).cne r
/-- A cell of the server is written. -/
theorem DS.setS (h : DS w0 W c mu retr inf try_ k Fw nw Fq rg lg) (ok : CstOk w0 c) (i : Nat) (v : Value) (mu' : Int) (retr' : Value)
    (hv : (srvRow mu c.C c.Qn c.Mw c.Mq retr (.slice (some ⟨c.Bb, 0, none⟩) 1 c.bcap)).setIfInBounds i v = srvRow mu' c.C c.Qn c.Mw c.Mq retr' (.slice (some ⟨c.Bb, 0, none⟩) 1 c.bcap)) :
    DS w0 (W.setCell ⟨c.S, i, none⟩ v) c mu' retr' inf try_ k Fw nw Fq rg lg := by
  have ho : Only [c.S] W (W.setCell ⟨c.S, i, none⟩ v) := (Only.refl _ _).setCell (by simp) _
  have key : ∀ {b : Nat} {ty : TypeId} {cs : Array Value}, Row W b ty cs → ty ≠ 67 → b ∉ [c.S] := fun r ht => by simpa using r.ne h.rS ht
  obtain ⟨cs, r1, r2⟩ := h.rb
  obtain ⟨n, hq⟩ := h.mq
  refine ⟨h.only.setCell (.inl ok.los.1) _, by rw [← hv]; exact h.rS.set i v, h.rC.only ho (key h.rC (by decide)), h.rQ.only ho (key h.rQ (by decide)), ⟨cs, r1.only ho (key r1 (by decide)), r2⟩, h.rB.only ho (key h.rB (by decide)), fun hl => ?_, h.mw.only ho (by simpa using h.mw.ne h.rS), ⟨n, hq.only ho (by simpa using hq.ne h.rS)⟩, fun i hi => (h.rws i hi).only ho (key (h.rws i hi).row (by decide)) (by simpa using (h.rws i hi).cne h.rS), fun i hi => (h.lws i hi).only ho (key (h.lws i hi).row (by decide)) (by simpa using (h.lws i hi).cne h.rS)⟩
  obtain ⟨e, cs, r1, r2⟩ := h.rq hl
  exact ⟨e, cs, r1.only ho (key r1 (by decide)), r2⟩
/-- A request of the line was taken. -/
theorem DS.popped (h : DS w0 W c mu retr inf try_ k Fw nw Fq rg lg) (ok : CstOk w0 c) (ho : Only [c.Qn] W W') (k' : Nat) (hr : Row W' c.Qn 48 #[.slice c.qa c.LW.length c.qcap, .int .i64 k']) : DS w0 W' c mu retr inf try_ k' Fw nw Fq rg lg := by
  have key : ∀ {b : Nat} {ty : TypeId} {cs : Array Value}, Row W b ty cs → ty ≠ 48 → b ∉ [c.Qn] := fun r ht => by simpa using r.ne h.rQ ht
  obtain ⟨cs, r1, r2⟩ := h.rb
  obtain ⟨n, hq⟩ := h.mq
  refine ⟨h.only.trans (ho.mono (by simpa using ok.los.2.2.1)), h.rS.only ho (key h.rS (by decide)), h.rC.only ho (key h.rC (by decide)), hr, ⟨cs, r1.only ho (key r1 (by decide)), r2⟩, h.rB.only ho (key h.rB (by decide)), fun hl => ?_, h.mw.only ho (by simpa using h.mw.ne h.rQ), ⟨n, hq.only ho (by simpa using hq.ne h.rQ)⟩, fun i hi => (h.rws i hi).only ho (key (h.rws i hi).row (by decide)) (by simpa using (h.rws i hi).cne h.rQ), fun i hi => (h.lws i hi).only ho (key (h.lws i hi).row (by decide)) (by simpa using (h.lws i hi).cne h.rQ)⟩
  obtain ⟨e, cs, r1, r2⟩ := h.rq hl
  exact ⟨e, cs, r1.only ho (key r1 (by decide)), r2⟩
theorem DS.chNotMap (h : DS w0 W c mu retr inf try_ k Fw nw Fq rg lg) : ∀ t ∈ c.RW ++ c.LW, t.c ≠ c.Mw ∧ t.c ≠ c.Mq := by
  obtain ⟨n, hq⟩ := h.mq
  have one : ∀ {t : Wt} {g : Bool}, WtIs W c.B t g → t.c ≠ c.Mw ∧ t.c ≠ c.Mq := by
    intro t g hw
    have h1 := hw.ch
    refine ⟨?_, ?_⟩
    · intro e
      obtain ⟨es, cl, _, h2, _⟩ := h.mw
      rw [e, h2] at h1
      simp [chanV] at h1
    · intro e
      obtain ⟨es, cl, _, h2, _⟩ := hq
      rw [e, h2] at h1
      simp [chanV] at h1
  intro t ht
  rcases List.mem_append.1 ht with g | g
  · obtain ⟨i, hi, rfl⟩ := List.getElem_of_mem g
    exact one (h.rws i hi)
  · obtain ⟨i, hi, rfl⟩ := List.getElem_of_mem g
    exact one (h.lws i hi)
/-- The map of the waiters turns. -/
theorem DS.wTurn {Fw' : Int → Option Nat} {nw' : Nat} (h : DS w0 W c mu retr inf try_ k Fw nw Fq rg lg) (ok : CstOk w0 c) (ho : Only [c.Mw] W W') (hm : MapF kvI vvP W' c.Mw Fw' nw') : DS w0 W' c mu retr inf try_ k Fw' nw' Fq rg lg := by
  have key : ∀ {b : Nat} {ty : TypeId} {cs : Array Value}, Row W b ty cs → b ∉ [c.Mw] := fun r => by simpa using (h.mw.ne r).symm
  obtain ⟨cs, r1, r2⟩ := h.rb
  obtain ⟨n, hq⟩ := h.mq
  refine ⟨h.only.trans (ho.mono (by simpa using ok.los.2.2.2.1)), h.rS.only ho (key h.rS), h.rC.only ho (key h.rC), h.rQ.only ho (key h.rQ), ⟨cs, r1.only ho (key r1), r2⟩, h.rB.only ho (key h.rB), fun hl => ?_, hm, ⟨n, hq.only ho (by simpa using ok.mm.symm)⟩, fun i hi => (h.rws i hi).only ho (key (h.rws i hi).row) (by simpa using (h.chNotMap _ (by simp)).1), fun i hi => (h.lws i hi).only ho (key (h.lws i hi).row) (by simpa using (h.chNotMap _ (by simp)).1)⟩
  obtain ⟨e, cs, r1, r2⟩ := h.rq hl
  exact ⟨e, cs, r1.only ho (key r1), r2⟩
/-- The map of the counts turns. -/
theorem DS.qTurn {Fq' : Fin 3 → Option Int} (h : DS w0 W c mu retr inf try_ k Fw nw Fq rg lg) (ok : CstOk w0 c) (ho : Only [c.Mq] W W') (hm : ∃ n, MapF kvS vvI W' c.Mq Fq' n) : DS w0 W' c mu retr inf try_ k Fw nw Fq' rg lg := by
  obtain ⟨cs, r1, r2⟩ := h.rb
  obtain ⟨n, hq⟩ := h.mq
  have key : ∀ {b : Nat} {ty : TypeId} {cs : Array Value}, Row W b ty cs → b ∉ [c.Mq] := fun r => by simpa using (hq.ne r).symm
  refine ⟨h.only.trans (ho.mono (by simpa using ok.los.2.2.2.2.1)), h.rS.only ho (key h.rS), h.rC.only ho (key h.rC), h.rQ.only ho (key h.rQ), ⟨cs, r1.only ho (key r1), r2⟩, h.rB.only ho (key h.rB), fun hl => ?_, h.mw.only ho (by simpa using ok.mm), hm, fun i hi => (h.rws i hi).only ho (key (h.rws i hi).row) (by simpa using (h.chNotMap _ (by simp)).2), fun i hi => (h.lws i hi).only ho (key (h.lws i hi).row) (by simpa using (h.chNotMap _ (by simp)).2)⟩
  obtain ⟨e, cs, r1, r2⟩ := h.rq hl
  exact ⟨e, cs, r1.only ho (key r1), r2⟩
/-- One of those that wait was given the backend, or dropped. t: it; the others are others. -/
theorem DS.gave {inf' tr' : Int} {rg' lg' : Nat → Bool} {t : Wt} (h : DS w0 W c mu retr inf try_ k Fw nw Fq rg lg) (ok : CstOk w0 c) (ht : t ∈ c.RW ++ c.LW) (hw : ∃ g, WtIs W c.B t g) (ho : Only [c.B, t.b, t.c] W W') (hB : Row W' c.B 39 (bkRow c.sl inf' tr' c.wl c.ex2 true 2))
    (hr : ∀ i (hi : i < c.RW.length), (c.RW[i].b = t.b → WtIs W' c.B c.RW[i] (rg' i)) ∧ (c.RW[i].b ≠ t.b → rg' i = rg i ∧ c.RW[i].c ≠ t.c))
    (hl : ∀ i (hi : i < c.LW.length), (c.LW[i].b = t.b → WtIs W' c.B c.LW[i] (lg' i)) ∧ (c.LW[i].b ≠ t.b → lg' i = lg i ∧ c.LW[i].c ≠ t.c)) : DS w0 W' c mu retr inf' tr' k Fw nw Fq rg' lg' := by
  obtain ⟨g, hw⟩ := hw
  obtain ⟨cs, r1, r2⟩ := h.rb
  obtain ⟨n, hq⟩ := h.mq
  have key : ∀ {b : Nat} {ty : TypeId} {cs : Array Value}, Row W b ty cs → ty ≠ 39 → ty ≠ 80 → b ∉ [c.B, t.b, t.c] := by
    intro b ty cs r h1 h2 hm
    simp only [List.mem_cons, List.not_mem_nil, or_false] at hm
    rcases hm with rfl | rfl | rfl
    · exact absurd rfl (r.ne h.rB h1)
    · exact absurd rfl (r.ne hw.row h2)
    · exact absurd rfl (hw.cne r)
  have lo := ok.lo t ht
  have hm := h.chNotMap t ht
  have wt : ∀ {s : Wt} {g' : Bool}, WtIs W c.B s g' → s.b ≠ t.b → s.c ≠ t.c → WtIs W' c.B s g' := by
    intro s g' hs h1 h2
    refine hs.only ho ?_ ?_
    · intro hm
      simp only [List.mem_cons, List.not_mem_nil, or_false] at hm
      rcases hm with e | e | e
      · exact absurd e (hs.row.ne h.rB (by decide))
      · exact h1 e
      · exact hw.cne hs.row e.symm
    · intro hm
      simp only [List.mem_cons, List.not_mem_nil, or_false] at hm
      rcases hm with e | e | e
      · exact hs.cne h.rB e
      · exact hs.cne hw.row e
      · exact h2 e
  refine ⟨h.only.trans (ho.mono ?_), h.rS.only ho (key h.rS (by decide) (by decide)), h.rC.only ho (key h.rC (by decide) (by decide)), h.rQ.only ho (key h.rQ (by decide) (by decide)), ⟨cs, r1.only ho (key r1 (by decide) (by decide)), r2⟩, hB, fun hl => ?_, h.mw.only ho ?_, ⟨n, hq.only ho ?_⟩, fun i hi => ?_, fun i hi => ?_⟩
  · intro j hj
    simp only [List.mem_cons, List.not_mem_nil, or_false] at hj
    rcases hj with rfl | rfl | rfl
    · exact ok.los.2.2.2.2.2
    · exact lo.1
    · exact lo.2
  · obtain ⟨e, cs, r1, r2⟩ := h.rq hl
    exact ⟨e, cs, r1.only ho (key r1 (by decide) (by decide)), r2⟩
  · intro hj
    simp only [List.mem_cons, List.not_mem_nil, or_false] at hj
    rcases hj with e | e | e
    · exact h.mw.ne h.rB e
    · exact h.mw.ne hw.row e
    · exact hm.1 e.symm
  · intro hj
    simp only [List.mem_cons, List.not_mem_nil, or_false] at hj
    rcases hj with e | e | e
    · exact hq.ne h.rB e
    · exact hq.ne hw.row e
    · exact hm.2 e.symm
  · by_cases e : c.RW[i].b = t.b
    · exact (hr i hi).1 e
    · obtain ⟨h1, h2⟩ := (hr i hi).2 e
      rw [h1]
      exact wt (h.rws i hi) e h2
  · by_cases e : c.LW[i].b = t.b
    · exact (hl i hi).1 e
    · obtain ⟨h1, h2⟩ := (hl i hi).2 e
      rw [h1]
      exact wt (h.lws i hi) e h2
end
end Go.Proofs.Ybulkhba
