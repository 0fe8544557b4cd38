import Derived.Test.YbulkhbaAb
namespace Go.Proofs.Ybulkhba
open Go.Conc Go.RowKit
set_option linter.unusedVariables false
set_option linter.unusedSimpArgs false

/-- The line's requests, opened. -/
theorem own_parts {w : World} {nm : Nat → Fin 3} {v : Value} {n : Nat} (h : w.ownsRow 0 83 6 v n (reqCells nm n)) : ∃ qa qcap Bq, v = .slice qa n qcap ∧ n ≤ qcap ∧ (0 < n → qa = some ⟨Bq, 0, none⟩ ∧ ∃ cs, Row w Bq 83 cs ∧ ∀ i, i < n → ∀ j, j < 6 → cs[i * 6 + j]? = (reqL nm i).vs[j]?) := by
  rcases h.2 with ⟨rfl, rfl⟩ | ⟨g, cap, cur, rfl, _, hg, hc, _, hs, ht⟩
  · exact ⟨none, 0, 0, rfl, Nat.le_refl _, by omega⟩
  · refine ⟨_, cap, g, rfl, hc, fun _ => ⟨rfl, cur, hg, fun i hi j hj => ?_⟩⟩
    rw [← reqCells_at nm hi hj, ← ht, List.getElem?_take, if_pos (by omega), Array.getElem?_toList]
/-- The constants of the run. -/
def mkC (z : Bk) (S Bb Brt : Nat) (qa : Option Addr) (qcap Bq : Nat) (RW LW : List Wt) : Cst :=
  { S := S, C := z.C, Qn := z.Q, Mw := z.Mw, Mq := z.Mq, Bb := Bb, bcap := 1, Bq := Bq, qa := qa, qcap := qcap, B := z.B, wl := z.wl, ex := z.ex, ex2 := z.ex + 5, sl := z.sl, lgv := .slice none 0 0
    wr := S :: z.C :: z.Q :: z.Mw :: z.Mq :: z.B :: Brt :: ((RW ++ LW).map Wt.b ++ (RW ++ LW).map Wt.c), RW := RW, LW := LW, nm := z.nm }
/-- All is laid: what passOver is called on. -/
structure Laid (w V1 V2 W : World) (z : Bk) (S Bb Brt Ra n : Nat) (RW LW : List Wt) (qv : Value) : Prop where
  bl : BL w V1 z LW qv
  rl : RL V1 V2 z.B Ra n RW
  hl : LW.length = z.n6
  hn : RW.length = n
  b2 : Below V2.heap.size V2 W
  nBrt : V2.heap.size ≤ Brt
  nBb : V2.heap.size ≤ Bb
  nS : V2.heap.size ≤ S
  rT : ∃ cs, Row W Brt 75 cs ∧ cs.size = n ∧ ∀ i (h : i < RW.length), cs[i]? = some (ptrTo RW[i].b)
  rBb : Row W Bb 33 #[ptrTo z.B]
  rS : Row W S 67 (srvRow 0 z.C z.Q z.Mw z.Mq (.slice (some ⟨Brt, 0, none⟩) n n) (.slice (some ⟨Bb, 0, none⟩) 1 1))
section
variable {w V1 V2 W : World} {z : Bk} {S Bb Brt Ra n : Nat} {RW LW : List Wt} {qv : Value}
theorem Laid.b1 (h : Laid w V1 V2 W z S Bb Brt Ra n RW LW qv) : Below V1.heap.size V1 W := h.rl.below.trans (h.b2.mono h.rl.below.size)
theorem Laid.bw (h : Laid w V1 V2 W z S Bb Brt Ra n RW LW qv) : BL w W z LW qv := h.bl.ext h.b1
theorem Laid.rws (h : Laid w V1 V2 W z S Bb Brt Ra n RW LW qv) (i : Nat) (hi : i < RW.length) : WtIs W z.B RW[i] false := (h.rl.ws i hi).only (S := []) (Only.ofBelow h.b2) (by simp) (by simp)
theorem Laid.ok (h : Laid w V1 V2 W z S Bb Brt Ra n RW LW qv) {qa : Option Addr} {qcap Bq : Nat} (hq : LW.length ≤ qcap) (h5 : n ≤ 1024) (h6 : z.n6 ≤ 1024) (w0 : 0 ≤ z.wl) (w1 : z.wl < 1000000000) (s0 : 0 ≤ z.sl) (s1 : z.sl ≤ 8) :
    CstOk W (mkC z S Bb Brt qa qcap Bq RW LW) := by
  have dis : ∀ (f : Wt → Nat), (∀ i (hi : i < LW.length), f LW[i] < V1.heap.size) → (∀ t ∈ RW, V1.heap.size ≤ f t) → (RW.map f).Nodup → (LW.map f).Nodup → ((RW ++ LW).map f).Nodup := by
    intro f h1 h2 n1 n2
    rw [List.map_append, List.nodup_append]
    refine ⟨n1, n2, ?_⟩
    intro a ha b hb e
    obtain ⟨s, hs, rfl⟩ := List.mem_map.1 ha
    obtain ⟨t, ht, rfl⟩ := List.mem_map.1 hb
    obtain ⟨i, hi, rfl⟩ := List.getElem_of_mem ht
    have := h1 i hi
    have := h2 s hs
    omega
  refine ⟨dis Wt.b (fun i hi => (h.bl.ws i hi).row.lt) (fun t ht => (h.rl.lo t ht).1) h.rl.nb h.bl.nb, dis Wt.c (fun i hi => (h.bl.ws i hi).clt) (fun t ht => (h.rl.lo t ht).2) h.rl.nc h.bl.nc, ?_, by simp [mkC], Nat.le_refl _, hq, ?_, ?_, w0, w1, ?_, s0, s1, h.bl.mm⟩
  · intro t ht
    have ht' : t ∈ RW ++ LW := ht
    have a1 := List.mem_map_of_mem (f := Wt.b) ht'
    have a2 := List.mem_map_of_mem (f := Wt.c) ht'
    constructor
    · simp only [mkC, List.mem_cons, List.mem_append]
      exact .inr (.inr (.inr (.inr (.inr (.inr (.inr (.inl a1)))))))
    · simp only [mkC, List.mem_cons, List.mem_append]
      exact .inr (.inr (.inr (.inr (.inr (.inr (.inr (.inr a2)))))))
  · show RW.length ≤ 1024
    rw [h.hn]; exact h5
  · show LW.length ≤ 1024
    rw [h.hl]; exact h6
  · show z.ex < z.ex + 5
    omega
theorem Laid.pre (h : Laid w V1 V2 W z S Bb Brt Ra n RW LW qv) {qa : Option Addr} {qcap Bq : Nat} (hqv : qv = .slice qa LW.length qcap) (hp : 0 < LW.length → qa = some ⟨Bq, 0, none⟩ ∧ ∃ cs, Row W Bq 83 cs ∧ ∀ i, i < LW.length → ∀ j, j < 6 → cs[i * 6 + j]? = (reqL z.nm i).vs[j]?) :
    DPre W (mkC z S Bb Brt qa qcap Bq RW LW) Brt n z.inf0 z.t0 z.wk z.tr := by
  have b := h.bw
  obtain ⟨cs, r, hs, hc⟩ := h.rT
  refine ⟨h.rS, b.rC, ?_, ⟨_, h.rBb, rfl⟩, b.rB, hp, b.mw, b.mq, fun i hi => h.rws i hi, fun i hi => b.ws i hi, cs, r, hs, by simp, ?_⟩
  · have := b.rQ
    rw [hqv] at this
    exact this
  · intro j _ hj
    have hj' : j < RW.length := by rw [h.hn]; exact hj
    rw [hc j hj']
    show _ = (RW[j]?).map _
    rw [List.getElem?_eq_getElem hj']
    rfl
theorem Laid.wr (h : Laid w V1 V2 W z S Bb Brt Ra n RW LW qv) {j : Nat} (hj : j ∈ S :: z.C :: z.Q :: z.Mw :: z.Mq :: z.B :: Brt :: ((RW ++ LW).map Wt.b ++ (RW ++ LW).map Wt.c)) :
    j < W.heap.size ∧ w.heap.size ≤ j ∧ ∀ ty cs, Row W j ty cs → ty = 67 ∨ ty = 43 ∨ ty = 48 ∨ ty = 39 ∨ j = Brt ∨ ty = 80 := by
  have b := h.bw
  obtain ⟨nq, hq⟩ := b.mq
  obtain ⟨l1, l2, l3, l4, l5, l6, l7, l8⟩ := b.los
  obtain ⟨ct, rt, _⟩ := h.rT
  have s1 := h.bl.below.size
  have s2 := h.rl.below.size
  have hB := h.nBrt
  have hS := h.nS
  have ty1 : ∀ {ty ty' : TypeId} {cs cs' : Array Value} {k : Nat}, Row W k ty cs → Row W k ty' cs' → ty' = ty := by
    intro ty ty' cs cs' k r r'
    by_cases e : ty' = ty
    · exact e
    · exact absurd rfl (r'.ne r e)
  have wtl : ∀ t ∈ RW ++ LW, WtIs W z.B t false ∧ w.heap.size ≤ t.b ∧ w.heap.size ≤ t.c := by
    intro t ht
    rcases List.mem_append.1 ht with g | g
    · have := h.rl.lo t g
      obtain ⟨i, hi, rfl⟩ := List.getElem_of_mem g
      exact ⟨h.rws i hi, by omega, by omega⟩
    · have := b.lo t g
      obtain ⟨i, hi, rfl⟩ := List.getElem_of_mem g
      exact ⟨b.ws i hi, this.1, this.2⟩
  rcases List.mem_cons.1 hj with e | hj
  · subst e; exact ⟨h.rS.lt, by omega, fun ty cs r => .inl (ty1 h.rS r)⟩
  rcases List.mem_cons.1 hj with e | hj
  · subst e; exact ⟨b.rC.lt, by omega, fun ty cs r => .inr (.inl (ty1 b.rC r))⟩
  rcases List.mem_cons.1 hj with e | hj
  · subst e; exact ⟨b.rQ.lt, by omega, fun ty cs r => .inr (.inr (.inl (ty1 b.rQ r)))⟩
  rcases List.mem_cons.1 hj with e | hj
  · subst e; exact ⟨b.mw.lt, by omega, fun ty cs r => absurd rfl (b.mw.ne r)⟩
  rcases List.mem_cons.1 hj with e | hj
  · subst e; exact ⟨hq.lt, by omega, fun ty cs r => absurd rfl (hq.ne r)⟩
  rcases List.mem_cons.1 hj with e | hj
  · subst e; exact ⟨b.rB.lt, by omega, fun ty cs r => .inr (.inr (.inr (.inl (ty1 b.rB r))))⟩
  rcases List.mem_cons.1 hj with e | hj
  · subst e; exact ⟨rt.lt, by omega, fun ty cs r => .inr (.inr (.inr (.inr (.inl rfl))))⟩
  rcases List.mem_append.1 hj with hj | hj
  · obtain ⟨t, ht, rfl⟩ := List.mem_map.1 hj
    obtain ⟨hw, h1, h2⟩ := wtl t ht
    exact ⟨hw.row.lt, h1, fun ty cs r => .inr (.inr (.inr (.inr (.inr (ty1 hw.row r)))))⟩
  · obtain ⟨t, ht, rfl⟩ := List.mem_map.1 hj
    obtain ⟨hw, h1, h2⟩ := wtl t ht
    exact ⟨hw.clt, h2, fun ty cs r => absurd rfl (hw.cne r)⟩
end
/-- WHAT THE LAW FINDS behind passOver. a, b: how many of the retrying, of the line, it has looked at. -/
structure AF (w W : World) (c : Cst) (Bt N La Ra Brt n k kp : Nat) (inf try_ : Int) (wk : Bool) (rg lg : Nat → Bool) (a b : Nat) : Prop where
  below : Below w.heap.size w W
  t0 : Row W Bt 29 (tmV c.wl c.ex)
  rN : Row W N 74 namesRow
  la : ∃ cs, Row W La 75 cs ∧ ∀ i (h : i < c.LW.length), cs[i]? = some (ptrTo c.LW[i].b)
  ra : ∃ cs, Row W Ra 75 cs ∧ ∀ i (h : i < c.RW.length), cs[i]? = some (ptrTo c.RW[i].b)
  rB : Row W c.B 39 (bkRow c.sl inf try_ c.wl c.ex2 true 2)
  rC : Row W c.C 43 (clkRow c.wl c.ex c.lgv)
  log : (wk = true ∧ c.lgv = .slice none 0 0) ∨ (wk = false ∧ LogIs W c.lgv 5000000000)
  rS : Row W c.S 67 (srvRow 0 c.C c.Qn c.Mw c.Mq (.slice (some ⟨Brt, 0, none⟩) kp n) (.slice (some ⟨c.Bb, 0, none⟩) 1 c.bcap))
  fin : RFin W Brt n c.RW kp
  rQ : Row W c.Qn 48 #[.slice c.qa c.LW.length c.qcap, .int .i64 k]
  mw : MapF kvI vvP W c.Mw (c.fw k) (c.LW.length - k)
  mq : ∃ n, MapF kvS vvI W c.Mq (c.fq k) n
  rws : ∀ i (h : i < c.RW.length), a ≤ i → WtIs W c.B c.RW[i] (rg i)
  lws : ∀ i (h : i < c.LW.length), b ≤ i → WtIs W c.B c.LW[i] (lg i)
  lo : ∀ t ∈ c.RW ++ c.LW, w.heap.size ≤ t.c
  nc : ((c.RW ++ c.LW).map Wt.c).Nodup
section
variable {w W W' : World} {c : Cst} {Bt N La Ra Brt n k kp : Nat} {inf try_ : Int} {wk : Bool} {rg lg : Nat → Bool} {a b : Nat}
theorem AF.frame {S : List Nat} (h : AF w W c Bt N La Ra Brt n k kp inf try_ wk rg lg a b) (ho : Only S W W') (hlo : ∀ j ∈ S, w.heap.size ≤ j) (key : ∀ {b : Nat} {ty : TypeId} {cs : Array Value}, ty ≠ 85 → Row W b ty cs → b ∉ S) (hMw : c.Mw ∉ S) (hMq : c.Mq ∉ S)
    {a' b' : Nat} (ha : a ≤ a') (hb : b ≤ b') (hR : ∀ i (hi : i < c.RW.length), a' ≤ i → c.RW[i].c ∉ S) (hL : ∀ i (hi : i < c.LW.length), b' ≤ i → c.LW[i].c ∉ S) : AF w W' c Bt N La Ra Brt n k kp inf try_ wk rg lg a' b' := by
  obtain ⟨c1, r1, e1⟩ := h.la
  obtain ⟨c2, r2, e2⟩ := h.ra
  obtain ⟨c3, r3, e3⟩ := h.fin
  obtain ⟨nq, hq⟩ := h.mq
  refine ⟨h.below.trans (ho.below h.below.size hlo), h.t0.only ho (key (by decide) h.t0), h.rN.only ho (key (by decide) h.rN), ⟨c1, r1.only ho (key (by decide) r1), e1⟩, ⟨c2, r2.only ho (key (by decide) r2), e2⟩, h.rB.only ho (key (by decide) h.rB), h.rC.only ho (key (by decide) h.rC), ?_, h.rS.only ho (key (by decide) h.rS), ⟨c3, r3.only ho (key (by decide) r3), e3⟩, h.rQ.only ho (key (by decide) h.rQ), h.mw.only ho hMw, ⟨nq, hq.only ho hMq⟩, ?_, ?_, h.lo, h.nc⟩
  · rcases h.log with e | ⟨e, hl⟩
    · exact .inl e
    · exact .inr ⟨e, hl.only ho (fun k hk cs r => key (by decide) r hk)⟩
  · intro i hi hai
    exact (h.rws i hi (by omega)).only ho (key (by decide) (h.rws i hi (by omega)).row) (hR i hi hai)
  · intro i hi hbi
    exact (h.lws i hi (by omega)).only ho (key (by decide) (h.lws i hi (by omega)).row) (hL i hi hbi)
theorem AF.ext (h : AF w W c Bt N La Ra Brt n k kp inf try_ wk rg lg a b) (hb : Below W.heap.size W W') : AF w W' c Bt N La Ra Brt n k kp inf try_ wk rg lg a b :=
  h.frame (S := []) (Only.ofBelow hb) (by simp) (by simp) (by simp) (by simp) (Nat.le_refl _) (Nat.le_refl _) (by simp) (by simp)
/-- The array of the counts is written. -/
theorem AF.offE {E : Nat} {cE : Array Value} (h : AF w W c Bt N La Ra Brt n k kp inf try_ wk rg lg a b) (rE : Row W E 85 cE) (hE : w.heap.size ≤ E) (ho : Only [E] W W') : AF w W' c Bt N La Ra Brt n k kp inf try_ wk rg lg a b := by
  obtain ⟨nq, hq⟩ := h.mq
  exact h.frame ho (by simpa using hE) (fun ht r => by simpa using r.ne rE ht) (by simpa using h.mw.ne rE) (by simpa using hq.ne rE) (Nat.le_refl _) (Nat.le_refl _) (fun i hi hai => by simpa using (h.rws i hi hai).cne rE) (fun i hi hbi => by simpa using (h.lws i hi hbi).cne rE)
/-- One of the retrying was looked at. -/
theorem AF.heldR (h : AF w W c Bt N La Ra Brt n k kp inf try_ wk rg lg a b) (ha : a < c.RW.length) (ho : Only [c.RW[a].c] W W') : AF w W' c Bt N La Ra Brt n k kp inf try_ wk rg lg (a + 1) b := by
  have hw := h.rws a ha (Nat.le_refl _)
  obtain ⟨nq, hq⟩ := h.mq
  have nc := h.nc
  rw [List.map_append] at nc
  refine h.frame ho (by simpa using h.lo c.RW[a] (by simp)) (fun _ r => by simpa using (hw.cne r).symm) (by simpa using (hw.notMapI h.mw).symm) (by simpa using (hw.notMapI hq).symm) (by omega) (Nat.le_refl _) ?_ ?_
  · intro i hi hai
    simp only [List.mem_singleton]
    intro e
    have := nodup_at (f := Wt.c) (List.nodup_append.1 nc).1 hi ha e
    omega
  · intro i hi _
    simp only [List.mem_singleton]
    intro e
    exact (List.nodup_append.1 nc).2.2 c.RW[a].c (List.mem_map_of_mem (List.getElem_mem _)) c.LW[i].c (List.mem_map_of_mem (List.getElem_mem _)) e.symm
/-- One of the line was looked at. -/
theorem AF.heldL (h : AF w W c Bt N La Ra Brt n k kp inf try_ wk rg lg a b) (hb : b < c.LW.length) (ho : Only [c.LW[b].c] W W') : AF w W' c Bt N La Ra Brt n k kp inf try_ wk rg lg a (b + 1) := by
  have hw := h.lws b hb (Nat.le_refl _)
  obtain ⟨nq, hq⟩ := h.mq
  have nc := h.nc
  rw [List.map_append] at nc
  refine h.frame ho (by simpa using h.lo c.LW[b] (by simp)) (fun _ r => by simpa using (hw.cne r).symm) (by simpa using (hw.notMapI h.mw).symm) (by simpa using (hw.notMapI hq).symm) (Nat.le_refl _) (by omega) ?_ ?_
  · intro i hi _
    simp only [List.mem_singleton]
    intro e
    exact (List.nodup_append.1 nc).2.2 c.RW[i].c (List.mem_map_of_mem (List.getElem_mem _)) c.LW[b].c (List.mem_map_of_mem (List.getElem_mem _)) e
  · intro i hi hbi
    simp only [List.mem_singleton]
    intro e
    have := nodup_at (f := Wt.c) (List.nodup_append.1 nc).2.1 hi hb e
    omega
end
/-- passOver has returned. -/
theorem Laid.passed {w V1 V2 W W' : World} {z : Bk} {S Bb Brt Ra n : Nat} {RW LW : List Wt} {qv : Value} {qa : Option Addr} {qcap Bq : Nat} {lg : Value} {k : Nat} (h : Laid w V1 V2 W z S Bb Brt Ra n RW LW qv) (ok : CstOk W (mkC z S Bb Brt qa qcap Bq RW LW))
    (hl : (z.wk = true ∧ lg = .slice none 0 0) ∨ (z.wk = false ∧ LogIs W' lg 5000000000)) (hp : DPost W W' ((mkC z S Bb Brt qa qcap Bq RW LW).log lg) Brt n z.inf0 z.t0 k) (c : Cst) (hc : c = (mkC z S Bb Brt qa qcap Bq RW LW).log lg) :
    AF w W' c z.Bt z.N z.La Ra Brt n k (keptAt c.sl z.inf0 c.rl n) (infAt c.sl (infAt c.sl z.inf0 c.rl n) c.llf k) (z.t0 + (infAt c.sl (infAt c.sl z.inf0 c.rl n) c.llf k - z.inf0)) z.wk (gvAt c.sl z.inf0 c.rl n) (gvAt c.sl (infAt c.sl z.inf0 c.rl n) c.llf k) 0 0 := by
  have b := h.bw
  have d := hp.ds
  have hfin := hp.fin
  rw [← hc] at d hfin
  have ho : Only (S :: z.C :: z.Q :: z.Mw :: z.Mq :: z.B :: Brt :: ((RW ++ LW).map Wt.b ++ (RW ++ LW).map Wt.c)) W W' := hp.ds.only
  have key : ∀ {b : Nat} {ty : TypeId} {cs : Array Value}, Row W b ty cs → ty ≠ 67 → ty ≠ 43 → ty ≠ 48 → ty ≠ 39 → ty ≠ 80 → b ≠ Brt → b ∉ (S :: z.C :: z.Q :: z.Mw :: z.Mq :: z.B :: Brt :: ((RW ++ LW).map Wt.b ++ (RW ++ LW).map Wt.c)) := by
    intro b ty cs r h1 h2 h3 h4 h5 h6 hm
    rcases (h.wr hm).2.2 ty cs r with e | e | e | e | e | e
    · exact h1 e
    · exact h2 e
    · exact h3 e
    · exact h4 e
    · exact h6 e
    · exact h5 e
  obtain ⟨ct, rt, _⟩ := h.rT
  obtain ⟨cl, rl, _, el⟩ := b.la
  obtain ⟨cr, rr, _, er⟩ := h.rl.ra
  have rr' : Row W Ra 75 cr := rr.only (S := []) (Only.ofBelow h.b2) (by simp)
  have n1 : z.La ≠ Brt := by
    obtain ⟨cl', rl', _⟩ := h.bl.la
    have := rl'.lt
    have := h.rl.below.size
    have := h.nBrt
    omega
  have n2 : Ra ≠ Brt := by
    have := rr.lt
    have := h.nBrt
    omega
  have e1 : c.wl = z.wl := by rw [hc]; rfl
  have e2 : c.ex = z.ex := by rw [hc]; rfl
  have hbel : Below w.heap.size w W' := b.below.trans (ho.below b.below.size (fun j hj => (h.wr hj).2.1))
  have eR : c.RW = RW := by rw [hc]; rfl
  have eL : c.LW = LW := by rw [hc]; rfl
  have eg : c.lgv = lg := by rw [hc]; rfl
  refine ⟨hbel, ?_, b.rN.only ho (key b.rN (by decide) (by decide) (by decide) (by decide) (by decide) (b.rN.ne rt (by decide))), ⟨cl, rl.only ho (key rl (by decide) (by decide) (by decide) (by decide) (by decide) n1), ?_⟩, ⟨cr, rr'.only ho (key rr' (by decide) (by decide) (by decide) (by decide) (by decide) n2), ?_⟩, d.rB, d.rC, ?_, d.rS, hfin, d.rQ, d.mw, d.mq, fun i hi _ => d.rws i hi, fun i hi _ => d.lws i hi, ?_, ?_⟩
  · rw [e1, e2]
    exact b.t0.only ho (key b.t0 (by decide) (by decide) (by decide) (by decide) (by decide) (b.t0.ne rt (by decide)))
  · intro i hi
    have hi' : i < LW.length := by rw [← eL]; exact hi
    rw [el i hi']
    simp only [eL]
  · intro i hi
    have hi' : i < RW.length := by rw [← eR]; exact hi
    rw [er i hi']
    simp only [eR]
  · rw [eg]; exact hl
  · rw [eR, eL]
    intro t ht
    exact (h.wr (j := t.c) (by
      have a2 := List.mem_map_of_mem (f := Wt.c) ht
      simp only [List.mem_cons, List.mem_append]
      exact .inr (.inr (.inr (.inr (.inr (.inr (.inr (.inr a2))))))))).2.1
  · rw [eR, eL]; exact ok.nc
end Go.Proofs.Ybulkhba
