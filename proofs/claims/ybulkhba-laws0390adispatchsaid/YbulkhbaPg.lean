import Derived.Test.YbulkhbaDp
import Derived.Test.YbulkhbaPO
namespace Go.Proofs.Ybulkhba
open Go.RowKit
open Go.MuLone
set_option linter.unusedVariables false
set_option linter.unusedSimpArgs false

theorem addW_five {wl : Int} (h0 : 0 ≤ wl) (h1 : wl < 1000000000) : addW wl 5000000000 = wl := by
  unfold addW
  rw [show (5000000000 : Int).tmod 1000000000 = 0 from rfl]
  rw [if_neg (by omega), if_neg (by omega)]
  omega
theorem addX_five {wl ex : Int} (h0 : 0 ≤ wl) (h1 : wl < 1000000000) (e0 : -100000000000 ≤ ex) (e1 : ex ≤ 100000000000) : addX wl ex 5000000000 = ex + 5 := by
  unfold addX
  rw [show (5000000000 : Int).tmod 1000000000 = 0 from rfl, show (5000000000 : Int).tdiv 1000000000 = 5 from rfl]
  rw [if_neg (by omega), if_neg (by omega)]
  unfold addE
  have h : wrap64 (ex + 5) = ex + 5 := by
    unfold wrap64
    omega
  rw [h]
  have h2 : decide (ex < ex + 5) = true := by simp; omega
  rw [h2]
  rfl
/-- The clock's log is known. -/
def Cst.log (c : Cst) (lg : Value) : Cst := { c with lgv := lg }
theorem CstOk.log {w0 w1 : World} {c : Cst} (ok : CstOk w0 c) (lg : Value) : CstOk w1 (c.log lg) :=
  ⟨ok.nb, ok.nc, ok.lo, ok.los, ok.hcap, ok.qcap, ok.lr, ok.ll, ok.w0', ok.w1', ok.hx, ok.s0, ok.s1, ok.mm⟩
/-- All that waits, the backend not yet marked. -/
structure DPre (W : World) (c : Cst) (Brt n : Nat) (inf0 t0 : Int) (wk : Bool) (tr : Int) : Prop where
  rS : Row W c.S 67 (srvRow 0 c.C c.Qn c.Mw c.Mq (.slice (some ⟨Brt, 0, none⟩) n n) (.slice (some ⟨c.Bb, 0, none⟩) 1 c.bcap))
  rC : Row W c.C 43 (clkRow c.wl c.ex (.slice none 0 0))
  rQ : Row W c.Qn 48 #[.slice c.qa c.LW.length c.qcap, .int .i64 ((0 : Nat) : Int)]
  rb : ∃ cs, Row W c.Bb 33 cs ∧ cs[0]? = some (.pointer (some ⟨c.B, 0, none⟩))
  rB : Row W c.B 39 (bkRow c.sl inf0 t0 c.wl c.ex wk tr)
  rq : 0 < c.LW.length → c.qa = some ⟨c.Bq, 0, none⟩ ∧ ∃ cs, Row W c.Bq 83 cs ∧ ∀ i, i < c.LW.length → ∀ j, j < 6 → cs[i * 6 + j]? = (c.reqOf i).vs[j]?
  mw : MapF kvI vvP W c.Mw (c.fw 0) c.LW.length
  mq : ∃ n, MapF kvS vvI W c.Mq (c.fq 0) n
  rws : ∀ i (h : i < c.RW.length), WtIs W c.B c.RW[i] false
  lws : ∀ i (h : i < c.LW.length), WtIs W c.B c.LW[i] false
  ra : RArr W Brt n c.RW 0 0
theorem DPre.marked {W W' : World} {c : Cst} {Brt n : Nat} {inf0 t0 : Int} {wk : Bool} {tr : Int} {lg : Value} (h : DPre W c Brt n inf0 t0 wk tr) (ho : Only [c.S, c.B, c.C] W W')
    (rS : Row W' c.S 67 (srvRow 1 c.C c.Qn c.Mw c.Mq (.slice (some ⟨Brt, 0, none⟩) n n) (.slice (some ⟨c.Bb, 0, none⟩) 1 c.bcap))) (rC : Row W' c.C 43 (clkRow c.wl c.ex lg)) (rB : Row W' c.B 39 (bkRow c.sl inf0 t0 c.wl c.ex2 true 2)) :
    DS W' W' (c.log lg) 1 (.slice (some ⟨Brt, 0, none⟩) n n) inf0 t0 0 ((c.log lg).fw 0) (c.log lg).LW.length ((c.log lg).fq 0) (fun _ => false) (fun _ => false) ∧ RArr W' Brt n (c.log lg).RW 0 0 := by
  have key : ∀ {b : Nat} {ty : TypeId} {cs : Array Value}, Row W b ty cs → ty ≠ 67 → ty ≠ 39 → ty ≠ 43 → b ∉ [c.S, c.B, c.C] := by
    intro b ty cs r h1 h2 h3 hm
    simp only [List.mem_cons, List.not_mem_nil, or_false] at hm
    rcases hm with e | e | e
    · exact r.ne h.rS h1 e
    · exact r.ne h.rB h2 e
    · exact r.ne h.rC h3 e
  have wt : ∀ {t : Wt}, WtIs W c.B t false → WtIs W' c.B t false := by
    intro t hw
    refine hw.only ho (key hw.row (by decide) (by decide) (by decide)) ?_
    intro hm
    simp only [List.mem_cons, List.not_mem_nil, or_false] at hm
    rcases hm with e | e | e
    · exact hw.cne h.rS e
    · exact hw.cne h.rB e
    · exact hw.cne h.rC e
  obtain ⟨cs, r1, r2⟩ := h.rb
  obtain ⟨nq, hq⟩ := h.mq
  obtain ⟨ca, ra, h2⟩ := h.ra
  refine ⟨⟨Only.refl _ _, rS, rC, h.rQ.only ho (key h.rQ (by decide) (by decide) (by decide)), ⟨cs, r1.only ho (key r1 (by decide) (by decide) (by decide)), r2⟩, rB, fun hl => ?_, h.mw.only ho ?_, ⟨nq, hq.only ho ?_⟩, fun i hi => wt (h.rws i hi), fun i hi => wt (h.lws i hi)⟩, ca, ra.only ho (key ra (by decide) (by decide) (by decide)), h2⟩
  · obtain ⟨e, cs, r1, r2⟩ := h.rq hl
    exact ⟨e, cs, r1.only ho (key r1 (by decide) (by decide) (by decide)), r2⟩
  · simp only [List.mem_cons, List.not_mem_nil, or_false, not_or]
    exact ⟨h.mw.ne h.rS, h.mw.ne h.rB, h.mw.ne h.rC⟩
  · simp only [List.mem_cons, List.not_mem_nil, or_false, not_or]
    exact ⟨hq.ne h.rS, hq.ne h.rB, hq.ne h.rC⟩
/-- What passOver leaves: lg: the log; k: how many of the line had their turn. -/
structure DPost (w W : World) (c : Cst) (Brt n : Nat) (inf0 t0 : Int) (k : Nat) : Prop where
  hk : k ≤ c.LW.length
  ds : DS w W c 0 (.slice (some ⟨Brt, 0, none⟩) (keptAt c.sl inf0 c.rl n) n) (infAt c.sl (infAt c.sl inf0 c.rl n) c.llf k) (t0 + (infAt c.sl (infAt c.sl inf0 c.rl n) c.llf k - inf0)) k (c.fw k) (c.LW.length - k) (c.fq k) (gvAt c.sl inf0 c.rl n) (gvAt c.sl (infAt c.sl inf0 c.rl n) c.llf k)
  all : ∀ j, j < k → infAt c.sl (infAt c.sl inf0 c.rl n) c.llf j < c.sl
  stop : k = c.LW.length ∨ ¬ infAt c.sl (infAt c.sl inf0 c.rl n) c.llf k < c.sl
  fin : RFin W Brt n c.RW (keptAt c.sl inf0 c.rl n)

set_option maxRecDepth 100000 in
set_option maxHeartbeats 1600000 in
/-- (*Server).passOver -/
theorem passOver_g (w : World) (c : Cst) (ok : CstOk w c) (Brt n : Nat) (inf0 t0 : Int) (wk : Bool) (tr : Int) (hp : DPre w c Brt n inf0 t0 wk tr) (hnl : n = c.RW.length) (hlo : Brt ∈ c.wr) (h31 : ∀ j ∈ c.wr, j < w.heap.size ∧ ∀ cs, ¬ Row w j 31 cs)
    (hx : addX c.wl c.ex 5000000000 = c.ex2) (hi0 : 0 ≤ inf0) (hi1 : inf0 ≤ 8) (ht0 : 0 ≤ t0) (ht1 : t0 ≤ 8) (r0 : 0 ≤ tr) (r1 : tr ≤ 2) :
    Calls Yba.prog 11 #[.pointer (some ⟨c.S, 0, none⟩), .pointer (some ⟨c.B, 0, none⟩)] w fun e w' => e = .returned (.tuple #[]) ∧ ∃ lg, ((wk = true ∧ lg = .slice none 0 0) ∨ (wk = false ∧ LogIs w' lg 5000000000)) ∧ ∃ k, DPost w w' (c.log lg) Brt n inf0 t0 k := by
  have f8 := hp.rS.frozen 8
  have c8 := hp.rS.cell 8
  simp at c8
  have lS := hp.rS.lt
  have HP := Hid.mk hp
  have HX := Hid.mk (And.intro (addW_five ok.w0' ok.w1') hx)
  have H31 := Hid.mk h31
  have HN := Hid.mk hnl
  clear hp hx h31 hnl
  go_enter_defers Yba.func11, Yba.ntmps11
  go_wp2_with (go_at_call 29; refine (lock_free Yba.muLib ⟨c.S, 8, none⟩ _ c8 f8).mono ?_; rintro e w' ⟨rfl, rfl⟩)
  have rS1 : Row (w.setCell ⟨c.S, 8, none⟩ (.int .i32 1)) c.S 67 (srvRow 1 c.C c.Qn c.Mw c.Mq (.slice (some ⟨Brt, 0, none⟩) n n) (.slice (some ⟨c.Bb, 0, none⟩) 1 c.bcap)) := by simpa using HP.out.rS.set 8 (.int .i32 1)
  have hC : c.C ≠ c.S := HP.out.rC.ne HP.out.rS (by decide)
  have hB : c.B ≠ c.S := HP.out.rB.ne HP.out.rS (by decide)
  refine (markDown_any c.S c.C c.Qn c.Mw c.Mq c.B 1 c.wl c.ex _ _ c.sl inf0 t0 c.wl c.ex wk tr _ rS1 (HP.out.rC.setOther hC _ _) (HP.out.rB.setOther hB _ _) ok.w0' ok.w1' r0 r1).mono ?_
  rintro e w1 ⟨rfl, lg, P3, P4, hM, hlg⟩
  rw [HX.out.1, HX.out.2] at hM
  have O1 : Hid (Only [c.S, c.B, c.C] w w1) := (((Only.refl [c.S, c.B, c.C] w).setCell (by simp) _).trans (hM.o.mono (by intro j hj; simp at hj ⊢; rcases hj with h | h <;> simp [h])))
  obtain ⟨d1, a1⟩ := HP.out.marked O1.out hM.rS hM.rC hM.rB
  have DG := Hid.mk (dispatch_g w1 w1 (c.log lg) (ok.log lg) Brt n inf0 t0 HN.out hlo d1 a1 hi0 hi1 ht0 ht1)
  have HM := Hid.mk hM
  have HL := Hid.mk hlg
  clear hM hlg rS1 d1 a1
  go_wp2_with fail
  refine DG.out.mono ?_
  rintro e w2 ⟨rfl, k, hk, hds, hall, hst, hfin⟩
  have hl2 : (wk = true ∧ lg = .slice none 0 0) ∨ (wk = false ∧ LogIs w2 lg 5000000000) := by
    rcases HL.out with h | ⟨h1, h2⟩
    · exact .inl h
    · refine .inr ⟨h1, h2.only hds.only ?_⟩
      intro j hj cs hr
      have hj' : j ∈ c.wr := hj
      by_cases e : j ∈ [c.S, c.B, c.C]
      · simp only [List.mem_cons, List.not_mem_nil, or_false] at e
        rcases e with rfl | rfl | rfl
        · exact absurd rfl (hr.ne HM.out.rS (by decide))
        · exact absurd rfl (hr.ne HM.out.rB (by decide))
        · exact absurd rfl (hr.ne HM.out.rC (by decide))
      · exact (H31.out j hj').2 cs ((O1.out.block j (H31.out j hj').1 e).symm.trans hr)
  have ho2 : Only c.wr w w2 := by
    have h1 : Only c.wr w w1 := O1.out.mono (by
      intro j hj
      simp only [List.mem_cons, List.not_mem_nil, or_false] at hj
      rcases hj with rfl | rfl | rfl
      · exact ok.los.1
      · exact ok.los.2.2.2.2.2
      · exact ok.los.2.1)
    exact h1.trans hds.only
  have R2 := Hid.mk (And.intro hl2 (And.intro hk (And.intro hds (And.intro hall (And.intro hst (And.intro hfin ho2))))))
  clear hl2 hk hds hall hst hfin ho2 HM HL O1 DG HP
  go_wp2_with fail
  refine leaves_cons (f := 30) (args := #[.pointer (some ⟨c.S, 8, none⟩)]) (by simp) (by simp [go_sem]) ?_
  refine (unlock_deferred Yba.muLib ⟨c.S, 8, none⟩ .returning _ ?_ ?_).mono ?_
  · have h9 := R2.out.2.2.1.rS.cell 8
    simp at h9
    exact h9
  · exact R2.out.2.2.1.rS.frozen 8
  rintro e u' w'' ⟨rfl, rfl, rfl⟩
  obtain ⟨hl, hk, hds, hall, hst, hfin, ho⟩ := R2.out
  have ho3 : Only [c.S] w2 (w2.setCell ⟨c.S, 8, none⟩ (.int .i32 0)) := (Only.refl _ _).setCell (by simp) _
  have d3 := hds.setS (ok.log lg) 8 (.int .i32 0) 0 _ rfl
  refine ⟨_, results_none rfl _ _ _, rfl, lg, ?_, k, hk, { d3 with only := ho.setCell (.inl ok.los.1) _ }, hall, ?_, ?_⟩
  · rcases hl with h | ⟨h1, h2⟩
    · exact .inl h
    · refine .inr ⟨h1, h2.only ho3 ?_⟩
      intro k hk cs hr
      rw [List.mem_singleton] at hk
      subst hk
      exact absurd rfl (hr.ne hds.rS (by decide))
  · rcases hst with h | h
    · exact .inl h
    · exact .inr (by omega)
  · obtain ⟨cs, r, h2, h3⟩ := hfin
    exact ⟨cs, r.setOther (r.ne hds.rS (by decide)) _ _, h2, h3⟩
end Go.Proofs.Ybulkhba
