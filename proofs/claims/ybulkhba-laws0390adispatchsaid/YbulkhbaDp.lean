import Derived.Test.YbulkhbaPr
import Derived.Test.YbulkhbaMD
import Derived.ArgAppend
namespace Go.Proofs.Ybulkhba
open Go.Conc Go.RowKit
set_option linter.unusedVariables false
set_option linter.unusedSimpArgs false

/-- The retrying's array: who is kept lies at its head; who has not had its turn lies where it lay. -/
def RArr (W : World) (Brt n : Nat) (RW : List Wt) (kp i : Nat) : Prop :=
  ∃ cs, Row W Brt 75 cs ∧ cs.size = n ∧ (∀ j, j < kp → cs[j]? = (RW[i - kp + j]?).map (fun t => Value.pointer (some ⟨t.b, 0, none⟩))) ∧ ∀ j, i ≤ j → j < n → cs[j]? = (RW[j]?).map (fun t => Value.pointer (some ⟨t.b, 0, none⟩))
theorem RArr.only {S : List Nat} {W W' : World} {Brt n : Nat} {RW : List Wt} {kp i : Nat} (h : RArr W Brt n RW kp i) (ho : Only S W W') (hb : Brt ∉ S) : RArr W' Brt n RW kp i := by
  obtain ⟨cs, r, h2⟩ := h
  exact ⟨cs, r.only ho hb, h2⟩
theorem RArr.next {W : World} {Brt n : Nat} {RW : List Wt} {i : Nat} (h : RArr W Brt n RW 0 i) : RArr W Brt n RW 0 (i + 1) := by
  obtain ⟨cs, r, h2, h3, h4⟩ := h
  exact ⟨cs, r, h2, by simp, fun j h1 hn => h4 j (by omega) hn⟩
theorem RArr.keep {W : World} {Brt n : Nat} {RW : List Wt} {kp i : Nat} (h : RArr W Brt n RW kp i) (hk : kp ≤ i) (hi : i < n) (hl : n = RW.length) : RArr (W.setCell ⟨Brt, kp, none⟩ (.pointer (some ⟨(RW[i]'(by omega)).b, 0, none⟩))) Brt n RW (kp + 1) (i + 1) := by
  obtain ⟨cs, r, h2, h3, h4⟩ := h
  refine ⟨_, r.set kp _, by simpa using h2, fun j hj => ?_, fun j h1 hn => ?_⟩
  · have e : i + 1 - (kp + 1) + j = i - kp + j := by omega
    rw [e]
    by_cases ej : j = kp
    · subst ej
      rw [Array.getElem?_setIfInBounds_self_of_lt (by omega), show i - j + j = i by omega, List.getElem?_eq_getElem (by omega)]
      rfl
    · rw [Array.getElem?_setIfInBounds_ne (by omega)]
      exact h3 j (by omega)
  · rw [Array.getElem?_setIfInBounds_ne (by omega)]
    exact h4 j (by omega) hn
/-- Who is kept, in the end. -/
def RFin (W : World) (Brt n : Nat) (RW : List Wt) (kp : Nat) : Prop := ∃ cs, Row W Brt 75 cs ∧ cs.size = n ∧ ∀ j, j < kp → cs[j]? = (RW[n - kp + j]?).map (fun t => Value.pointer (some ⟨t.b, 0, none⟩))
theorem Yba.info75 : (Yba.prog.info? 75).map (fun i => (i.zero, i.size, i.bytes)) = some (some (.pointer none), 1, 8) := by kernel_rfl

theorem cntF_le (nm : Nat → Fin 3) (x : Fin 3) : ∀ d k, cntF nm x d k ≤ d
  | 0, _ => Nat.le_refl _
  | d + 1, k => by
    have := cntF_le nm x d (k + 1)
    unfold cntF
    split <;> omega
theorem Cst.fw_here (c : Cst) {k : Nat} (hk : k < c.LW.length) : c.fw k (k : Int) = some c.LW[k].b := by
  unfold Cst.fw
  rw [if_pos ⟨Int.le_refl _, by omega⟩]
  simp [hk]
theorem Cst.fw_next (c : Cst) {k : Nat} (hk : k < c.LW.length) : (fun x => if x = (k : Int) then none else c.fw k x) = c.fw (k + 1) := by
  funext x
  unfold Cst.fw
  by_cases e : x = (k : Int)
  · rw [if_pos e, if_neg (by omega)]
  · rw [if_neg e]
    by_cases h : (k : Int) ≤ x ∧ x < c.LW.length
    · rw [if_pos h, if_pos ⟨by omega, h.2⟩]
    · rw [if_neg h, if_neg (by omega)]
theorem Cst.fq_split (c : Cst) {k : Nat} (hk : k < c.LW.length) (x : Fin 3) : c.fq k x = optI ((if c.nm k = x then 1 else 0) + cntF c.nm x (c.LW.length - (k + 1)) (k + 1)) := by
  unfold Cst.fq
  obtain ⟨d, hd⟩ : ∃ d, c.LW.length - k = d + 1 := ⟨c.LW.length - k - 1, by omega⟩
  have e : c.LW.length - (k + 1) = d := by omega
  rw [hd, e]
  rfl
theorem Cst.fq_here (c : Cst) {k : Nat} (hk : k < c.LW.length) : c.fq k (c.nm k) = some (((cntF c.nm (c.nm k) (c.LW.length - (k + 1)) (k + 1) : Nat) : Int) + 1) := by
  rw [c.fq_split hk, if_pos rfl]
  unfold optI
  rw [if_neg (by omega)]
  congr 1
  omega
theorem Cst.fq_put (c : Cst) {k : Nat} (hk : k < c.LW.length) (h0 : cntF c.nm (c.nm k) (c.LW.length - (k + 1)) (k + 1) ≠ 0) :
    (fun x => if x = c.nm k then some ((cntF c.nm (c.nm k) (c.LW.length - (k + 1)) (k + 1) : Nat) : Int) else c.fq k x) = c.fq (k + 1) := by
  funext x
  by_cases e : x = c.nm k
  · subst e
    rw [if_pos rfl]
    unfold Cst.fq optI
    rw [if_neg h0]
  · rw [if_neg e, c.fq_split hk, if_neg (fun h => e h.symm), Nat.zero_add]
    rfl
theorem Cst.fq_del (c : Cst) {k : Nat} (hk : k < c.LW.length) (h0 : cntF c.nm (c.nm k) (c.LW.length - (k + 1)) (k + 1) = 0) :
    (fun x => if x = c.nm k then none else (if x = c.nm k then some ((cntF c.nm (c.nm k) (c.LW.length - (k + 1)) (k + 1) : Nat) : Int) else c.fq k x)) = c.fq (k + 1) := by
  funext x
  by_cases e : x = c.nm k
  · subst e
    rw [if_pos rfl]
    unfold Cst.fq optI
    rw [if_pos h0]
  · rw [if_neg e, if_neg e, c.fq_split hk, if_neg (fun h => e h.symm), Nat.zero_add]
    rfl
theorem Cst.reqOf_vs (c : Cst) (k : Nat) : (c.reqOf k).vs = #[.int .i64 k, .string (nameB (c.nm k).val), .int .i64 0, .int .i64 0, .int .i64 0, .bool false] := rfl

set_option maxRecDepth 100000 in
set_option maxHeartbeats 6400000 in
/-- (*Server).dispatch -/
theorem dispatch_g (w0 w : World) (c : Cst) (ok : CstOk w0 c) (Brt n : Nat) (inf0 t0 : Int) (hnl : n = c.RW.length) (hlo : Brt ∈ c.wr)
    (hd : DS w0 w c 1 (.slice (some ⟨Brt, 0, none⟩) n n) inf0 t0 0 (c.fw 0) c.LW.length (c.fq 0) (fun _ => false) (fun _ => false)) (ha : RArr w Brt n c.RW 0 0) (hi0 : 0 ≤ inf0) (hi1 : inf0 ≤ 8) (ht0 : 0 ≤ t0) (ht1 : t0 ≤ 8) :
    Calls Yba.prog 32 #[.pointer (some ⟨c.S, 0, none⟩)] w fun e w' => e = .returned (.tuple #[]) ∧ ∃ k, k ≤ c.LW.length ∧
      DS w0 w' c 1 (.slice (some ⟨Brt, 0, none⟩) (keptAt c.sl inf0 c.rl n) n) (infAt c.sl (infAt c.sl inf0 c.rl n) c.llf k) (t0 + (infAt c.sl (infAt c.sl inf0 c.rl n) c.llf k - inf0)) k (c.fw k) (c.LW.length - k) (c.fq k) (gvAt c.sl inf0 c.rl n) (gvAt c.sl (infAt c.sl inf0 c.rl n) c.llf k) ∧
      (∀ j, j < k → infAt c.sl (infAt c.sl inf0 c.rl n) c.llf j < c.sl) ∧ (k = c.LW.length ∨ ¬ infAt c.sl (infAt c.sl inf0 c.rl n) c.llf k < c.sl) ∧ RFin w' Brt n c.RW (keptAt c.sl inf0 c.rl n) := by
  obtain ⟨i75, hi75, hz75, hs75, hb75⟩ := info_parts Yba.info75
  have s4 := hd.rS.cell 4
  simp at s4
  have NOW := Hid.mk (now_any c.C c.wl c.ex c.lgv w hd.rC)
  have h1 := m_now
  have h2 := m_len
  have h3 := m_pop
  have hln : n ≤ 1024 := by rw [hnl]; exact ok.lr
  have HNL := Hid.mk hnl
  have HD := Hid.mk (And.intro hd ha)
  have lS := hd.rS.lt
  have hn64 : ((n : Nat) : Int) ≤ 1024 := by omega
  clear hd ha hnl
  go_enter Yba.func32, Yba.ntmps32
  go_upto_region 1 with (go_at_call 119; refine NOW.out.mono ?_; rintro e w1 ⟨rfl, hb⟩)
  refine wp_world (fun V => DS w0 V c 1 (.slice (some ⟨Brt, 0, none⟩) n n) inf0 t0 0 (c.fw 0) c.LW.length (c.fq 0) (fun _ => false) (fun _ => false) ∧ RArr V Brt n c.RW 0 0 ∧ Row V w1.heap.size 29 (tmV c.wl c.ex)) ?_ ?_
  · obtain ⟨d1, a1⟩ := HD.out
    have hb2 : Below w.heap.size w (w1.alloc (.cells (tmV c.wl c.ex) 29)) := hb.alloc hb.size _
    refine ⟨d1.ext hb2, ?_, row_new _ _ _ _ rfl⟩
    obtain ⟨cs, r, h2⟩ := a1
    exact ⟨cs, r.below hb2 r.lt, h2⟩
  clear HD hb NOW s4
  generalize w1.heap.size = Bn
  rintro V ⟨vd, va, vn⟩
  have s15 := vd.rS.cell 15
  simp at s15
  have HV := Hid.mk (And.intro vd (And.intro va vn))
  clear vd va vn
  go_wp2
  go_loopg [3, 26] n (fun k kept i W => ∃ j : Nat, j + k = n ∧ i = .int .i64 j ∧ kept = .slice (some ⟨Brt, 0, none⟩) (keptAt c.sl inf0 c.rl j) n ∧ DS w0 W c 1 (.slice (some ⟨Brt, 0, none⟩) n n) (infAt c.sl inf0 c.rl j) (t0 + (infAt c.sl inf0 c.rl j - inf0)) 0 (c.fw 0) c.LW.length (c.fq 0) (gvAt c.sl inf0 c.rl j) (fun _ => false) ∧ RArr W Brt n c.RW (keptAt c.sl inf0 c.rl j) j ∧ Row W Bn 29 (tmV c.wl c.ex))
  case atStart =>
    refine ⟨0, by omega, rfl, rfl, ?_, HV.out.2.1, HV.out.2.2⟩
    rw [gvAt_zero]
    have : t0 + (infAt c.sl inf0 c.rl 0 - inf0) = t0 := by show t0 + (inf0 - inf0) = t0; omega
    rw [this]
    exact HV.out.1
  case round =>
    clear HV s15
    obtain ⟨j, hj, rfl, rfl, hds, har, hrn⟩ := hrel
    have hif0 : 0 ≤ infAt c.sl inf0 c.rl j := Int.le_trans hi0 (infAt_ge j)
    have hif1 : infAt c.sl inf0 c.rl j ≤ 8 := infAt_le hi1 ok.s1 j
    have hkle := kept_le (sl := c.sl) (inf0 := inf0) (lf := c.rl) j
    have HDS := Hid.mk (And.intro hds (And.intro har hrn))
    clear hds har hrn
    by_cases hlt : j < n
    case neg =>
      obtain rfl : n = j := by omega
      obtain ⟨kp, hkp⟩ : ∃ kp, kp = keptAt c.sl inf0 c.rl n := ⟨_, rfl⟩
      obtain ⟨inf1, hinf1⟩ : ∃ x, x = infAt c.sl inf0 c.rl n := ⟨_, rfl⟩
      have s15 := HDS.out.1.rS.cell 15
      simp at s15
      have HK := Hid.mk (And.intro hkp hinf1)
      rw [← hkp] at hkle ⊢
      rw [← hinf1] at hif0 hif1
      have lS2 := HDS.out.1.rS.lt
      have hki : ((kp : Nat) : Int) ≤ ((n : Nat) : Int) := by omega
      have HD3 : Hid (DS w0 wr c 1 (.slice (some ⟨Brt, 0, none⟩) n n) inf1 (t0 + (inf1 - inf0)) 0 (c.fw 0) c.LW.length (c.fq 0) (gvAt c.sl inf0 c.rl n) (fun _ => false) ∧ RFin wr Brt n c.RW kp ∧ Row wr Bn 29 (tmV c.wl c.ex)) := by
        obtain ⟨d, ⟨cs, r, h2, h3, _⟩, rn⟩ := HDS.out
        rw [← hinf1] at d
        rw [← hkp] at h3
        exact ⟨d, ⟨cs, r, h2, h3⟩, rn⟩
      clear hkp hinf1 HDS
      go_upto_region 10 with fail
      go_cut [3] from 47 (fun s3 wx => s3 = .slice (some ⟨Brt, 0, none⟩) kp n ∧ DS w0 wx c 1 (.slice (some ⟨Brt, 0, none⟩) n n) inf1 (t0 + (inf1 - inf0)) 0 (c.fw 0) c.LW.length (c.fq 0) (gvAt c.sl inf0 c.rl n) (fun _ => false) ∧ RFin wx Brt n c.RW kp ∧ Row wx Bn 29 (tmV c.wl c.ex))
      case first =>
        by_cases hkn : kp = n
        · subst hkn
          have hc0 : ∀ a cc, (Builtin.clear_ #[65] 0 #[.slice (some a) 0 cc]).run Yba.prog wr = .ok (.tuple #[]) wr := fun a cc => by simp [Builtin.clear_, run_underlying Yba.underlying65]
          go_wp2
          go_meet
          case rel => exact ⟨rfl, HD3.out⟩
        · obtain ⟨cs, rcs, hsz, hpre⟩ := HD3.out.2.1
          obtain ⟨Wc, hrun, hoc, cs', rcs', hsz', hpre'⟩ := clear_row (c := n - kp) rcs (show kp + (n - kp) ≤ cs.size by omega) 0
          have hkl : ((kp : Nat) : Int) < ((n : Nat) : Int) := by omega
          have hkl2 : kp < n := by omega
          have F : Hid (DS w0 Wc c 1 (.slice (some ⟨Brt, 0, none⟩) n n) inf1 (t0 + (inf1 - inf0)) 0 (c.fw 0) c.LW.length (c.fq 0) (gvAt c.sl inf0 c.rl n) (fun _ => false) ∧ RFin Wc Brt n c.RW kp ∧ Row Wc Bn 29 (tmV c.wl c.ex)) :=
            ⟨HD3.out.1.off rcs (by decide) hlo hoc, ⟨cs', rcs', by omega, fun j hj => (hpre' j hj).trans (hpre j hj)⟩, HD3.out.2.2.only hoc (by simpa using HD3.out.2.2.ne rcs (by decide))⟩
          clear rcs hsz hpre hoc rcs' hsz' hpre'
          go_wp2
          all_goals go_meet
          case rel => exact ⟨rfl, F.out⟩
      case rest =>
        clear HD3 s15
        obtain ⟨rfl, hd3, hf3, hn3⟩ := hcut
        have HD4 := Hid.mk (And.intro hd3 (And.intro hf3 hn3))
        have s15 := hd3.rS.cell 15
        have f15 := hd3.rS.frozen 15
        simp at s15
        clear hd3 hf3 hn3
        go_wp2
        refine wp_world (fun V => DS w0 V c 1 (.slice (some ⟨Brt, 0, none⟩) kp n) inf1 (t0 + (inf1 - inf0)) 0 (c.fw 0) c.LW.length (c.fq 0) (gvAt c.sl inf0 c.rl n) (fun _ => false) ∧ RFin V Brt n c.RW kp ∧ Row V Bn 29 (tmV c.wl c.ex)) ?_ ?_
        · obtain ⟨d, ⟨cs, r, h2, h3⟩, rn⟩ := HD4.out
          exact ⟨d.setS ok 15 _ 1 _ rfl, ⟨cs, r.setOther (r.ne d.rS (by decide)) _ _, h2, h3⟩, rn.setOther (rn.ne d.rS (by decide)) _ _⟩
        clear HD4 s15 f15
        rintro V hV
        have HV := Hid.mk hV
        clear hV
        go_loopg [63] c.LW.length (fun kk z W => ∃ k : Nat, k + kk = c.LW.length ∧ DS w0 W c 1 (.slice (some ⟨Brt, 0, none⟩) kp n) (infAt c.sl inf1 c.llf k) (t0 + (infAt c.sl inf1 c.llf k - inf0)) k (c.fw k) (c.LW.length - k) (c.fq k) (gvAt c.sl inf0 c.rl n) (gvAt c.sl inf1 c.llf k) ∧ (∀ j, j < k → infAt c.sl inf1 c.llf j < c.sl) ∧ RFin W Brt n c.RW kp ∧ Row W Bn 29 (tmV c.wl c.ex))
        case atStart =>
          refine ⟨0, by omega, ?_, by simp, HV.out.2⟩
          rw [gvAt_zero]
          exact HV.out.1
        case round =>
          clear HV
          obtain ⟨k, hk, hds, hall, hrf, hrn⟩ := hrel
          have hjf0 : 0 ≤ infAt c.sl inf1 c.llf k := Int.le_trans hif0 (infAt_ge k)
          have hjf1 : infAt c.sl inf1 c.llf k ≤ 8 := infAt_le hif1 ok.s1 k
          have hll := ok.ll
          have s11 := hds.rS.cell 11
          simp at s11
          have LE := Hid.mk (aqLen_any c.Qn c.LW.length c.qcap c.qa k wr hds.rQ (by omega) (by omega))
          have HDS := Hid.mk (And.intro hds (And.intro hall (And.intro hrf hrn)))
          have DONE : Hid (∀ W, Below wr.heap.size wr W → (k = c.LW.length ∨ ¬ infAt c.sl inf1 c.llf k < c.sl) → ∃ k, k ≤ c.LW.length ∧
      DS w0 W c 1 (.slice (some ⟨Brt, 0, none⟩) (keptAt c.sl inf0 c.rl n) n) (infAt c.sl (infAt c.sl inf0 c.rl n) c.llf k) (t0 + (infAt c.sl (infAt c.sl inf0 c.rl n) c.llf k - inf0)) k (c.fw k) (c.LW.length - k) (c.fq k) (gvAt c.sl inf0 c.rl n) (gvAt c.sl (infAt c.sl inf0 c.rl n) c.llf k) ∧
      (∀ j, j < k → infAt c.sl (infAt c.sl inf0 c.rl n) c.llf j < c.sl) ∧ (k = c.LW.length ∨ ¬ infAt c.sl (infAt c.sl inf0 c.rl n) c.llf k < c.sl) ∧ RFin W Brt n c.RW (keptAt c.sl inf0 c.rl n)) := by
            intro W hW hst
            obtain ⟨d, a, ⟨cs, r, h2, h3⟩, rn⟩ := HDS.out
            rw [← HK.out.1, ← HK.out.2]
            exact ⟨k, by omega, d.ext hW, a, hst, cs, r.below hW r.lt, h2, h3⟩
          have lSr : c.S < wr.heap.size := hds.rS.lt
          clear hds hall hrf hrn
          by_cases hkm : k < c.LW.length
          case neg =>
            have hke : k = c.LW.length := by omega
            have hkz : ¬ (0 : Int) < (c.LW.length : Int) - (k : Int) := by omega
            have HKE := Hid.mk hke
            clear hke
            go_wp2_with fail
            refine LE.out.mono ?_
            rintro e w2 ⟨rfl, m2, rfl⟩
            go_wp2
            go_end0
            exact ⟨rfl, DONE.out _ (below_drewN (Below.refl _ _) _) (.inl HKE.out)⟩
          case pos =>
            have hkz : (0 : Int) < (c.LW.length : Int) - (k : Int) := by omega
            have NX : Hid (∀ m, Calls Yba.prog 49 #[.pointer (some ⟨c.S, 0, none⟩), .map none, .agg (tmV c.wl c.ex)] (wr.drewN m) fun e w' => e = .returned (.pointer (if infAt c.sl inf1 c.llf k < c.sl then some ⟨c.B, 0, none⟩ else none)) ∧ Below (wr.drewN m).heap.size (wr.drewN m) w') :=
              fun m => next_down c.S c.C c.Qn c.Mw c.Mq c.Bb c.bcap c.B 1 _ c.wl c.ex c.ex2 c.sl _ _ true _ (HDS.out.1.nin.below (below_drewN (Below.refl _ _) m)) ok.hcap ok.w0' ok.w1' ok.hx ok.s0 (by have := ok.s1; omega) hjf0 (by omega)
            have z0 := HDS.out.2.2.2.cell 0
            have z1 := HDS.out.2.2.2.cell 1
            have z2 := HDS.out.2.2.2.cell 2
            simp at z0 z1 z2
            go_wp2_with fail
            refine LE.out.mono ?_
            rintro e w2 ⟨rfl, m2, rfl⟩
            go_wp2_with fail
            refine (NX.out _).mono ?_
            rintro e w3 ⟨rfl, hb3⟩
            have HB3 : Hid (Below wr.heap.size wr w3) := (below_drewN (Below.refl _ _) m2).trans (hb3.mono (by simp))
            clear hb3 NX LE z0 z1 z2 s11
            by_cases hf : infAt c.sl inf1 c.llf k < c.sl
            · rw [if_pos hf]
              have HF := Hid.mk hf
              have HD2 : Hid (DS w0 w3 c 1 (.slice (some ⟨Brt, 0, none⟩) kp n) (infAt c.sl inf1 c.llf k) (t0 + (infAt c.sl inf1 c.llf k - inf0)) k (c.fw k) (c.LW.length - k) (c.fq k) (gvAt c.sl inf0 c.rl n) (gvAt c.sl inf1 c.llf k) ∧ RFin w3 Brt n c.RW kp ∧ Row w3 Bn 29 (tmV c.wl c.ex)) := by
                obtain ⟨d, _, ⟨cs, r, h2, h3⟩, rn⟩ := HDS.out
                exact ⟨d.ext HB3.out, ⟨cs, r.below HB3.out r.lt, h2, h3⟩, rn.below HB3.out rn.lt⟩
              have HALL : Hid (∀ j, j < k + 1 → infAt c.sl inf1 c.llf j < c.sl) := by
                intro j hj
                by_cases e : j = k
                · subst e; exact HF.out
                · exact HDS.out.2.1 j (by omega)
              have POP : Hid (Calls Yba.prog 120 #[.pointer (some ⟨c.Qn, 0, none⟩)] w3 fun e w' => e = .returned (.tuple #[.agg (c.reqOf k).vs, .bool true]) ∧ Only [c.Qn] w3 w' ∧ Row w' c.Qn 48 #[.slice c.qa c.LW.length c.qcap, .int .i64 ((k + 1 : Nat) : Int)]) := by
                obtain ⟨e, cs, r, hq⟩ := HD2.out.1.rq (by omega)
                have rQ := HD2.out.1.rQ
                rw [e] at rQ ⊢
                exact aqPop_any c.Qn c.Bq c.LW.length c.qcap k (c.reqOf k) w3 rQ hkm (by omega) ok.qcap (fun j hj => (r.cell _).trans (hq k hkm j hj))
              have s11 := HD2.out.1.rS.cell 11
              simp at s11
              have lS3 : c.S < w3.heap.size := HD2.out.1.rS.lt
              clear HDS HB3 DONE
              go_wp2_with fail
              refine POP.out.mono ?_
              rintro e w4 ⟨rfl, ho4, hr4⟩
              have HD3 : Hid (DS w0 w4 c 1 (.slice (some ⟨Brt, 0, none⟩) kp n) (infAt c.sl inf1 c.llf k) (t0 + (infAt c.sl inf1 c.llf k - inf0)) (k + 1) (c.fw k) (c.LW.length - k) (c.fq k) (gvAt c.sl inf0 c.rl n) (gvAt c.sl inf1 c.llf k) ∧ RFin w4 Brt n c.RW kp ∧ Row w4 Bn 29 (tmV c.wl c.ex)) := by
                obtain ⟨d, ⟨cs, r, h2, h3⟩, rn⟩ := HD2.out
                exact ⟨d.popped ok ho4 (k + 1) hr4, ⟨cs, r.only ho4 (by simpa using r.ne d.rQ (by decide)), h2, h3⟩, rn.only ho4 (by simpa using rn.ne d.rQ (by decide))⟩
              clear ho4 hr4 HD2 POP s11 lS3
              go_upto_region 16 with fail
              refine wp_world (fun V => ∃ Br, w4.heap.size = Br ∧ (DS w0 V c 1 (.slice (some ⟨Brt, 0, none⟩) kp n) (infAt c.sl inf1 c.llf k) (t0 + (infAt c.sl inf1 c.llf k - inf0)) (k + 1) (c.fw k) (c.LW.length - k) (c.fq k) (gvAt c.sl inf0 c.rl n) (gvAt c.sl inf1 c.llf k) ∧ RFin V Brt n c.RW kp ∧ Row V Bn 29 (tmV c.wl c.ex) ∧ Row V Br 83 (c.reqOf k).vs)) ?_ ?_
              · have hb : Below w4.heap.size w4 (w4.alloc (.cells (c.reqOf k).vs 83)) := (Below.refl _ _).alloc (Nat.le_refl _) _
                obtain ⟨d, ⟨cs, r, h2, h3⟩, rn⟩ := HD3.out
                exact ⟨_, rfl, d.ext hb, ⟨cs, r.below hb r.lt, h2, h3⟩, rn.below hb rn.lt, row_new _ _ _ _ rfl⟩
              clear HD3
              rintro V ⟨Br, hBr, hV⟩
              rw [hBr]
              clear hBr
              clear w4
              obtain ⟨tk, htk⟩ : ∃ t, t = c.LW[k] := ⟨_, rfl⟩
              have hLook : ∀ m, (Instr.lookup 49 (.map (some c.Mw)) (.int .i64 k) false).run Yba.prog (V.drewN m) = .ok (.pointer (some ⟨tk.b, 0, none⟩)) (V.drewN m) := by
                intro m
                have h9 := (hV.1.mw.only (S := []) ((Only.refl _ _).drewN m) (by simp)).look mapTy49 (k : Int)
                rw [c.fw_here hkm, ← htk] at h9
                exact h9
              have HTK := Hid.mk htk
              have s12 := hV.1.rS.cell 12
              have b0 := hV.2.2.2.cell 0
              rw [c.reqOf_vs] at b0
              simp at s12 b0
              have HV := Hid.mk hV
              clear hV htk
              go_quiet (fail)
              go_upto_region 17 with fail
              refine wp_world (fun V => (DS w0 V c 1 (.slice (some ⟨Brt, 0, none⟩) kp n) (infAt c.sl inf1 c.llf k) (t0 + (infAt c.sl inf1 c.llf k - inf0)) (k + 1) (c.fw k) (c.LW.length - k) (c.fq k) (gvAt c.sl inf0 c.rl n) (gvAt c.sl inf1 c.llf k) ∧ RFin V Brt n c.RW kp ∧ Row V Bn 29 (tmV c.wl c.ex) ∧ Row V Br 83 (c.reqOf k).vs)) ?_ ?_
              · obtain ⟨d, ⟨cs, r, h2, h3⟩, rn, rb⟩ := HV.out
                exact ⟨d.ext (below_drewN (Below.refl _ _) _), ⟨cs, r.drewN _, h2, h3⟩, rn.drewN _, rb.drewN _⟩
              clear HV hLook s12 b0
              clear V
              rintro V hV
              obtain ⟨Wd, hWd⟩ := Classical.skolem.1 (fun m => (hV.1.mw.only (S := []) ((Only.refl _ _).drewN m) (by simp)).del mapTy49 (k : Int) 0)
              have hdel := fun m => (hWd m).1
              have s12 := hV.1.rS.cell 12
              have b0 := hV.2.2.2.cell 0
              rw [c.reqOf_vs] at b0
              simp at s12 b0
              have HW : Hid (∀ m, (DS w0 (Wd m) c 1 (.slice (some ⟨Brt, 0, none⟩) kp n) (infAt c.sl inf1 c.llf k) (t0 + (infAt c.sl inf1 c.llf k - inf0)) (k + 1) (c.fw (k + 1)) (c.LW.length - (k + 1)) (c.fq k) (gvAt c.sl inf0 c.rl n) (gvAt c.sl inf1 c.llf k) ∧ RFin (Wd m) Brt n c.RW kp ∧ Row (Wd m) Bn 29 (tmV c.wl c.ex) ∧ Row (Wd m) Br 83 (c.reqOf k).vs)) := by
                intro m
                obtain ⟨d, ⟨cs, r, h2, h3⟩, rn, rb⟩ := hV
                have hm := (hWd m).2.1
                rw [c.fw_here hkm, c.fw_next hkm] at hm
                have ho := (hWd m).2.2
                refine ⟨(d.ext (below_drewN (Below.refl _ _) m)).wTurn ok ho (by rw [show c.LW.length - (k + 1) = c.LW.length - k - 1 by omega]; exact hm), ⟨cs, (r.drewN m).only ho (by simpa using (d.mw.ne r).symm), h2, h3⟩, (rn.drewN m).only ho (by simpa using (d.mw.ne rn).symm), (rb.drewN m).only ho (by simpa using (d.mw.ne rb).symm)⟩
              clear hWd hV
              refine wp_region_drawn_tail 6 (by kernel_rfl) (by kernel_rfl) ?_
              simp only [List.take_succ_cons, List.take_zero, List.drop_succ_cons, List.drop_zero]
              repeat (go_big_quiet_step (fail))
              refine wpQuiet_nil ?_
              rintro _ ⟨m7, rfl⟩
              go_upto_region 18 with fail
              refine wp_world (fun V => (DS w0 V c 1 (.slice (some ⟨Brt, 0, none⟩) kp n) (infAt c.sl inf1 c.llf k) (t0 + (infAt c.sl inf1 c.llf k - inf0)) (k + 1) (c.fw (k + 1)) (c.LW.length - (k + 1)) (c.fq k) (gvAt c.sl inf0 c.rl n) (gvAt c.sl inf1 c.llf k) ∧ RFin V Brt n c.RW kp ∧ Row V Bn 29 (tmV c.wl c.ex) ∧ Row V Br 83 (c.reqOf k).vs)) (HW.out m7) ?_
              clear HW hdel s12 b0
              clear Wd V
              rintro V hV
              obtain ⟨D, hD⟩ : ∃ D : Int, D = ((cntF c.nm (c.nm k) (c.LW.length - (k + 1)) (k + 1) : Nat) : Int) := ⟨_, rfl⟩
              have hD0 : 0 ≤ D := by omega
              have hD1 : D ≤ 1024 := by have := cntF_le c.nm (c.nm k) (c.LW.length - (k + 1)) (k + 1); omega
              have hLook : ∀ m, (Instr.lookup 50 (.map (some c.Mq)) (.string (nameB (c.nm k).val)) false).run Yba.prog (V.drewN m) = .ok (.int .i64 (D + 1)) (V.drewN m) := by
                intro m
                obtain ⟨nq, hq⟩ := hV.1.mq
                have h9 := (hq.only (S := []) ((Only.refl _ _).drewN m) (by simp)).look mapTy50 (c.nm k)
                rw [c.fq_here hkm, ← hD] at h9
                exact h9
              obtain ⟨Wd, hWd⟩ := Classical.skolem.1 (fun m => (hV.1.mq.choose_spec.only (S := []) ((Only.refl _ _).drewN m) (by simp)).put mapTy50 (c.nm k) D)
              have hput := fun m => (hWd m).1
              have s13 := hV.1.rS.cell 13
              have b1 := hV.2.2.2.cell 1
              rw [c.reqOf_vs] at b1
              simp at s13 b1
              have HW : Hid (∀ m, (DS w0 (Wd m) c 1 (.slice (some ⟨Brt, 0, none⟩) kp n) (infAt c.sl inf1 c.llf k) (t0 + (infAt c.sl inf1 c.llf k - inf0)) (k + 1) (c.fw (k + 1)) (c.LW.length - (k + 1)) (fun x => if x = c.nm k then some ((cntF c.nm (c.nm k) (c.LW.length - (k + 1)) (k + 1) : Nat) : Int) else c.fq k x) (gvAt c.sl inf0 c.rl n) (gvAt c.sl inf1 c.llf k) ∧ RFin (Wd m) Brt n c.RW kp ∧ Row (Wd m) Bn 29 (tmV c.wl c.ex) ∧ Row (Wd m) Br 83 (c.reqOf k).vs)) := by
                intro m
                obtain ⟨d, ⟨cs, r, h2, h3⟩, rn, rb⟩ := id hV
                have hm := (hWd m).2.1
                rw [hD] at hm
                have ho := (hWd m).2.2
                have hq := hV.1.mq.choose_spec
                refine ⟨(d.ext (below_drewN (Below.refl _ _) m)).qTurn ok ho ⟨_, hm⟩, ⟨cs, (r.drewN m).only ho (by simpa using (hq.ne r).symm), h2, h3⟩, (rn.drewN m).only ho (by simpa using (hq.ne rn).symm), (rb.drewN m).only ho (by simpa using (hq.ne rb).symm)⟩
              have HDD := Hid.mk hD
              clear hWd hV hD
              refine wp_region_drawn_tail 8 (by kernel_rfl) (by kernel_rfl) ?_
              simp only [List.take_succ_cons, List.take_zero, List.drop_succ_cons, List.drop_zero]
              repeat (go_big_quiet_step (fail))
              refine wpQuiet_nil ?_
              rintro _ ⟨m8, rfl⟩
              go_upto_region 19 with fail
              refine wp_world (fun V => (DS w0 V c 1 (.slice (some ⟨Brt, 0, none⟩) kp n) (infAt c.sl inf1 c.llf k) (t0 + (infAt c.sl inf1 c.llf k - inf0)) (k + 1) (c.fw (k + 1)) (c.LW.length - (k + 1)) (fun x => if x = c.nm k then some ((cntF c.nm (c.nm k) (c.LW.length - (k + 1)) (k + 1) : Nat) : Int) else c.fq k x) (gvAt c.sl inf0 c.rl n) (gvAt c.sl inf1 c.llf k) ∧ RFin V Brt n c.RW kp ∧ Row V Bn 29 (tmV c.wl c.ex) ∧ Row V Br 83 (c.reqOf k).vs)) (HW.out m8) ?_
              clear HW hput hLook s13 b1
              clear Wd V
              rintro V hV
              have hLook : ∀ m, (Instr.lookup 50 (.map (some c.Mq)) (.string (nameB (c.nm k).val)) false).run Yba.prog (V.drewN m) = .ok (.int .i64 D) (V.drewN m) := by
                intro m
                obtain ⟨nq, hq⟩ := hV.1.mq
                have h9 := (hq.only (S := []) ((Only.refl _ _).drewN m) (by simp)).look mapTy50 (c.nm k)
                rw [if_pos rfl, ← HDD.out] at h9
                exact h9
              have s13 := hV.1.rS.cell 13
              have b1 := hV.2.2.2.cell 1
              rw [c.reqOf_vs] at b1
              simp at s13 b1
              have HV := Hid.mk hV
              clear hV
              go_quiet (fail)
              go_upto_if 105 with fail
              refine wp_world (fun V => (DS w0 V c 1 (.slice (some ⟨Brt, 0, none⟩) kp n) (infAt c.sl inf1 c.llf k) (t0 + (infAt c.sl inf1 c.llf k - inf0)) (k + 1) (c.fw (k + 1)) (c.LW.length - (k + 1)) (fun x => if x = c.nm k then some ((cntF c.nm (c.nm k) (c.LW.length - (k + 1)) (k + 1) : Nat) : Int) else c.fq k x) (gvAt c.sl inf0 c.rl n) (gvAt c.sl inf1 c.llf k) ∧ RFin V Brt n c.RW kp ∧ Row V Bn 29 (tmV c.wl c.ex) ∧ Row V Br 83 (c.reqOf k).vs)) ?_ ?_
              · obtain ⟨d, ⟨cs, r, h2, h3⟩, rn, rb⟩ := HV.out
                exact ⟨d.ext (below_drewN (Below.refl _ _) _), ⟨cs, r.drewN _, h2, h3⟩, rn.drewN _, rb.drewN _⟩
              clear HV hLook s13 b1
              clear V
              rintro V hV
              by_cases hDz : D = 0
              · have hDb : (D == 0) = true := by simp [hDz]
                obtain ⟨Wd, hWd⟩ := Classical.skolem.1 (fun m => (hV.1.mq.choose_spec.only (S := []) ((Only.refl _ _).drewN m) (by simp)).del mapTy50 (c.nm k) 0)
                have hdel := fun m => (hWd m).1
                have s13 := hV.1.rS.cell 13
                have b1 := hV.2.2.2.cell 1
                rw [c.reqOf_vs] at b1
                simp at s13 b1
                have HW : Hid (∀ m, (DS w0 (Wd m) c 1 (.slice (some ⟨Brt, 0, none⟩) kp n) (infAt c.sl inf1 c.llf k) (t0 + (infAt c.sl inf1 c.llf k - inf0)) (k + 1) (c.fw (k + 1)) (c.LW.length - (k + 1)) (c.fq (k + 1)) (gvAt c.sl inf0 c.rl n) (gvAt c.sl inf1 c.llf k) ∧ RFin (Wd m) Brt n c.RW kp ∧ Row (Wd m) Bn 29 (tmV c.wl c.ex) ∧ Row (Wd m) Br 83 (c.reqOf k).vs)) := by
                  intro m
                  obtain ⟨d, ⟨cs, r, h2, h3⟩, rn, rb⟩ := id hV
                  have hm := (hWd m).2.1
                  rw [c.fq_del hkm (by have := HDD.out; omega)] at hm
                  have ho := (hWd m).2.2
                  have hq := hV.1.mq.choose_spec
                  refine ⟨(d.ext (below_drewN (Below.refl _ _) m)).qTurn ok ho ⟨_, hm⟩, ⟨cs, (r.drewN m).only ho (by simpa using (hq.ne r).symm), h2, h3⟩, (rn.drewN m).only ho (by simpa using (hq.ne rn).symm), (rb.drewN m).only ho (by simpa using (hq.ne rb).symm)⟩
                clear hWd hV hDz
                go_upto_region 20 with fail
                refine wp_region_drawn_tail 6 (by kernel_rfl) (by kernel_rfl) ?_
                simp only [List.take_succ_cons, List.take_zero, List.drop_succ_cons, List.drop_zero]
                repeat (go_big_quiet_step (fail))
                refine wpQuiet_nil ?_
                rintro _ ⟨m9, rfl⟩
                go_upto_region 21 with fail
                refine wp_world (fun V => (DS w0 V c 1 (.slice (some ⟨Brt, 0, none⟩) kp n) (infAt c.sl inf1 c.llf k) (t0 + (infAt c.sl inf1 c.llf k - inf0)) (k + 1) (c.fw (k + 1)) (c.LW.length - (k + 1)) (c.fq (k + 1)) (gvAt c.sl inf0 c.rl n) (gvAt c.sl inf1 c.llf k) ∧ RFin V Brt n c.RW kp ∧ Row V Bn 29 (tmV c.wl c.ex) ∧ Row V Br 83 (c.reqOf k).vs)) (HW.out m9) ?_
                clear HW hdel s13 b1
                clear Wd V
                rintro V hV
                have HV := Hid.mk hV
                clear hV
                have hlt : WtIs V c.B tk false := by
                  have := HV.out.1.lws k hkm
                  rw [gvAt_now, ← HTK.out] at this
                  exact this
                have GV := Hid.mk (give_any c.B tk c.sl (infAt c.sl inf1 c.llf k) (t0 + (infAt c.sl inf1 c.llf k - inf0)) c.wl c.ex2 true V hlt HV.out.1.rB hjf0 (by omega) (by have := infAt_ge (sl := c.sl) (inf0 := inf1) (lf := c.llf) k; have := infAt_ge (sl := c.sl) (inf0 := inf0) (lf := c.rl) n; have := HK.out.2; omega) (by omega))
                have HLT := Hid.mk hlt
                clear hlt
                go_wp2_with fail
                refine GV.out.mono ?_
                rintro e w5 ⟨rfl, ho, hwt3, hB3⟩
                have hlf : c.llf k = tk.left := by unfold Cst.llf; rw [List.getElem?_eq_getElem hkm, HTK.out]; rfl
                have e1 : infAt c.sl inf1 c.llf (k + 1) = if tk.left then infAt c.sl inf1 c.llf k else infAt c.sl inf1 c.llf k + 1 := by
                  show (if infAt c.sl inf1 c.llf k < c.sl then _ else _) = _
                  rw [if_pos HF.out, hlf]
                have e3 : t0 + (infAt c.sl inf1 c.llf (k + 1) - inf0) = if tk.left then t0 + (infAt c.sl inf1 c.llf k - inf0) else t0 + (infAt c.sl inf1 c.llf k - inf0) + 1 := by
                  rw [e1]; split <;> omega
                have F : Hid (DS w0 w5 c 1 (.slice (some ⟨Brt, 0, none⟩) kp n) (infAt c.sl inf1 c.llf (k + 1)) (t0 + (infAt c.sl inf1 c.llf (k + 1) - inf0)) (k + 1) (c.fw (k + 1)) (c.LW.length - (k + 1)) (c.fq (k + 1)) (gvAt c.sl inf0 c.rl n) (gvAt c.sl inf1 c.llf (k + 1)) ∧ (∀ j, j < k + 1 → infAt c.sl inf1 c.llf j < c.sl) ∧ RFin w5 Brt n c.RW kp ∧ Row w5 Bn 29 (tmV c.wl c.ex)) := by
                  obtain ⟨d, ⟨cs, r, h2, h3⟩, rn, rb⟩ := HV.out
                  have wt := HLT.out
                  have hkey : ∀ {b : Nat} {ty : TypeId} {cs : Array Value}, Row V b ty cs → ty ≠ 39 → ty ≠ 80 → b ∉ [c.B, tk.b, tk.c] := by
                    intro b ty cs r h1 h2 hm
                    simp only [List.mem_cons, List.not_mem_nil, or_false] at hm
                    rcases hm with rfl | rfl | rfl
                    · exact absurd rfl (r.ne d.rB h1)
                    · exact absurd rfl (r.ne wt.row h2)
                    · exact absurd rfl (wt.cne r)
                  refine ⟨?_, HALL.out, ⟨cs, r.only ho (hkey r (by decide) (by decide)), h2, h3⟩, rn.only ho (hkey rn (by decide) (by decide))⟩
                  rw [e3, e1]
                  have ht := HTK.out
                  subst ht
                  refine d.gaveL ok hkm ho hB3 ?_ (fun i hi => gvAt_other hi)
                  rw [gvAt_self HF.out, hlf]
                  exact hwt3
                clear ho hwt3 hB3 GV HV HLT e1 e3 hlf HALL
                go_wp2
                go_roundg (c.LW.length - k - 1)
                case measure => omega
                case rel => exact ⟨k + 1, by omega, F.out⟩
              · have hDb : (D == 0) = false := by simpa using hDz
                have HV : Hid (DS w0 V c 1 (.slice (some ⟨Brt, 0, none⟩) kp n) (infAt c.sl inf1 c.llf k) (t0 + (infAt c.sl inf1 c.llf k - inf0)) (k + 1) (c.fw (k + 1)) (c.LW.length - (k + 1)) (c.fq (k + 1)) (gvAt c.sl inf0 c.rl n) (gvAt c.sl inf1 c.llf k) ∧ RFin V Brt n c.RW kp ∧ Row V Bn 29 (tmV c.wl c.ex) ∧ Row V Br 83 (c.reqOf k).vs) := by
                  have e := c.fq_put hkm (by have := HDD.out; omega)
                  rw [e] at hV
                  exact hV
                clear hV hDz
                go_upto_region 21 with fail
                have hlt : WtIs V c.B tk false := by
                  have := HV.out.1.lws k hkm
                  rw [gvAt_now, ← HTK.out] at this
                  exact this
                have GV := Hid.mk (give_any c.B tk c.sl (infAt c.sl inf1 c.llf k) (t0 + (infAt c.sl inf1 c.llf k - inf0)) c.wl c.ex2 true V hlt HV.out.1.rB hjf0 (by omega) (by have := infAt_ge (sl := c.sl) (inf0 := inf1) (lf := c.llf) k; have := infAt_ge (sl := c.sl) (inf0 := inf0) (lf := c.rl) n; have := HK.out.2; omega) (by omega))
                have HLT := Hid.mk hlt
                clear hlt
                go_wp2_with fail
                refine GV.out.mono ?_
                rintro e w5 ⟨rfl, ho, hwt3, hB3⟩
                have hlf : c.llf k = tk.left := by unfold Cst.llf; rw [List.getElem?_eq_getElem hkm, HTK.out]; rfl
                have e1 : infAt c.sl inf1 c.llf (k + 1) = if tk.left then infAt c.sl inf1 c.llf k else infAt c.sl inf1 c.llf k + 1 := by
                  show (if infAt c.sl inf1 c.llf k < c.sl then _ else _) = _
                  rw [if_pos HF.out, hlf]
                have e3 : t0 + (infAt c.sl inf1 c.llf (k + 1) - inf0) = if tk.left then t0 + (infAt c.sl inf1 c.llf k - inf0) else t0 + (infAt c.sl inf1 c.llf k - inf0) + 1 := by
                  rw [e1]; split <;> omega
                have F : Hid (DS w0 w5 c 1 (.slice (some ⟨Brt, 0, none⟩) kp n) (infAt c.sl inf1 c.llf (k + 1)) (t0 + (infAt c.sl inf1 c.llf (k + 1) - inf0)) (k + 1) (c.fw (k + 1)) (c.LW.length - (k + 1)) (c.fq (k + 1)) (gvAt c.sl inf0 c.rl n) (gvAt c.sl inf1 c.llf (k + 1)) ∧ (∀ j, j < k + 1 → infAt c.sl inf1 c.llf j < c.sl) ∧ RFin w5 Brt n c.RW kp ∧ Row w5 Bn 29 (tmV c.wl c.ex)) := by
                  obtain ⟨d, ⟨cs, r, h2, h3⟩, rn, rb⟩ := HV.out
                  have wt := HLT.out
                  have hkey : ∀ {b : Nat} {ty : TypeId} {cs : Array Value}, Row V b ty cs → ty ≠ 39 → ty ≠ 80 → b ∉ [c.B, tk.b, tk.c] := by
                    intro b ty cs r h1 h2 hm
                    simp only [List.mem_cons, List.not_mem_nil, or_false] at hm
                    rcases hm with rfl | rfl | rfl
                    · exact absurd rfl (r.ne d.rB h1)
                    · exact absurd rfl (r.ne wt.row h2)
                    · exact absurd rfl (wt.cne r)
                  refine ⟨?_, HALL.out, ⟨cs, r.only ho (hkey r (by decide) (by decide)), h2, h3⟩, rn.only ho (hkey rn (by decide) (by decide))⟩
                  rw [e3, e1]
                  have ht := HTK.out
                  subst ht
                  refine d.gaveL ok hkm ho hB3 ?_ (fun i hi => gvAt_other hi)
                  rw [gvAt_self HF.out, hlf]
                  exact hwt3
                clear ho hwt3 hB3 GV HV HLT e1 e3 hlf HALL
                go_wp2
                go_roundg (c.LW.length - k - 1)
                case measure => omega
                case rel => exact ⟨k + 1, by omega, F.out⟩
            · rw [if_neg hf]
              have HF := Hid.mk hf
              go_wp2
              (try simp only [Exit.inBlock, Exit.then])
              refine bodyPost_ret (results_none rfl _ _ _) rfl ?_
              exact ⟨rfl, DONE.out _ HB3.out (.inr (by have := HF.out; omega))⟩
    case pos =>
      have hjR : j < c.RW.length := by rw [← HNL.out]; exact hlt
      obtain ⟨t, ht⟩ : ∃ t, t = c.RW[j] := ⟨_, rfl⟩
      have hlf : c.rl j = t.left := by unfold Cst.rl; rw [List.getElem?_eq_getElem hjR, ht]; rfl
      have yj : wr.cell? ⟨Brt, j, none⟩ = some (.pointer (some ⟨t.b, 0, none⟩)) := by
        obtain ⟨cs, r, h2, h3, h4⟩ := HDS.out.2.1
        rw [r.cell, h4 j (Nat.le_refl _) hlt, List.getElem?_eq_getElem hjR, ht]
        rfl
      have hwt : WtIs wr c.B t false := by
        have := HDS.out.1.rws j hjR
        rw [gvAt_now, ← ht] at this
        exact this
      have ne : Nonempty (Ext wr) := ⟨⟨wr, Below.refl _ _⟩⟩
      have w1c := fun u : Ext wr => (hwt.row.ext u).cell 1
      have z0 := fun u : Ext wr => (HDS.out.2.2.ext u).cell 0
      have z1 := fun u : Ext wr => (HDS.out.2.2.ext u).cell 1
      have z2 := fun u : Ext wr => (HDS.out.2.2.ext u).cell 2
      simp at w1c z0 z1 z2
      have NX : Hid (∀ u : Ext wr, Calls Yba.prog 49 #[.pointer (some ⟨c.S, 0, none⟩), .map none, .agg (tmV c.wl c.ex)] u.1 fun e w' => e = .returned (.pointer (if infAt c.sl inf0 c.rl j < c.sl then some ⟨c.B, 0, none⟩ else none)) ∧ Below u.1.heap.size u.1 w') :=
        fun u => next_down c.S c.C c.Qn c.Mw c.Mq c.Bb c.bcap c.B 1 _ c.wl c.ex c.ex2 c.sl _ _ true u.1 (HDS.out.1.nin.below u.2) ok.hcap ok.w0' ok.w1' ok.hx ok.s0 (by have := ok.s1; omega) hif0 (by omega)
      have HT := Hid.mk (And.intro ht (And.intro hlf hwt))
      clear ht hlf hwt
      by_cases hf : infAt c.sl inf0 c.rl j < c.sl
      · rw [if_pos hf] at NX
        go_wp2
        refine wp_region_ext (by kernel_rfl) (by kernel_rfl) ?_
        unfold InExt
        repeat (go_big_quiet_step ((go_at_call 49; exact quietE _ (NX.out _))))
        refine wpQuiet_nil ?_
        rintro _ ⟨u, rfl⟩
        have HD2 : Hid (DS w0 u.1 c 1 (.slice (some ⟨Brt, 0, none⟩) n n) (infAt c.sl inf0 c.rl j) (t0 + (infAt c.sl inf0 c.rl j - inf0)) 0 (c.fw 0) c.LW.length (c.fq 0) (gvAt c.sl inf0 c.rl j) (fun _ => false) ∧ RArr u.1 Brt n c.RW (keptAt c.sl inf0 c.rl j) j ∧ Row u.1 Bn 29 (tmV c.wl c.ex) ∧ WtIs u.1 c.B t false) :=
          ⟨HDS.out.1.ext u.2, HDS.out.2.1.only (S := []) (Only.ofBelow u.2) (by simp), HDS.out.2.2.ext u, HT.out.2.2.only (S := []) (Only.ofBelow u.2) (by simp) (by simp)⟩
        have GV := Hid.mk (give_any c.B t c.sl (infAt c.sl inf0 c.rl j) (t0 + (infAt c.sl inf0 c.rl j - inf0)) c.wl c.ex2 true u.1 HD2.out.2.2.2 HD2.out.1.rB hif0 (by omega) (by have := infAt_ge (sl := c.sl) (inf0 := inf0) (lf := c.rl) j; omega) (by omega))
        clear w1c z0 z1 z2 NX ne HDS yj
        go_wp2_with fail
        refine GV.out.mono ?_
        rintro e w3 ⟨rfl, ho, hwt3, hB3⟩
        have hk0 : keptAt c.sl inf0 c.rl j = 0 := kept_zero j hf
        have e1 : infAt c.sl inf0 c.rl (j + 1) = if t.left then infAt c.sl inf0 c.rl j else infAt c.sl inf0 c.rl j + 1 := by
          show (if infAt c.sl inf0 c.rl j < c.sl then _ else _) = _
          rw [if_pos hf, HT.out.2.1]
        have e2 : keptAt c.sl inf0 c.rl (j + 1) = keptAt c.sl inf0 c.rl j := by
          show (if infAt c.sl inf0 c.rl j < c.sl then _ else _) = _
          rw [if_pos hf]
        have e3 : t0 + (infAt c.sl inf0 c.rl (j + 1) - inf0) = if t.left then t0 + (infAt c.sl inf0 c.rl j - inf0) else t0 + (infAt c.sl inf0 c.rl j - inf0) + 1 := by
          rw [e1]; split <;> omega
        have F : Hid (DS w0 w3 c 1 (.slice (some ⟨Brt, 0, none⟩) n n) (infAt c.sl inf0 c.rl (j + 1)) (t0 + (infAt c.sl inf0 c.rl (j + 1) - inf0)) 0 (c.fw 0) c.LW.length (c.fq 0) (gvAt c.sl inf0 c.rl (j + 1)) (fun _ => false) ∧ RArr w3 Brt n c.RW (keptAt c.sl inf0 c.rl (j + 1)) (j + 1) ∧ Row w3 Bn 29 (tmV c.wl c.ex)) := by
          obtain ⟨d, a, rn, wt⟩ := HD2.out
          have hkey : ∀ {b : Nat} {ty : TypeId} {cs : Array Value}, Row u.1 b ty cs → ty ≠ 39 → ty ≠ 80 → b ∉ [c.B, t.b, t.c] := by
            intro b ty cs r h1 h2 hm
            simp only [List.mem_cons, List.not_mem_nil, or_false] at hm
            rcases hm with rfl | rfl | rfl
            · exact absurd rfl (r.ne d.rB h1)
            · exact absurd rfl (r.ne wt.row h2)
            · exact absurd rfl (wt.cne r)
          refine ⟨?_, ?_, rn.only ho (hkey rn (by decide) (by decide))⟩
          · rw [e3]
            rw [e1] at *
            have ht := HT.out.1
            subst ht
            refine d.gaveR ok hjR ho hB3 ?_ (fun i hi => gvAt_other hi)
            rw [gvAt_self hf, HT.out.2.1]
            exact hwt3
          · rw [e2, hk0]
            have a' : RArr w3 Brt n c.RW 0 j := by
              rw [hk0] at a
              obtain ⟨cs, r, _⟩ := id a
              exact a.only ho (hkey r (by decide) (by decide))
            exact a'.next
        have hke : Hid (keptAt c.sl inf0 c.rl (j + 1) = keptAt c.sl inf0 c.rl j) := e2
        clear ho hwt3 hB3 GV HD2 e1 e2 e3 hk0
        go_wp2
        go_roundg (n - j - 1)
        case measure => omega
        case rel => exact ⟨j + 1, by omega, by simp, by rw [hke.out], F.out⟩
      · rw [if_neg hf] at NX
        have HF := Hid.mk hf
        go_wp2
        refine wp_region_ext (by kernel_rfl) (by kernel_rfl) ?_
        unfold InExt
        repeat (go_big_quiet_step ((go_at_call 49; exact quietE _ (NX.out _))))
        refine wpQuiet_nil ?_
        rintro _ ⟨u, rfl⟩
        have HD2 : Hid (DS w0 u.1 c 1 (.slice (some ⟨Brt, 0, none⟩) n n) (infAt c.sl inf0 c.rl j) (t0 + (infAt c.sl inf0 c.rl j - inf0)) 0 (c.fw 0) c.LW.length (c.fq 0) (gvAt c.sl inf0 c.rl j) (fun _ => false) ∧ RArr u.1 Brt n c.RW (keptAt c.sl inf0 c.rl j) j ∧ Row u.1 Bn 29 (tmV c.wl c.ex)) :=
          ⟨HDS.out.1.ext u.2, HDS.out.2.1.only (S := []) (Only.ofBelow u.2) (by simp), HDS.out.2.2.ext u⟩
        clear w1c z0 z1 z2 NX ne HDS yj
        obtain ⟨kp, hkp⟩ : ∃ kp, kp = keptAt c.sl inf0 c.rl j := ⟨_, rfl⟩
        rw [← hkp] at hkle ⊢
        obtain ⟨cs, hcs⟩ : ∃ cs, Row u.1 Brt 75 cs ∧ cs.size = n := by
          obtain ⟨cs, r, h2, _⟩ := HD2.out.2.1
          exact ⟨cs, r, h2⟩
        have HCS := Hid.mk hcs
        have HKP := Hid.mk hkp
        clear hkp hcs
        go_wp2_with (at_builtin; refine wpList_append_arg _ rfl (.tmp 42) (.tmp 44) 65 rfl 75 i75 (.pointer none) 1 8 Yba.underlying65 hi75 hz75 hs75 hb75 rfl (by decide) Brt 0 kp n (cs.toList.take kp) rfl ?l0 ?o0 _ 1 1 [.pointer (some ⟨t.b, 0, none⟩)] rfl rfl ?c1 ?c2 ?sp ?b1 ?b2 ?room ?grow)
        case l0 => have := HCS.out.2; simp; omega
        case o0 =>
          intro j' u' hu
          rw [List.getElem?_take] at hu
          split at hu
          · rw [Nat.zero_add, (HCS.out.1.alloc _).cell, ← Array.getElem?_toList]; exact hu
          · cases hu
        case c1 => exact one_new (by simp)
        case c2 => intro u' hu; simp at hu; subst hu; rfl
        case sp =>
          intro _ j' hj'
          have e : j' = 0 := by simpa using hj'
          subst e
          have h9 := HCS.out.2
          refine ⟨?_, (HCS.out.1.alloc _).frozen _⟩
          rw [(HCS.out.1.alloc _).cell]
          simp
          omega
        case b1 => unfold maxLen; omega
        case b2 => omega
        case grow => intro hg; omega
        case room =>
          intro _
          have hfn : ¬ infAt c.sl inf0 c.rl j < c.sl := by have := HF.out; omega
          have e2 : keptAt c.sl inf0 c.rl (j + 1) = kp + 1 := by
            show (if infAt c.sl inf0 c.rl j < c.sl then _ else _) = _
            rw [if_neg hfn, HKP.out]
          have e1 : infAt c.sl inf0 c.rl (j + 1) = infAt c.sl inf0 c.rl j := by
            show (if infAt c.sl inf0 c.rl j < c.sl then _ else _) = _
            rw [if_neg hfn]
          have F : Hid (DS w0 ((u.1.alloc (.cells #[.pointer (some ⟨t.b, 0, none⟩)] 75)).setCell ⟨Brt, kp, none⟩ (.pointer (some ⟨t.b, 0, none⟩))) c 1 (.slice (some ⟨Brt, 0, none⟩) n n) (infAt c.sl inf0 c.rl (j + 1)) (t0 + (infAt c.sl inf0 c.rl (j + 1) - inf0)) 0 (c.fw 0) c.LW.length (c.fq 0) (gvAt c.sl inf0 c.rl (j + 1)) (fun _ => false) ∧ RArr ((u.1.alloc (.cells #[.pointer (some ⟨t.b, 0, none⟩)] 75)).setCell ⟨Brt, kp, none⟩ (.pointer (some ⟨t.b, 0, none⟩))) Brt n c.RW (keptAt c.sl inf0 c.rl (j + 1)) (j + 1) ∧ Row ((u.1.alloc (.cells #[.pointer (some ⟨t.b, 0, none⟩)] 75)).setCell ⟨Brt, kp, none⟩ (.pointer (some ⟨t.b, 0, none⟩))) Bn 29 (tmV c.wl c.ex)) := by
            obtain ⟨d, a, rn⟩ := HD2.out
            have hb : Below u.1.heap.size u.1 (u.1.alloc (.cells #[.pointer (some ⟨t.b, 0, none⟩)] 75)) := (Below.refl _ _).alloc (Nat.le_refl _) _
            have r1 := HCS.out.1.alloc (.cells #[.pointer (some ⟨t.b, 0, none⟩)] 75)
            rw [← HKP.out] at a
            refine ⟨?_, ?_, (rn.alloc _).setOther ((rn.alloc _).ne r1 (by decide)) _ _⟩
            · rw [e1, gvAt_kept hfn]
              exact (d.ext hb).off r1 (by decide) hlo ((Only.refl _ _).setCell (by simp) _)
            · rw [e2]
              have ht := HT.out.1
              have h9 := (a.only (S := []) (Only.ofBelow hb) (by simp)).keep hkle hlt HNL.out
              rw [← ht] at h9
              exact h9
          have hke : Hid (keptAt c.sl inf0 c.rl (j + 1) = kp + 1) := e2
          clear e1 e2 HD2 HCS hfn
          go_wp2
          go_roundg (n - j - 1)
          case measure => omega
          case rel => exact ⟨j + 1, by omega, by simp, by rw [hke.out], F.out⟩
end Go.Proofs.Ybulkhba
