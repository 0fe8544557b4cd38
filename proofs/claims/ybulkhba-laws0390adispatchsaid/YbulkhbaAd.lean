import Derived.Test.YbulkhbaAc
import Derived.Test.YbulkhbaAMM
import Derived.Laws.CopyRow
namespace Go.Proofs.Ybulkhba
open Go.Conc Go.RowKit
set_option linter.unusedVariables false
set_option linter.unusedSimpArgs false

theorem Yba.info4' : (Yba.prog.info? 4).map (fun i => (i.zero, i.size, i.bytes)) = some (some (.bool false), 1, 1) := by kernel_rfl
theorem mkch (w : World) : (Instr.makeChan 76 (.int .i64 1)).run Yba.prog w = .ok (.chan (some w.heap.size)) (w.alloc (.chan 1 #[] false 0 0 false)) := by
  have h : (Yba.prog.info? 33).map (·.bytes) = some 8 := by kernel_rfl
  obtain ⟨i, hi, hb⟩ := Option.map_eq_some_iff.1 h
  simpa using run_makeChan (P := Yba.prog) (w := w) Yba.underlying76 hi .i64 1 (by omega) (by rw [hb]; omega)
theorem wrap_tmod' {x k : Int} (h0 : 0 ≤ x) (h1 : x < 256) (hk : 1 ≤ k) (hk2 : k ≤ 8) : IntKind.i64.wrap (x.tmod k) = x % k := by
  rw [Int.tmod_eq_emod_of_nonneg h0, IntKind.wrap_i64]
  have h2 := Int.emod_nonneg x (show k ≠ 0 by omega)
  have h3 := Int.emod_lt_of_pos x (show 0 < k by omega)
  omega
theorem eql_same75 (a : Addr) (w : World) : (binOp .eql 75 (.pointer (some a)) (.pointer (some a))).run Yba.prog w = .ok (.bool true) w := by
  have h : (Yba.prog.info? 80).isSome = true := by kernel_rfl
  obtain ⟨j, hj⟩ := Option.isSome_iff_exists.1 h
  exact run_eql_ptr_same w a Yba.underlying75 hj
theorem neq_same75 (a : Addr) (w : World) : (binOp .neq 75 (.pointer (some a)) (.pointer (some a))).run Yba.prog w = .ok (.bool false) w := by
  have h : (Yba.prog.info? 80).isSome = true := by kernel_rfl
  obtain ⟨j, hte⟩ := Option.isSome_iff_exists.1 h
  have h : ∀ d : Nat, (Op.equalIn (d + 1) 75 (.pointer (some a)) (.pointer (some a))).run Yba.prog w = .ok true w := fun d => by
    simp [Op.equalIn, run_underlying Yba.underlying75, sizeOf, typeInfo, hte, run_sameAddr_same]
  simp only [binOp]
  simp [Op.equal, Op.maxDepth, h 9999]
def nmX (X : List Int) (i : Nat) : Fin 3 := ⟨(X.getD i 0 / 2).toNat % 3, Nat.mod_lt _ (by decide)⟩
/-- The arguments' slices. -/
def AtsB (w : World) (a : Option Addr) (X : List Bool) : Prop := ∀ j (h : j < X.length), ∃ x : Addr, a = some x ∧ x.block < w.heap.size ∧ w.cell? (x.add j) = some (.bool X[j])
def AtsU (w : World) (a : Option Addr) (X : List Int) : Prop := ∀ j (h : j < X.length), ∃ x : Addr, a = some x ∧ x.block < w.heap.size ∧ w.cell? (x.add j) = some (.int .u8 X[j])
theorem add_block (x : Addr) (j : Nat) : (x.add j).block = x.block := by unfold Addr.add; split <;> rfl
theorem AtsB.below {w w' : World} {a : Option Addr} {X : List Bool} (h : AtsB w a X) (hb : Below w.heap.size w w') : AtsB w' a X := by
  intro j hj
  obtain ⟨x, e, hl, hc⟩ := h j hj
  exact ⟨x, e, Nat.lt_of_lt_of_le hl hb.size, (hb.cell (p := x.add j) (by rw [add_block]; exact hl)).trans hc⟩
theorem AtsU.below {w w' : World} {a : Option Addr} {X : List Int} (h : AtsU w a X) (hb : Below w.heap.size w w') : AtsU w' a X := by
  intro j hj
  obtain ⟨x, e, hl, hc⟩ := h j hj
  exact ⟨x, e, Nat.lt_of_lt_of_le hl hb.size, (hb.cell (p := x.add j) (by rw [add_block]; exact hl)).trans hc⟩
theorem cells_new {w : World} {n : Nat} {t : TypeId} (X : Array Value) (hw : n = w.heap.size) : ∀ (j : Nat) (u : Value), X.toList[j]? = some u → (w.alloc (.cells X t)).cell? (({ block := n, off := 0 } : Addr).add j) = some u := by
  intro j u hj
  have ha : (⟨n, 0, none⟩ : Addr).add j = ⟨n, j, none⟩ := by unfold Addr.add; split <;> simp_all
  rw [ha, (row_new w t X n hw).cell, ← Array.getElem?_toList]
  exact hj
theorem req_one (r : Req) : ∀ (u : Value), u ∈ r.vs.toList → u.oneCell' = true := by
  intro u hu
  simp [Req.vs] at hu
  rcases hu with rfl | rfl | rfl | rfl | rfl | rfl <;> rfl
theorem ptr_one (b : Nat) : ∀ (u : Value), u ∈ [ptrTo b] → u.oneCell' = true := by
  intro u hu
  rw [List.mem_singleton.1 hu]; rfl
theorem addE_small {q : Int} (h0 : -10000000000 ≤ q) (h1 : q ≤ 10000000000) : addE 0 q = q := by
  unfold addE
  have h : wrap64 (0 + q) = q := by unfold wrap64; omega
  rw [h]; simp
theorem addX_small {d : Int} (h0 : -9223372036854775808 ≤ d) (h1 : d ≤ 9223372036854775807) : -100000000000 ≤ addX 0 0 d ∧ addX 0 0 d ≤ 100000000000 := by
  have e := Int.mul_tdiv_add_tmod d 1000000000
  have t1 := Int.tmod_lt_of_pos d (show (0 : Int) < 1000000000 by omega)
  have t2 := Int.lt_tmod_of_pos d (show (0 : Int) < 1000000000 by omega)
  unfold addX
  generalize d.tdiv 1000000000 = q at *
  generalize d.tmod 1000000000 = r at *
  split
  · rw [addE_small (by omega) (by omega)]; omega
  · split
    · rw [addE_small (by omega) (by omega)]; omega
    · rw [addE_small (by omega) (by omega)]; omega
theorem obj_new (w : World) (o : Obj) (n : Nat) (hn : n = w.heap.size) : (w.alloc o).heap[n]? = some o := by
  subst hn; show (w.heap.push _)[w.heap.size]? = _; simp
theorem obj_alloc {w : World} {n : Nat} {o o' : Obj} (h : w.heap[n]? = some o) : (w.alloc o').heap[n]? = some o :=
  (Below.heap_alloc w o' n (Array.getElem?_eq_some_iff.1 h).1).trans h
theorem mapF_new {α β : Type} [DecidableEq α] {kv : α → Value} {vv : β → Value} {w : World} {M : Nat} {F : α → Option β} (h : w.heap[M]? = some (.map #[] 0)) (hF : ∀ a, F a = none) : MapF kv vv w M F 0 :=
  ⟨#[], 0, [], h, rfl, List.nodup_nil, fun a => by rw [hF a]; rfl, rfl⟩
theorem nmX_val {X : List Int} {j : Nat} (h : j < X.length) (h0 : 0 ≤ X[j]) : (X[j] / 2 % 3).toNat = (nmX X j).val := by
  unfold nmX
  show _ = (X.getD j 0 / 2).toNat % 3
  rw [List.getD_eq_getElem?_getD, List.getElem?_eq_getElem h, Option.getD_some]
  generalize X[j] = x at *
  omega
theorem names_at (k : Fin 3) : namesRow[k.val]? = some (.string (nameB k.val)) := by
  obtain ⟨k, hk⟩ := k
  have : k = 0 ∨ k = 1 ∨ k = 2 := by omega
  rcases this with rfl | rfl | rfl <;> rfl
theorem optI_get (n : Nat) : ((optI n).map vvI).getD (.int .i64 0) = .int .i64 (n : Int) := by
  unfold optI
  split
  · rename_i h; subst h; rfl
  · rfl
/-- One turn of the line's build, whole. -/
theorem BL.round {w wr V V2 V3 W4 : World} {z : Bk} {LW : List Wt} {qv v' : Value} {t : Wt} {o : Obj} {nq nw : Nat} (h : BL w wr z LW qv) (hlt : LW.length < z.n6) (vo : Only [] wr V) (vt : WtIs V z.B t false) (htb : wr.heap.size ≤ t.b) (htc : wr.heap.size ≤ t.c)
    (mw2 : MapF kvI vvP V2 z.Mw (fun x => if x = (LW.length : Int) then some t.b else fwL LW x) nw) (hnw : nw = LW.length + 1) (o2 : Only [z.Mw] (V.setCell ⟨z.La, LW.length, none⟩ (ptrTo t.b)) V2)
    (mq3 : MapF kvS vvI V3 z.Mq (fun x => if x = z.nm LW.length then some ((cntF z.nm (z.nm LW.length) LW.length 0 : Nat) + 1 : Int) else optI (cntF z.nm x LW.length 0)) nq) (o3 : Only [z.Mq] V2 V3)
    (hown : W4.ownsRow 0 83 6 v' (LW.length + 1) (reqCells z.nm LW.length ++ (reqL z.nm LW.length).vs.toList)) (hgr : (V3.alloc o).grownBy W4 qv.ownBlock) (hnew : v'.ownBlock = qv.ownBlock ∨ v'.ownBlock = some (V3.alloc o).heap.size) :
    BL w (W4.setCell ⟨z.Q, 0, none⟩ v') z (LW ++ [t]) v' := by
  obtain ⟨cl, rl, hls, hlv⟩ := h.la
  obtain ⟨n0, hmq⟩ := h.mq
  have lown : ∀ k, qv.ownBlock = some k → k < wr.heap.size := fun k hk => by
    obtain ⟨c2, r2⟩ := own_row h.ow hk
    exact r2.lt
  have v'n : ∀ k, v'.ownBlock = some k → qv.ownBlock = some k ∨ wr.heap.size ≤ k := by
    intro k hk
    have s1 := vo.size
    have s2 := o2.size
    have s3 := o3.size
    rcases hnew with e | e
    · exact .inl (by rw [← e]; exact hk)
    · rw [e] at hk
      cases hk
      simp at s2 ⊢
      exact .inr (by omega)
  have o1 : Only [z.La] V (V.setCell ⟨z.La, LW.length, none⟩ (ptrTo t.b)) := (Only.refl _ _).setCell (by simp) _
  have o4 : Only qv.ownBlock.toList V3 W4 := ((Only.refl _ V3).alloc o).trans (Only.ofGrown hgr (fun j hj => .inl (by rw [hj]; simp)))
  have o5 : Only [z.Q] W4 (W4.setCell ⟨z.Q, 0, none⟩ v') := (Only.refl _ _).setCell (by simp) _
  have oS : Only (z.La :: z.Mw :: z.Mq :: z.Q :: qv.ownBlock.toList) V (W4.setCell ⟨z.Q, 0, none⟩ v') :=
    ((((o1.mono (by simp)).trans (o2.mono (by simp))).trans (o3.mono (by simp))).trans (o4.mono (by intro j hj; simp at hj ⊢; simp [hj]))).trans (o5.mono (by simp))
  have hS : ∀ j ∈ z.La :: z.Mw :: z.Mq :: z.Q :: qv.ownBlock.toList, j < wr.heap.size := by
    intro j hm
    rcases List.mem_cons.1 hm with e | hm
    · subst e; exact rl.lt
    rcases List.mem_cons.1 hm with e | hm
    · subst e; exact h.mw.lt
    rcases List.mem_cons.1 hm with e | hm
    · subst e; exact hmq.lt
    rcases List.mem_cons.1 hm with e | hm
    · subst e; exact h.rQ.lt
    exact lown j (mem_own hm)
  have nown : ∀ {b : Nat} {ty : TypeId} {cs : Array Value}, Row wr b ty cs → ty ≠ 83 → b ∉ qv.ownBlock.toList := by
    intro b ty cs r ht hm
    obtain ⟨c2, r2⟩ := own_row h.ow (mem_own hm)
    exact absurd rfl (r.ne r2 ht)
  have mown : ∀ {M : Nat}, (∀ {b : Nat} {ty : TypeId} {cs : Array Value}, Row wr b ty cs → M ≠ b) → M ∉ qv.ownBlock.toList := by
    intro M hM hm
    obtain ⟨c2, r2⟩ := own_row h.ow (mem_own hm)
    exact hM r2 rfl
  have rQ4 : Row W4 z.Q 48 #[qv, .int .i64 0] := by
    have a1 : Row V z.Q 48 #[qv, .int .i64 0] := h.rQ.only vo (by simp)
    have a2 := a1.only o1 (by simpa using h.rQ.ne rl (by decide))
    have a3 := a2.only o2 (by simpa using (h.mw.ne h.rQ).symm)
    have a4 := a3.only o3 (by simpa using (hmq.ne h.rQ).symm)
    exact a4.only o4 (nown h.rQ (by decide))
  refine h.next ((vo.mono (by simp)).trans oS) (vt.only oS (fun hm => by have := hS _ hm; omega) (fun hm => by have := hS _ hm; omega)) htb htc (by simpa using rQ4.set 0 v') ?_ v'n ?_ ⟨nq, ?_⟩ ?_
  · refine owns_only (by exact hown) o5 ?_
    intro k hk
    simp only [List.mem_singleton]
    intro e
    subst e
    obtain ⟨c2, r2⟩ := own_row hown hk
    exact absurd rfl (rQ4.ne r2 (by decide))
  · have a1 := (mw2.only o3 (by simpa using h.mm)).only o4 (mown (fun r => h.mw.ne r))
    have a2 := a1.only o5 (by simpa using h.mw.ne h.rQ)
    rw [fwL_snoc, hnw] at a2
    exact a2
  · have a2 := (mq3.only o4 (mown (fun r => hmq.ne r))).only o5 (by simpa using hmq.ne h.rQ)
    have e : (fun x => if x = z.nm LW.length then some ((cntF z.nm (z.nm LW.length) LW.length 0 : Nat) + 1 : Int) else optI (cntF z.nm x LW.length 0)) = fun x => optI (cntF z.nm x (LW.length + 1) 0) := by
      funext x
      rw [cntF_snoc, Nat.zero_add]
      by_cases e : x = z.nm LW.length
      · subst e
        rw [if_pos rfl, if_pos rfl]
        unfold optI
        rw [if_neg (by omega)]
        simp
      · rw [if_neg e, if_neg (fun e' => e e'.symm), Nat.add_zero]
    rw [e] at a2
    exact a2
  · have a1 : Row V z.La 75 cl := rl.only vo (by simp)
    have a2 := a1.set LW.length (ptrTo t.b)
    have a3 := a2.only o2 (by simpa using (h.mw.ne rl).symm)
    have a4 := a3.only o3 (by simpa using (hmq.ne rl).symm)
    have a5 := a4.only o4 (nown rl (by decide))
    refine ⟨_, a5.only o5 (by simpa using rl.ne h.rQ (by decide)), by simpa using hls, ?_⟩
    intro i hi
    rw [List.length_append, List.length_singleton] at hi
    by_cases e : i < LW.length
    · rw [Array.getElem?_setIfInBounds_ne (by omega), hlv i e]
      congr 2
      rw [List.getElem_append_left e]
    · have e : i = LW.length := by omega
      subst e
      rw [Array.getElem?_setIfInBounds_self_of_lt (by omega)]
      simp
/-- One turn of the making of the retrying, whole. -/
theorem RL.round {V wr : World} {B Ra n : Nat} {RW : List Wt} (h : RL V wr B Ra n RW) (hlt : RW.length < n) (x : Bool) :
    RL V ((((wr.setCell ⟨Ra, RW.length, none⟩ (ptrTo (wr.heap.size + 1))).alloc (.chan 1 #[] false 0 0 false)).alloc (.cells (wtRow wr.heap.size x false) 80)).drew) B Ra n (RW ++ [⟨wr.heap.size + 1, wr.heap.size, x⟩]) := by
  obtain ⟨cr, rr, hrs, hrv⟩ := h.ra
  refine h.next ((((Only.refl _ _).setCell (by simp) _).alloc _).alloc _).drew ⟨(row_new _ _ _ _ (by simp)).drew, ?_⟩ (by simp) (Nat.le_refl _) ⟨_, (((rr.set RW.length _).alloc _).alloc _).drew, by simpa using hrs, ?_⟩
  · show _ = some (chanV B false)
    have := obj_alloc (o' := .cells (wtRow wr.heap.size x false) 80) (obj_new (wr.setCell ⟨Ra, RW.length, none⟩ (ptrTo (wr.heap.size + 1))) (.chan 1 #[] false 0 0 false) wr.heap.size (by simp))
    exact this
  · intro i hi
    rw [List.length_append, List.length_singleton] at hi
    by_cases e : i < RW.length
    · rw [Array.getElem?_setIfInBounds_ne (by omega), hrv i e]
      congr 2
      rw [List.getElem_append_left e]
    · have e : i = RW.length := by omega
      subst e
      rw [Array.getElem?_setIfInBounds_self_of_lt (by omega)]
      simp
/-- copy of a row of pointers. -/
theorem copy_ptrs {V3 : World} {g Ra n : Nat} {RW : List Wt} {cur : Array Value} (rg : Row V3 g 75 cur) (hcs : cur.size = n) (hn : RW.length = n) (ra : ∃ cs, Row V3 Ra 75 cs ∧ cs.size = n ∧ ∀ i (h : i < RW.length), cs[i]? = some (ptrTo RW[i].b)) :
    ∃ V4, (∀ ty, (Builtin.copy_ #[65, 65] ty #[.slice (some ⟨g, 0, none⟩) n n, .slice (some ⟨Ra, 0, none⟩) n n]).run Yba.prog V3 = .ok (.int .i64 n) V4) ∧ Only [g] V3 V4 ∧ ∃ cs, Row V4 g 75 cs ∧ cs.size = n ∧ ∀ i (h : i < RW.length), cs[i]? = some (ptrTo RW[i].b) := by
  obtain ⟨cr, rr, hrs, hrv⟩ := ra
  obtain ⟨i75, hi75, hz75, hs75, hb75⟩ := info_parts Yba.info75
  have hl : (RW.map (fun t => ptrTo t.b)).length = n := by simpa using hn
  refine ⟨V3.setRow g (cur.toList.take 0 ++ RW.map (fun t => ptrTo t.b) ++ cur.toList.drop (0 + (RW.map (fun t => ptrTo t.b)).length)).toArray, fun ty => ?_, (Only.refl _ _).setRow (by simp) _, _, rg.setRow _, ?_, ?_⟩
  · have h := run_copy_row (P := Yba.prog) V3 65 65 ty 75 g 0 n n ⟨Ra, 0, none⟩ n n cur 75 (RW.map (fun t => ptrTo t.b)) Yba.underlying65 (by rw [hi75]; simp [hs75]) rg (by rw [hl]; simp) ?_ (by rw [hl]; omega) ?_
    · rw [h, hl]; rfl
    · intro j v hj
      have ha : (⟨Ra, 0, none⟩ : Addr).add j = ⟨Ra, j, none⟩ := by unfold Addr.add; split <;> simp_all
      rw [ha, rr.cell]
      rw [List.getElem?_map] at hj
      obtain ⟨t, ht, rfl⟩ := Option.map_eq_some_iff.1 hj
      obtain ⟨hlt, e⟩ := List.getElem?_eq_some_iff.1 ht
      rw [hrv j hlt, e]
    · intro v hv
      obtain ⟨t, _, rfl⟩ := List.mem_map.1 hv
      rfl
  · simp [hn, hcs]
  · intro i hi
    have : cur.toList.drop (0 + (RW.map (fun t => ptrTo t.b)).length) = [] := List.drop_eq_nil_of_le (by simp; omega)
    rw [this]
    simp [hi]
/-- passOver, called on what was laid. -/
theorem Laid.go {w V1 V2 W : World} {z : Bk} {S Bb Brt Ra n : Nat} {RW LW : List Wt} {qv : Value} (h : Laid w V1 V2 W z S Bb Brt Ra n RW LW qv) (h5 : n ≤ 1024) (h6 : z.n6 ≤ 1024) (w0 : 0 ≤ z.wl) (w1 : z.wl < 1000000000) (s0 : 0 ≤ z.sl) (s1 : z.sl < 8) (i0 : 0 ≤ z.inf0) (i1 : z.inf0 < 8) (t0 : 0 ≤ z.t0) (t1 : z.t0 < 4) (r0 : 0 ≤ z.tr) (r1 : z.tr < 3)
    (e0 : -100000000000 ≤ z.ex) (e1 : z.ex ≤ 100000000000) :
    Calls Yba.prog 11 #[ptrTo S, ptrTo z.B] W fun e w' => e = .returned (.tuple #[]) ∧ ∃ (c : Cst) (k : Nat), (z.B = c.B ∧ S = c.S ∧ z.C = c.C ∧ z.Q = c.Qn ∧ z.Mw = c.Mw ∧ z.Mq = c.Mq ∧ z.wl = c.wl ∧ z.ex = c.ex ∧ z.sl = c.sl ∧ RW = c.RW ∧ LW = c.LW ∧ z.nm = c.nm ∧ c.ex2 = c.ex + 5 ∧ addX c.wl c.ex 5000000000 = c.ex + 5) ∧
      (k ≤ c.LW.length ∧ (∀ j, j < k → infAt c.sl (infAt c.sl z.inf0 c.rl n) c.llf j < c.sl) ∧ (k = c.LW.length ∨ ¬ infAt c.sl (infAt c.sl z.inf0 c.rl n) c.llf k < c.sl)) ∧
      AF w w' c z.Bt z.N z.La Ra Brt n k (keptAt c.sl z.inf0 c.rl n) (infAt c.sl (infAt c.sl z.inf0 c.rl n) c.llf k) (z.t0 + (infAt c.sl (infAt c.sl z.inf0 c.rl n) c.llf k - z.inf0)) z.wk (gvAt c.sl z.inf0 c.rl n) (gvAt c.sl (infAt c.sl z.inf0 c.rl n) c.llf k) 0 0 := by
  obtain ⟨qa, qcap, Bq, hqv, hqc, hp⟩ := own_parts h.bw.ow
  have ok := h.ok (qa := qa) (qcap := qcap) (Bq := Bq) hqc h5 h6 w0 w1 s0 (by omega)
  have pre := h.pre (qa := qa) (qcap := qcap) (Bq := Bq) hqv hp
  have hx := addX_five w0 w1 e0 e1
  refine (passOver_g W (mkC z S Bb Brt qa qcap Bq RW LW) ok Brt n z.inf0 z.t0 z.wk z.tr pre h.hn.symm (by simp [mkC]) ?_ hx i0 (by omega) t0 (by omega) r0 (by omega)).mono ?_
  · intro j hj
    obtain ⟨a1, a2, a3⟩ := h.wr (j := j) hj
    refine ⟨a1, fun cs r => ?_⟩
    rcases a3 31 cs r with e | e | e | e | e | e
    · cases e
    · cases e
    · cases e
    · cases e
    · obtain ⟨ct, rt, _⟩ := h.rT
      rw [e] at r
      exact absurd rfl (r.ne rt (by decide))
    · cases e
  · rintro e w' ⟨rfl, lg, hlg, k, hd⟩
    exact ⟨rfl, (mkC z S Bb Brt qa qcap Bq RW LW).log lg, k, ⟨rfl, rfl, rfl, rfl, rfl, rfl, rfl, rfl, rfl, rfl, rfl, rfl, rfl, hx⟩, ⟨hd.hk, hd.all, hd.stop⟩, h.passed ok hlg hd _ rfl⟩
theorem owns_len {w : World} {e : TypeId} {size n : Nat} {v : Value} {xs : List Value} (h : w.ownsRow 0 e size v n xs) : ∃ ad cap, v = .slice ad n cap := by
  rcases h.2 with ⟨rfl, rfl⟩ | ⟨g, cap, cur, rfl, _⟩
  · exact ⟨none, 0, rfl⟩
  · exact ⟨_, cap, rfl⟩
/-! ### The counts -/
abbrev expRow (nm : Nat → Fin 3) (k i : Nat) : Array Value := #[.int .i64 ((cntF nm 0 (i - k) k : Nat) : Int), .int .i64 ((cntF nm 1 (i - k) k : Nat) : Int), .int .i64 ((cntF nm 2 (i - k) k : Nat) : Int)]
theorem expRow_at (nm : Nat → Fin 3) (k i : Nat) (x : Fin 3) : (expRow nm k i)[x.val]? = some (.int .i64 ((cntF nm x (i - k) k : Nat) : Int)) := by
  obtain ⟨x, hx⟩ := x
  have : x = 0 ∨ x = 1 ∨ x = 2 := by omega
  rcases this with rfl | rfl | rfl <;> rfl
theorem cnt_next (nm : Nat → Fin 3) (x : Fin 3) {k i : Nat} (h : k ≤ i) : cntF nm x (i + 1 - k) k = cntF nm x (i - k) k + (if nm i = x then 1 else 0) := by
  rw [show i + 1 - k = (i - k) + 1 by omega, cntF_snoc, show k + (i - k) = i by omega]
theorem expRow_next (nm : Nat → Fin 3) {k i : Nat} (h : k ≤ i) : (expRow nm k i).setIfInBounds (nm i).val (.int .i64 (((cntF nm (nm i) (i - k) k : Nat) : Int) + 1)) = expRow nm k (i + 1) := by
  unfold expRow
  rw [cnt_next nm 0 h, cnt_next nm 1 h, cnt_next nm 2 h]
  generalize nm i = y
  obtain ⟨y, hy⟩ := y
  have : y = 0 ∨ y = 1 ∨ y = 2 := by omega
  rcases this with rfl | rfl | rfl <;> simp
theorem expRow_wait (nm : Nat → Fin 3) {k i : Nat} (h : i < k) : expRow nm k (i + 1) = expRow nm k i := by
  unfold expRow
  rw [show i + 1 - k = 0 by omega, show i - k = 0 by omega]
theorem expRow_zero (nm : Nat → Fin 3) (k : Nat) : expRow nm k 0 = #[.int .i64 0, .int .i64 0, .int .i64 0] := by
  unfold expRow
  simp [cntF]
/-! ### The law's own count of the retrying -/
structure L3 (V W : World) (Gr n : Nat) (sl inf0 : Int) (lf : Nat → Bool) (RW : List Wt) (j : Nat) (v : Value) : Prop where
  below : Below V.heap.size V W
  gr : ∃ cs, Row W Gr 4 cs ∧ cs.size = n ∧ ∀ i, i < n → cs[i]? = some (.bool (decide (i < j) && decide (infAt sl inf0 lf i < sl)))
  ow : W.ownsRow 0 75 1 v (keptAt sl inf0 lf j) (((RW.take j).drop (j - keptAt sl inf0 lf j)).map (fun t => ptrTo t.b))
  grl : V.heap.size ≤ Gr
  vl : ∀ g, v.ownBlock = some g → V.heap.size ≤ g
section
variable {V W W' : World} {Gr n : Nat} {sl inf0 : Int} {lf : Nat → Bool} {RW : List Wt} {j : Nat} {v v' : Value}
theorem L3.start {cs : Array Value} (hb : Below V.heap.size V W) (r : Row W Gr 4 cs) (hs : cs.size = n) (hc : ∀ i, i < n → cs[i]? = some (.bool false)) (hg : V.heap.size ≤ Gr) : L3 V W Gr n sl inf0 lf RW 0 (.slice none 0 0) :=
  ⟨hb, ⟨cs, r, hs, fun i hi => by rw [hc i hi]; simp⟩, World.ownsRow_nil _ _ _ _, hg, by simp [Value.ownBlock]⟩
theorem L3.ext (h : L3 V W Gr n sl inf0 lf RW j v) (hb : Below W.heap.size W W') : L3 V W' Gr n sl inf0 lf RW j v := by
  have ho : Only [] W W' := Only.ofBelow hb
  obtain ⟨cs, r, hs, hc⟩ := h.gr
  exact ⟨h.below.trans (hb.mono h.below.size), ⟨cs, r.only ho (by simp), hs, hc⟩, owns_only h.ow ho (by simp), h.grl, h.vl⟩
/-- One is served. -/
theorem L3.give (h : L3 V W Gr n sl inf0 lf RW j v) (hj : infAt sl inf0 lf j < sl) (hn : j < n) (hl : n = RW.length) : L3 V (W.setCell ⟨Gr, j, none⟩ (.bool true)) Gr n sl inf0 lf RW (j + 1) v := by
  obtain ⟨cs, r, hs, hc⟩ := h.gr
  have ho : Only [Gr] W (W.setCell ⟨Gr, j, none⟩ (.bool true)) := (Only.refl _ _).setCell (by simp) _
  have hk := kept_zero j hj
  have hk' : keptAt sl inf0 lf (j + 1) = 0 := by
    unfold keptAt
    rw [if_pos hj]; exact hk
  have how := owns_only h.ow ho (fun k hk => by
    obtain ⟨c2, r2⟩ := own_row h.ow hk
    simpa using r2.ne r (by decide))
  refine ⟨h.below.trans (ho.below h.below.size (by simpa using h.grl)), ⟨_, r.set j _, by simpa using hs, ?_⟩, ?_, h.grl, h.vl⟩
  · intro i hi
    by_cases e : i = j
    · subst e
      rw [Array.getElem?_setIfInBounds_self_of_lt (by omega)]
      simp [hj]
    · rw [Array.getElem?_setIfInBounds_ne (fun e' => e e'.symm), hc i hi]
      have : (i < j + 1) ↔ (i < j) := by omega
      simp [this]
  · rw [hk']
    rw [hk] at how
    simpa using how
/-- One is kept. -/
theorem L3.keep (h : L3 V W Gr n sl inf0 lf RW j v) (hj : ¬ infAt sl inf0 lf j < sl) (hn : j < RW.length) (ho : Only v.ownBlock.toList W W') (ow : W'.ownsRow 0 75 1 v' (keptAt sl inf0 lf j + 1) (((RW.take j).drop (j - keptAt sl inf0 lf j)).map (fun t => ptrTo t.b) ++ [ptrTo RW[j].b])) (hv : ∀ k, v'.ownBlock = some k → v.ownBlock = some k ∨ W.heap.size ≤ k) : L3 V W' Gr n sl inf0 lf RW (j + 1) v' := by
  obtain ⟨cs, r, hs, hc⟩ := h.gr
  have hk' : keptAt sl inf0 lf (j + 1) = keptAt sl inf0 lf j + 1 := by
    rw [keptAt, if_neg hj]
  have hkl : keptAt sl inf0 lf j ≤ j := kept_le j
  refine ⟨h.below.trans (ho.below h.below.size (fun k hk => h.vl k (mem_own hk))), ⟨cs, r.only ho ?_, hs, ?_⟩, ?_, h.grl, ?_⟩
  · intro hm
    obtain ⟨c2, r2⟩ := own_row h.ow (mem_own hm)
    exact absurd rfl (r.ne r2 (by decide))
  · intro i hi
    rw [hc i hi]
    by_cases e : i = j
    · subst e; simp [hj]
    · have : (i < j + 1) ↔ (i < j) := by omega
      simp [this]
  · rw [hk', show j + 1 - (keptAt sl inf0 lf j + 1) = j - keptAt sl inf0 lf j by omega, List.take_succ_eq_append_getElem hn, List.drop_append_of_le_length (by simp; omega), List.map_append]
    exact ow
  · intro g hg
    have := h.below.size
    rcases hv g hg with e | e
    · exact h.vl g e
    · omega
end
/-- WHAT THE LAW CHECKS AGAINST. -/
structure AG (w W : World) (c : Cst) (Bt N La Ra Brt n k kp : Nat) (inf try_ : Int) (wk : Bool) (rg lg : Nat → Bool) (a b Gr : Nat) (v : Value) (inf0 : Int) : Prop where
  af : AF w W c Bt N La Ra Brt n k kp inf try_ wk rg lg a b
  gr : ∃ cs, Row W Gr 4 cs ∧ ∀ i, i < n → cs[i]? = some (.bool (decide (infAt c.sl inf0 c.rl i < c.sl)))
  ow : W.ownsRow 0 75 1 v kp ((c.RW.drop (n - kp)).map (fun t => ptrTo t.b))
section
variable {w V W W' : World} {c : Cst} {Bt N La Ra Brt n k kp : Nat} {inf try_ : Int} {wk : Bool} {rg lg : Nat → Bool} {a b Gr : Nat} {v : Value} {inf0 : Int}
theorem L3.done (h : L3 V W Gr n c.sl inf0 c.rl c.RW n v) (hn : n = c.RW.length) (af : AF w V c Bt N La Ra Brt n k (keptAt c.sl inf0 c.rl n) inf try_ wk rg lg a b) : AG w W c Bt N La Ra Brt n k (keptAt c.sl inf0 c.rl n) inf try_ wk rg lg a b Gr v inf0 := by
  obtain ⟨cs, r, hs, hc⟩ := h.gr
  refine ⟨af.ext h.below, ⟨cs, r, fun i hi => by rw [hc i hi]; simp [hi]⟩, ?_⟩
  have := h.ow
  rw [List.take_of_length_le (by omega)] at this
  exact this
theorem AG.ext (h : AG w W c Bt N La Ra Brt n k kp inf try_ wk rg lg a b Gr v inf0) (hb : Below W.heap.size W W') : AG w W' c Bt N La Ra Brt n k kp inf try_ wk rg lg a b Gr v inf0 := by
  have ho : Only [] W W' := Only.ofBelow hb
  obtain ⟨cs, r, hc⟩ := h.gr
  exact ⟨h.af.ext hb, ⟨cs, r.only ho (by simp), hc⟩, owns_only h.ow ho (by simp)⟩
theorem AG.frame {S : List Nat} {a' b' : Nat} (h : AG w W c Bt N La Ra Brt n k kp inf try_ wk rg lg a b Gr v inf0) (af : AF w W' c Bt N La Ra Brt n k kp inf try_ wk rg lg a' b') (ho : Only S W W') (key : ∀ {b : Nat} {ty : TypeId} {cs : Array Value}, ty ≠ 85 → Row W b ty cs → b ∉ S) : AG w W' c Bt N La Ra Brt n k kp inf try_ wk rg lg a' b' Gr v inf0 := by
  obtain ⟨cs, r, hc⟩ := h.gr
  exact ⟨af, ⟨cs, r.only ho (key (by decide) r), hc⟩, owns_only h.ow ho (fun k hk => by
    obtain ⟨c2, r2⟩ := own_row h.ow hk
    exact key (by decide) r2)⟩
theorem AG.heldR (h : AG w W c Bt N La Ra Brt n k kp inf try_ wk rg lg a b Gr v inf0) (ha : a < c.RW.length) (ho : Only [c.RW[a].c] W W') : AG w W' c Bt N La Ra Brt n k kp inf try_ wk rg lg (a + 1) b Gr v inf0 :=
  h.frame (h.af.heldR ha ho) ho (fun _ r => by simpa using ((h.af.rws a ha (Nat.le_refl _)).cne r).symm)
theorem AG.heldL (h : AG w W c Bt N La Ra Brt n k kp inf try_ wk rg lg a b Gr v inf0) (hb : b < c.LW.length) (ho : Only [c.LW[b].c] W W') : AG w W' c Bt N La Ra Brt n k kp inf try_ wk rg lg a (b + 1) Gr v inf0 :=
  h.frame (h.af.heldL hb ho) ho (fun _ r => by simpa using ((h.af.lws b hb (Nat.le_refl _)).cne r).symm)
end
/-- With the counts. -/
structure AH (w W : World) (c : Cst) (Bt N La Ra Brt n k kp : Nat) (inf try_ : Int) (wk : Bool) (rg lg : Nat → Bool) (b E : Nat) (cE : Array Value) : Prop where
  af : AF w W c Bt N La Ra Brt n k kp inf try_ wk rg lg n b
  rE : Row W E 85 cE
  lE : w.heap.size ≤ E
section
variable {w V W W' : World} {c : Cst} {Bt N La Ra Brt n k kp : Nat} {inf try_ : Int} {wk : Bool} {rg lg : Nat → Bool} {b E : Nat} {cE : Array Value}
theorem AH.ext (h : AH w W c Bt N La Ra Brt n k kp inf try_ wk rg lg b E cE) (hb : Below W.heap.size W W') : AH w W' c Bt N La Ra Brt n k kp inf try_ wk rg lg b E cE :=
  ⟨h.af.ext hb, h.rE.only (S := []) (Only.ofBelow hb) (by simp), h.lE⟩
theorem AH.heldL (h : AH w W c Bt N La Ra Brt n k kp inf try_ wk rg lg b E cE) (hb : b < c.LW.length) (ho : Only [c.LW[b].c] W W') : AH w W' c Bt N La Ra Brt n k kp inf try_ wk rg lg (b + 1) E cE :=
  ⟨h.af.heldL hb ho, h.rE.only ho (by simpa using ((h.af.lws b hb (Nat.le_refl _)).cne h.rE).symm), h.lE⟩
theorem AH.count (h : AH w W c Bt N La Ra Brt n k kp inf try_ wk rg lg b E cE) (i : Nat) (u : Value) : AH w (W.setCell ⟨E, i, none⟩ u) c Bt N La Ra Brt n k kp inf try_ wk rg lg b E (cE.setIfInBounds i u) :=
  ⟨h.af.offE h.rE h.lE ((Only.refl _ _).setCell (by simp) _), h.rE.set i u, h.lE⟩
end
/-- aheld, either way. -/
theorem held_any (B : Nat) (t : Wt) (g : Bool) (w : World) (h : WtIs w B t g) : Calls Yba.prog 14 #[ptrTo t.b, ptrTo B] w fun e w' => e = .returned (.bool g) ∧ Only [t.c] w w' := by
  cases g
  · refine (held_none t.b t.c B t.left false 0 0 w h.row ?_).mono ?_
    · simpa [chanV] using h.ch
    · rintro e w' ⟨rfl, rfl⟩
      exact ⟨rfl, Only.refl _ _⟩
  · refine (held_one t.b t.c B t.left true w h.row ?_).mono ?_
    · simpa [chanV] using h.ch
    · rintro e w' ⟨rfl, rfl⟩
      exact ⟨rfl, only_setChan _ _ _ _ _ _ _ _⟩
end Go.Proofs.Ybulkhba
