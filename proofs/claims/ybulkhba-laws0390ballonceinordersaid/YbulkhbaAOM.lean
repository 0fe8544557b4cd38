import Derived.Test.YbulkhbaDI
import Derived.Test.YbulkhbaNewG
import Derived.Test.YbulkhbaPlain2
import Derived.Laws.StructEq
namespace Go.Proofs.Ybulkhba
open Go.RowKit
set_option linter.unusedVariables false
set_option linter.unusedSimpArgs false

theorem Yba.info4 : (Yba.prog.info? 4).map (fun i => (i.zero, i.size, i.bytes)) = some (some (.bool false), 1, 1) := by kernel_rfl
theorem Yba.st83 : Yba.prog.underlying 83 = some (.struct (Yba.prog.fieldsOf 83)) := by kernel_rfl
theorem Yba.in83 : Yba.prog.stoodInHeld 83 = false := by kernel_rfl
theorem Yba.gu83 : Yba.prog.eqGuardType Yba.prog.depth 83 = false := by kernel_rfl
theorem Yba.fs83 : (Yba.prog.fieldsOf 83).toList.map (fun f => (f.name, f.type, f.offset)) = [("ID", 3, 0), ("Tenant", 9, 1), ("Tokens", 2, 2), ("Priority", 2, 3), ("Deadline", 31, 4), ("HasDeadline", 4, 5)] := by kernel_rfl

theorem list6 {α : Type} : ∀ (l : List α), l.length = 6 → ∃ a b c d e f, l = [a, b, c, d, e, f]
  | [a, b, c, d, e, f], _ => ⟨a, b, c, d, e, f, rfl⟩
theorem beq_bytes_self (a : ByteArray) : (a.toList == a.toList) = true := by simp
theorem eqFields_same (r : Req) (w : World) : (Op.eqFields 9999 r.vs r.vs (Yba.prog.fieldsOf 83).toList).run Yba.prog w = .ok true w := by
  have h := Yba.fs83
  generalize (Yba.prog.fieldsOf 83).toList = fs at h
  obtain ⟨f0, f1, f2, f3, f4, f5, rfl⟩ := list6 fs (by simpa using congrArg List.length h)
  simp only [List.map_cons, List.map_nil, List.cons.injEq, Prod.mk.injEq, and_true] at h
  obtain ⟨⟨a0, b0, c0⟩, ⟨a1, b1, c1⟩, ⟨a2, b2, c2⟩, ⟨a3, b3, c3⟩, ⟨a4, b4, c4⟩, ⟨a5, b5, c5⟩⟩ := h
  have u3 : Yba.prog.underlying 3 = some (.int .i64) := by kernel_rfl
  have u9 : Yba.prog.underlying 9 = some .string := by kernel_rfl
  have u2 : Yba.prog.underlying 2 = some (.int .i64) := by kernel_rfl
  have u31 : Yba.prog.underlying 31 = some (.int .i64) := by kernel_rfl
  have u4 : Yba.prog.underlying 4 = some .bool := by kernel_rfl
  simp [Op.eqFields, a0, b0, c0, a1, b1, c1, a2, b2, c2, a3, b3, c3, a4, b4, c4, a5, b5, c5, go_sem, u3, u9, u2, u31, u4]
theorem neq_same (r : Req) (w : World) : (binOp .neq 83 (.agg r.vs) (.agg r.vs)).run Yba.prog w = .ok (.bool false) w := by
  rw [run_neq_struct, run_equalIn_struct w 9999 83 _ _ Yba.st83 Yba.in83, eqFields_same]
  rfl
theorem eql_same (r : Req) (w : World) : (binOp .eql 83 (.agg r.vs) (.agg r.vs)).run Yba.prog w = .ok (.bool true) w := by
  rw [run_eql_struct, run_equalIn_struct w 9999 83 _ _ Yba.st83 Yba.in83, eqFields_same]
  rfl
theorem guard83 (op : BinOp) (x y : Operand) (xs ys : Array Value) (w : World) : (eqGuard op 83 x y (.agg xs) (.agg ys)).run Yba.prog w = .ok () w := run_eqGuard_agg w op 83 x y xs ys Yba.gu83

/-! ### LAYING THE REQUESTS -/
structure AB (w W : World) (z0 z1 z2 : Int) (n : Nat) (rs : List Req) (ks : List Int) : Prop where
  below : Below w.heap.size w W
  qz : Row W w.heap.size 91 #[.int .u8 z0, .int .u8 z1, .int .u8 z2]
  rs : ∃ cs, Row W (w.heap.size + 1) 83 cs ∧ cs.size = n * 6 ∧ ∀ i (h : i < rs.length) c, c < 6 → cs[i * 6 + c]? = rs[i].vs[c]?
  ks : ∃ cs, Row W (w.heap.size + 1 + 1) 3 cs ∧ cs.size = n ∧ ∀ i (h : i < ks.length), cs[i]? = some (.int .i64 ks[i])
section
variable {w W W' : World} {z0 z1 z2 : Int} {n : Nat} {rs : List Req} {ks : List Int}
theorem AB.size (h : AB w W z0 z1 z2 n rs ks) : w.heap.size + 3 ≤ W.heap.size := by
  obtain ⟨cs, r, _⟩ := h.ks
  have := r.lt
  omega
theorem AB.only {S : List Nat} (h : AB w W z0 z1 z2 n rs ks) (ho : Only S W W') (hS : ∀ k ∈ S, w.heap.size + 3 ≤ k) : AB w W' z0 z1 z2 n rs ks := by
  obtain ⟨c1, a1, a2, a3⟩ := h.rs
  obtain ⟨c2, b1, b2, b3⟩ := h.ks
  have nS : ∀ b, b < w.heap.size + 3 → b ∉ S := fun b hb hm => by have := hS b hm; omega
  exact ⟨h.below.trans (ho.below h.below.size (fun k hk => by have := hS k hk; omega)), h.qz.only ho (nS _ (by omega)), ⟨c1, a1.only ho (nS _ (by omega)), a2, a3⟩, ⟨c2, b1.only ho (nS _ (by omega)), b2, b3⟩⟩
theorem AB.kinds (h : AB w W z0 z1 z2 n rs ks) (j : Nat) (hj : j = ks.length) (hn : j < n) (k : Int) : AB w (W.setCell ⟨w.heap.size + 1 + 1, j, none⟩ (.int .i64 k)) z0 z1 z2 n rs (ks ++ [k]) := by
  have ho : Only [w.heap.size + 1 + 1] W (W.setCell ⟨w.heap.size + 1 + 1, j, none⟩ (.int .i64 k)) := (Only.refl _ _).setCell (by simp) _
  obtain ⟨c1, a1, a2, a3⟩ := h.rs
  obtain ⟨c2, b1, b2, b3⟩ := h.ks
  refine ⟨h.below.trans (ho.below h.below.size (by simp; omega)), h.qz.only ho (by simp; omega), ⟨c1, a1.only ho (by simp), a2, a3⟩, ⟨_, b1.set j _, by simpa using b2, ?_⟩⟩
  intro i hi
  rw [List.length_append, List.length_singleton] at hi
  rcases Nat.lt_or_ge i j with h1 | h1
  · rw [Array.getElem?_setIfInBounds_ne (by omega), b3 i (by omega), List.getElem_append_left (by omega)]
  · have e : i = j := by omega
    subst e
    rw [Array.getElem?_setIfInBounds_self_of_lt (by omega)]
    simp [hj]
theorem AB.req (h : AB w W z0 z1 z2 n rs ks) (j : Nat) (hj : j = rs.length) (hn : j < n) (r : Req)
    (hW : W' = ((((((W.setCell ⟨w.heap.size + 1, j * 6, none⟩ (.int .i64 r.id)).setCell ⟨w.heap.size + 1, j * 6 + 1, none⟩ (.string r.tn)).setCell ⟨w.heap.size + 1, j * 6 + 2, none⟩ (.int .i64 r.tk)).setCell ⟨w.heap.size + 1, j * 6 + 3, none⟩ (.int .i64 r.pr)).setCell ⟨w.heap.size + 1, j * 6 + 4, none⟩ (.int .i64 r.dl)).setCell ⟨w.heap.size + 1, j * 6 + 5, none⟩ (.bool r.hd))) :
    AB w W' z0 z1 z2 n (rs ++ [r]) ks := by
  have ho : Only [w.heap.size + 1] W W' := by
    rw [hW]
    exact ((((((Only.refl _ _).setCell (by simp) _).setCell (by simp) _).setCell (by simp) _).setCell (by simp) _).setCell (by simp) _).setCell (by simp) _
  obtain ⟨c1, a1, a2, a3⟩ := h.rs
  obtain ⟨c2, b1, b2, b3⟩ := h.ks
  obtain ⟨cs', g1, g2, g3, g4⟩ := row6 a1 a2 hn (.int .i64 r.id) (.string r.tn) (.int .i64 r.tk) (.int .i64 r.pr) (.int .i64 r.dl) (.bool r.hd)
  rw [← hW] at g1
  refine ⟨h.below.trans (ho.below h.below.size (by simp)), h.qz.only ho (by simp), ⟨cs', g1, g2, ?_⟩, ⟨c2, b1.only ho (by simp), b2, b3⟩⟩
  intro i hi c hc
  rw [List.length_append, List.length_singleton] at hi
  by_cases e : i = j
  · subst e
    rw [g4 c hc]
    simp [hj]
  · rw [g3 i c hc e, a3 i (by omega) c hc, List.getElem_append_left (by omega)]
end
/-- The request in hand, in its own variable. -/
structure RV (w V : World) (B : Nat) (z0 z1 z2 : Int) (n : Nat) (rs : List Req) (ks : List Int) (j : Nat) (nm : ByteArray) (tk pr dl : Int) (hd : Bool) : Prop where
  ab : AB w V z0 z1 z2 n rs ks
  big : w.heap.size + 3 ≤ B
  row : Row V B 83 #[.int .i64 j, .string nm, .int .i64 tk, .int .i64 pr, .int .i64 dl, .bool hd]
section
variable {w V : World} {B : Nat} {z0 z1 z2 : Int} {n : Nat} {rs : List Req} {ks : List Int} {j : Nat} {nm : ByteArray} {tk pr dl : Int} {hd : Bool}
theorem RV.set2 (h : RV w V B z0 z1 z2 n rs ks j nm tk pr dl hd) (v : Int) : RV w (V.setCell ⟨B, 2, none⟩ (.int .i64 v)) B z0 z1 z2 n rs ks j nm v pr dl hd :=
  ⟨h.ab.only ((Only.refl [B] _).setCell (by simp) _) (by simpa using h.big), h.big, by simpa using h.row.set 2 (.int .i64 v)⟩
theorem RV.set3 (h : RV w V B z0 z1 z2 n rs ks j nm tk pr dl hd) (v : Int) : RV w (V.setCell ⟨B, 3, none⟩ (.int .i64 v)) B z0 z1 z2 n rs ks j nm tk v dl hd :=
  ⟨h.ab.only ((Only.refl [B] _).setCell (by simp) _) (by simpa using h.big), h.big, by simpa using h.row.set 3 (.int .i64 v)⟩
theorem RV.set4 (h : RV w V B z0 z1 z2 n rs ks j nm tk pr dl hd) (v : Int) : RV w (V.setCell ⟨B, 4, none⟩ (.int .i64 v)) B z0 z1 z2 n rs ks j nm tk pr v hd :=
  ⟨h.ab.only ((Only.refl [B] _).setCell (by simp) _) (by simpa using h.big), h.big, by simpa using h.row.set 4 (.int .i64 v)⟩
theorem RV.set5 (h : RV w V B z0 z1 z2 n rs ks j nm tk pr dl hd) (v : Bool) : RV w (V.setCell ⟨B, 5, none⟩ (.bool v)) B z0 z1 z2 n rs ks j nm tk pr dl v :=
  ⟨h.ab.only ((Only.refl [B] _).setCell (by simp) _) (by simpa using h.big), h.big, by simpa using h.row.set 5 (.bool v)⟩
end

/-! ### DRAINING: what lies in memory -/
structure DM (w W : World) (Brs Bk Bs Bl Bh Q M R n : Nat) (rs : List Req) (ks : List Int) (sn : Nat → Bool) (lf : Nat → Int) (hf : Nat → Bool) (m : Int) (rv : Value) (rh : Nat) (it : Bool) (rot : List TG) (ents : List (ByteArray × Nat)) : Prop where
  below : Below w.heap.size w W
  rsA : ReqsAt W Brs rs
  ksA : IntsAt W Bk ks
  q : QG W Q M R m m rv rh it rot ents
  lo : ∀ k ∈ qBlocksG Q M R rv rot, w.heap.size ≤ k
  seen : ∃ cs, Row W Bs 4 cs ∧ cs.size = n ∧ ∀ i, i < n → cs[i]? = some (.bool (sn i))
  la : Row W Bl 96 #[.int .i64 (lf 0), .int .i64 (lf 1), .int .i64 (lf 2)]
  ha : Row W Bh 97 #[.bool (hf 0), .bool (hf 1), .bool (hf 2)]
  los : w.heap.size ≤ Bs ∧ w.heap.size ≤ Bl ∧ w.heap.size ≤ Bh
section
variable {w W W' : World} {Brs Bk Bs Bl Bh Q M R n : Nat} {rs : List Req} {ks : List Int} {sn : Nat → Bool} {lf : Nat → Int} {hf : Nat → Bool} {m : Int} {rv : Value} {rh : Nat} {it : Bool} {rot : List TG} {ents : List (ByteArray × Nat)}
theorem DM.ext (h : DM w W Brs Bk Bs Bl Bh Q M R n rs ks sn lf hf m rv rh it rot ents) (hb : Below W.heap.size W W') : DM w W' Brs Bk Bs Bl Bh Q M R n rs ks sn lf hf m rv rh it rot ents := by
  have ho : Only [] W W' := Only.ofBelow hb
  obtain ⟨cs, s1, s2, s3⟩ := h.seen
  exact ⟨h.below.trans (hb.mono h.below.size), h.rsA.only ho (by simp), h.ksA.only ho (by simp), h.q.ext hb, h.lo, ⟨cs, s1.only ho (by simp), s2, s3⟩, h.la.only ho (by simp), h.ha.only ho (by simp), h.los⟩
theorem DM.popped {m' : Int} {rv' : Value} {rh' : Nat} {it' : Bool} {rot' : List TG} {ents' : List (ByteArray × Nat)} (h : DM w W Brs Bk Bs Bl Bh Q M R n rs ks sn lf hf m rv rh it rot ents) (ho : Only (qBlocksG Q M R rv rot) W W') (hq : QG W' Q M R m' m' rv' rh' it' rot' ents')
    (hnew : ∀ k ∈ qBlocksG Q M R rv' rot', k ∈ qBlocksG Q M R rv rot ∨ W.heap.size ≤ k) : DM w W' Brs Bk Bs Bl Bh Q M R n rs ks sn lf hf m' rv' rh' it' rot' ents' := by
  obtain ⟨cs, s1, s2, s3⟩ := h.seen
  obtain ⟨c1, a1, a2⟩ := h.rsA
  obtain ⟨c2, b1, b2⟩ := h.ksA
  have nm : ∀ {b : Nat} {ty : TypeId} {cs : Array Value}, Row W b ty cs → ty ≠ 107 → ty ≠ 131 → ty ≠ 132 → ty ≠ 140 → ty ≠ 117 → b ∉ qBlocksG Q M R rv rot := fun r h1 h2 h3 h4 h5 => h.q.not_mine r h1 h2 h3 h4 h5
  refine ⟨h.below.trans (ho.below h.below.size h.lo), ⟨c1, a1.only ho (nm a1 (by decide) (by decide) (by decide) (by decide) (by decide)), a2⟩, ⟨c2, b1.only ho (nm b1 (by decide) (by decide) (by decide) (by decide) (by decide)), b2⟩, hq, fun k hk => ?_, ⟨cs, s1.only ho (nm s1 (by decide) (by decide) (by decide) (by decide) (by decide)), s2, s3⟩, h.la.only ho (nm h.la (by decide) (by decide) (by decide) (by decide) (by decide)), h.ha.only ho (nm h.ha (by decide) (by decide) (by decide) (by decide) (by decide)), h.los⟩
  rcases hnew k hk with g | g
  · exact h.lo k g
  · have := h.below.size; omega
theorem DM.setSeen (h : DM w W Brs Bk Bs Bl Bh Q M R n rs ks sn lf hf m rv rh it rot ents) (i : Nat) (hi : i < n) : DM w (W.setCell ⟨Bs, i, none⟩ (.bool true)) Brs Bk Bs Bl Bh Q M R n rs ks (upd sn i true) lf hf m rv rh it rot ents := by
  obtain ⟨cs, s1, s2, s3⟩ := h.seen
  obtain ⟨c1, a1, a2⟩ := h.rsA
  obtain ⟨c2, b1, b2⟩ := h.ksA
  have ho : Only [Bs] W (W.setCell ⟨Bs, i, none⟩ (.bool true)) := (Only.refl _ _).setCell (by simp) _
  refine ⟨h.below.trans (ho.below h.below.size (by simpa using h.los.1)), ⟨c1, a1.only ho (by simpa using a1.ne s1 (by decide)), a2⟩, ⟨c2, b1.only ho (by simpa using b1.ne s1 (by decide)), b2⟩, h.q.only ho (fun k hk => ?_), h.lo, ⟨_, s1.set i _, by simpa using s2, fun i' hi' => ?_⟩, h.la.only ho (by simpa using h.la.ne s1 (by decide)), h.ha.only ho (by simpa using h.ha.ne s1 (by decide)), h.los⟩
  · rw [List.mem_singleton]; rintro rfl
    exact h.q.not_mine s1 (by decide) (by decide) (by decide) (by decide) (by decide) hk
  · unfold upd
    by_cases e : i' = i
    · subst e; rw [Array.getElem?_setIfInBounds_self_of_lt (by omega), if_pos rfl]
    · rw [Array.getElem?_setIfInBounds_ne (by omega), if_neg e]; exact s3 i' hi'
theorem DM.setHas (h : DM w W Brs Bk Bs Bl Bh Q M R n rs ks sn lf hf m rv rh it rot ents) (k : Nat) (hk : k < 3) : DM w (W.setCell ⟨Bh, k, none⟩ (.bool true)) Brs Bk Bs Bl Bh Q M R n rs ks sn lf (upd hf k true) m rv rh it rot ents := by
  obtain ⟨cs, s1, s2, s3⟩ := h.seen
  obtain ⟨c1, a1, a2⟩ := h.rsA
  obtain ⟨c2, b1, b2⟩ := h.ksA
  have ho : Only [Bh] W (W.setCell ⟨Bh, k, none⟩ (.bool true)) := (Only.refl _ _).setCell (by simp) _
  refine ⟨h.below.trans (ho.below h.below.size (by simpa using h.los.2.2)), ⟨c1, a1.only ho (by simpa using a1.ne h.ha (by decide)), a2⟩, ⟨c2, b1.only ho (by simpa using b1.ne h.ha (by decide)), b2⟩, h.q.only ho (fun k hk => ?_), h.lo, ⟨cs, s1.only ho (by simpa using s1.ne h.ha (by decide)), s2, s3⟩, h.la.only ho (by simpa using h.la.ne h.ha (by decide)), ?_, h.los⟩
  · rw [List.mem_singleton]; rintro rfl
    exact h.q.not_mine h.ha (by decide) (by decide) (by decide) (by decide) (by decide) hk
  · have h7 := h.ha.set k (.bool true)
    have e : k = 0 ∨ k = 1 ∨ k = 2 := by omega
    rcases e with rfl | rfl | rfl <;> simpa [upd] using h7
theorem DM.setLast (h : DM w W Brs Bk Bs Bl Bh Q M R n rs ks sn lf hf m rv rh it rot ents) (k : Nat) (hk : k < 3) (v : Int) : DM w (W.setCell ⟨Bl, k, none⟩ (.int .i64 v)) Brs Bk Bs Bl Bh Q M R n rs ks sn (upd lf k v) hf m rv rh it rot ents := by
  obtain ⟨cs, s1, s2, s3⟩ := h.seen
  obtain ⟨c1, a1, a2⟩ := h.rsA
  obtain ⟨c2, b1, b2⟩ := h.ksA
  have ho : Only [Bl] W (W.setCell ⟨Bl, k, none⟩ (.int .i64 v)) := (Only.refl _ _).setCell (by simp) _
  refine ⟨h.below.trans (ho.below h.below.size (by simpa using h.los.2.1)), ⟨c1, a1.only ho (by simpa using a1.ne h.la (by decide)), a2⟩, ⟨c2, b1.only ho (by simpa using b1.ne h.la (by decide)), b2⟩, h.q.only ho (fun k hk => ?_), h.lo, ⟨cs, s1.only ho (by simpa using s1.ne h.la (by decide)), s2, s3⟩, ?_, h.ha.only ho (by simpa using h.ha.ne h.la (by decide)), h.los⟩
  · rw [List.mem_singleton]; rintro rfl
    exact h.q.not_mine h.la (by decide) (by decide) (by decide) (by decide) (by decide) hk
  · have h7 := h.la.set k (.int .i64 v)
    have e : k = 0 ∨ k = 1 ∨ k = 2 := by omega
    rcases e with rfl | rfl | rfl <;> simpa [upd] using h7
theorem ReqsAt.at (h : ReqsAt W Brs rs) (i : Nat) (hi : i < rs.length) (c : Nat) (hc : c < 6) : W.cell? ⟨Brs, i * 6 + c, none⟩ = rs[i].vs[c]? := by
  obtain ⟨cs, r, h2⟩ := h
  rw [r.cell]; exact h2 i hi c hc
theorem IntsAt.at (h : IntsAt W Bk ks) (i : Nat) (hi : i < ks.length) : W.cell? ⟨Bk, i, none⟩ = some (.int .i64 ks[i]) := by
  obtain ⟨cs, r, h2⟩ := h
  rw [r.cell]; exact h2 i hi
end
/-- The numbers that came in. -/
def RowIn (k : IntKind) (lo hi : Int) (w : World) (a : Option Addr) (len : Nat) : Prop :=
  ∀ j, j < len → ∃ x z, a = some x ∧ x.block < w.heap.size ∧ w.cell? (x.add j) = some (.int k z) ∧ lo ≤ z ∧ z ≤ hi
theorem RowIn.at {k : IntKind} {lo hi : Int} {w W : World} {a : Option Addr} {len : Nat} (h : RowIn k lo hi w a len) (hb : Below w.heap.size w W) {j : Nat} (hj : j < len) : ∃ x z, a = some x ∧ W.cell? (x.add j) = some (.int k z) ∧ lo ≤ z ∧ z ≤ hi := by
  obtain ⟨x, z, h1, h2, h3, h4⟩ := h j hj
  exact ⟨x, z, h1, (hb.cell (by unfold Addr.add; split <;> simpa using h2)).trans h3, h4⟩
/-- What the requests are. -/
def GoodR (K : List Nat) (rs : List Req) : Prop := ∀ i (h : i < rs.length), rs[i].id = i ∧ rs[i].tn = nameB (K.getD i 0) ∧ 0 ≤ rs[i].tk ∧ rs[i].tk ≤ 255
theorem GoodR.snoc {K : List Nat} {rs : List Req} (h : GoodR K rs) {r : Req} (h1 : r.id = rs.length) (h2 : r.tn = nameB (K.getD rs.length 0)) (h3 : 0 ≤ r.tk) (h4 : r.tk ≤ 255) : GoodR K (rs ++ [r]) := by
  intro i hi
  rw [List.length_append, List.length_singleton] at hi
  by_cases e : i < rs.length
  · rw [List.getElem_append_left e]; exact h i e
  · have e : i = rs.length := by omega
    subst e
    simp only [List.getElem_concat_length]
    exact ⟨h1, h2, h3, h4⟩
theorem GoodR.nodup {K : List Nat} {rs : List Req} (h : GoodR K rs) : rs.Nodup := by
  rw [List.nodup_iff_pairwise_ne, List.pairwise_iff_getElem]
  intro i j hi hj hij e
  have h1 := (h i hi).1
  have h2 := (h j hj).1
  rw [e, h2] at h1
  omega
/-- A request of the list, by its ID. -/
theorem GoodR.find {K : List Nat} {rs : List Req} (h : GoodR K rs) {r : Req} (hr : r ∈ rs) : ∃ i, ∃ hi : i < rs.length, r = rs[i] ∧ r.id = i ∧ r.tn = nameB (K.getD i 0) := by
  obtain ⟨i, hi, e⟩ := List.getElem_of_mem hr
  exact ⟨i, hi, e.symm, by rw [← e]; exact (h i hi).1, by rw [← e]; exact (h i hi).2.1⟩
end Go.Proofs.Ybulkhba
