import Derived.Test.YbulkhbaOrdPushS
namespace Go.Proofs.Ybulkhba
open Go.RowKit
set_option linter.unusedVariables false
set_option linter.unusedSimpArgs false

/-- A tenant's line: its block, its tail's slice and head, who waits, how many were pushed, its quantum and deficit, its name. -/
structure TS where
  b : Nat
  iv : Value
  hd : Nat
  A : List Arr
  n : Nat
  q : Int
  d : Int
  nm : ByteArray

def TS.ptr (t : TS) : Value := .pointer (some ⟨t.b, 0, none⟩)
def TS.fp (t : TS) : List Nat := t.b :: t.iv.ownBlock.toList
def TLine (w : World) (R : Nat) (t : TS) : Prop :=
  Row w t.b 140 #[.slice none 0 0, t.iv, .int .i64 t.hd, .int .u64 t.n, .pointer (some ⟨R, 0, none⟩), .int .i64 t.q, .int .i64 t.d] ∧ LineA w t.iv t.hd t.A ∧ t.iv.ownBlock ≠ some t.b

theorem TLine.only {S : List Nat} {w w' : World} {R : Nat} {t : TS} (h : TLine w R t) (ho : Only S w w') (hS : ∀ k ∈ t.fp, k ∉ S) : TLine w' R t :=
  ⟨h.1.only ho (hS _ (by simp [TS.fp])), h.2.1.only ho (fun k hk => hS k (by simp [TS.fp, hk])), h.2.2⟩
theorem TLine.lt {w : World} {R : Nat} {t : TS} (h : TLine w R t) : ∀ k ∈ t.fp, k < w.heap.size := by
  intro k hk
  simp only [TS.fp, List.mem_cons, Option.mem_toList] at hk
  rcases hk with rfl | hk
  · exact h.1.lt
  · exact h.2.1.lt k hk
theorem ptrs_oneCell (ts : List TS) : ∀ u ∈ ts.map TS.ptr, u.oneCell' = true := by
  intro u hu
  simp only [List.mem_map] at hu
  obtain ⟨t, _, rfl⟩ := hu
  rfl

set_option maxRecDepth 100000 in
set_option maxHeartbeats 800000 in
/-- (*rotation).endTurn -/
theorem endTurn_any (R rh : Nat) (rv : Value) (t : TS) (ts : List TS) (c0 c3 c4 : Value) (w : World)
    (r0 : Row w R 131 #[c0, rv, .int .i64 rh, c3, c4]) (hl : LineP w rv rh (t.ptr :: ts.map TS.ptr)) (hne : rv.ownBlock ≠ some R) (hts : ts.length ≤ 1000) :
    Calls Yba.prog 43 #[.pointer (some ⟨R, 0, none⟩)] w fun e w' => e = .returned (.tuple #[]) ∧ Only (R :: rv.ownBlock.toList) w w' ∧
      ∃ rv' rh', Row w' R 131 #[c0, rv', .int .i64 (rh' : Nat), .bool false, c4] ∧ LineP w' rv' rh' ((ts ++ [t]).map TS.ptr) ∧ rv'.ownBlock ≠ some R ∧ (∀ k, rv'.ownBlock = some k → rv.ownBlock = some k ∨ w.heap.size ≤ k) := by
  have hlt := r0.lt
  go_enter Yba.func43, Yba.ntmps43
  go_wp2_with fail
  refine (popP_line R rh rv (some ⟨t.b, 0, none⟩) (ts.map TS.ptr) c0 c3 c4 w r0 hl hne).mono ?_
  rintro e w1 ⟨rfl, ho1, rv1, rh1, r1, hl1, hob1⟩
  go_wp2_with fail
  refine (pushP_line R rh1 rv1 (some ⟨t.b, 0, none⟩) (ts.map TS.ptr) c0 c3 c4 w1 r1 hl1 (by rw [hob1]; exact hne) (by simp; omega) (ptrs_oneCell ts)).mono ?_
  rintro e w2 ⟨rfl, ho2, rv2, rh2, r2, hl2, hnew⟩
  have hsz := ho1.size
  have hne2 : rv2.ownBlock ≠ some R := by
    intro h
    rcases hnew R h with h' | h'
    · rw [hob1] at h'; exact hne h'
    · omega
  have HO := Hid.mk (show Only (R :: rv.ownBlock.toList) w w2 from ho1.trans (by rw [hob1] at ho2; exact ho2))
  have RES := Hid.mk (And.intro r2 hl2)
  have NEW := Hid.mk (show ∀ k, rv2.ownBlock = some k → rv.ownBlock = some k ∨ w.heap.size ≤ k from fun k hk => by
    rcases hnew k hk with h | h
    · rw [hob1] at h; exact .inl h
    · exact .inr (by omega))
  have f3 := r2.frozen 3
  have k3 := r2.cell 3
  simp at k3
  clear ho1 r1 hl1 hob1 ho2 r2 hl2 hnew hl r0
  go_wp2
  go_end0
  refine ⟨rfl, HO.out.setCell (by simp) _, rv2, rh2, by simpa using RES.out.1.set 3 (.bool false), ?_, hne2, NEW.out⟩
  have := RES.out.2.only (S := [R]) ((Only.refl _ _).setCell (p := ⟨R, 3, none⟩) (by simp) (.bool false)) (fun k hk => by simp; rintro rfl; exact hne2 hk)
  simpa [TS.ptr] using this

set_option maxHeartbeats 800000 in
/-- zzs0390bcost -/
theorem cost_any (r : Req) (w : World) : Calls Yba.prog 34 #[.agg r.vs] w fun e w' => e = .returned (.int .i64 r.tk) ∧ Below w.heap.size w w' := by
  go_enter Yba.func34, Yba.ntmps34
  go_wp2
  go_ret
  exact ⟨rfl, (Below.refl _ _).alloc (Nat.le_refl _) _⟩

set_option maxHeartbeats 800000 in
/-- (*fair).Len -/
theorem fairLen_any (Q : Nat) (n : Int) (w : World) (h : w.cell? ⟨Q, 6, none⟩ = some (.int .i64 n)) : Calls Yba.prog 19 #[.pointer (some ⟨Q, 0, none⟩)] w fun e w' => e = .returned (.int .i64 n) ∧ w' = w := by
  go_enter Yba.func19, Yba.ntmps19
  go_wp2
  go_ret
  exact ⟨rfl, rfl⟩
end Go.Proofs.Ybulkhba
