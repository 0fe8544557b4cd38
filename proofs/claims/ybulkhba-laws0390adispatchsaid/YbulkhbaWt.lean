import Derived.Test.YbulkhbaHd
import Derived.Test.YbulkhbaPlain
import Derived.Deep.RegionHeld3
namespace Go.Proofs.Ybulkhba
open Go.Conc Go.RowKit
set_option linter.unusedVariables false
set_option linter.unusedSimpArgs false

/-- A request that waits: its variable, its channel, whether its client has left. -/
structure Wt where
  b : Nat
  c : Nat
  left : Bool
def chanV (B : Nat) (g : Bool) : Obj := .chan 1 (if g then #[.pointer (some ⟨B, 0, none⟩)] else #[]) false (if g then 1 else 0) 0 false
/-- It waits; or it was given backend B. -/
structure WtIs (w : World) (B : Nat) (t : Wt) (g : Bool) : Prop where
  row : Row w t.b 80 (wtRow t.c t.left g)
  ch : w.heap[t.c]? = some (chanV B g)
section
variable {w w' : World} {B : Nat} {t s : Wt} {g g' : Bool}
theorem WtIs.only {S : List Nat} (h : WtIs w B t g) (ho : Only S w w') (hb : t.b ∉ S) (hc : t.c ∉ S) : WtIs w' B t g :=
  ⟨h.row.only ho hb, (ho.block t.c (Array.getElem?_eq_some_iff.1 h.ch).1 hc).trans h.ch⟩
theorem WtIs.clt (h : WtIs w B t g) : t.c < w.heap.size := (Array.getElem?_eq_some_iff.1 h.ch).1
theorem WtIs.cne (h : WtIs w B t g) {b : Nat} {ty : TypeId} {cs : Array Value} (r : Row w b ty cs) : t.c ≠ b := by
  rintro rfl
  have := h.ch
  rw [show w.heap[t.c]? = _ from r] at this
  simp [chanV] at this
theorem only_setChan (w : World) (c cap : Nat) (buf : Array Value) (cl : Bool) (s r : Nat) (tm : Bool) : Only [c] w (w.setChan c cap buf cl s r tm) :=
  ⟨rfl, rfl, rfl, by simp [World.setChan], fun k hk hn => by
    simp only [List.mem_singleton] at hn
    simp only [World.setChan]
    rw [Array.getElem?_setIfInBounds_ne (fun e => hn e.symm)]⟩
end
/-- give. -/
theorem give_any (B : Nat) (t : Wt) (sl inf try_ wl ex : Int) (wk : Bool) (w : World) (hw : WtIs w B t false) (rB : Row w B 39 (bkRow sl inf try_ wl ex wk 2)) (hi0 : 0 ≤ inf) (hi1 : inf ≤ 100000) (ht0 : 0 ≤ try_) (ht1 : try_ ≤ 100000) :
    Calls Yba.prog 50 #[.pointer (some ⟨t.b, 0, none⟩), .pointer (some ⟨B, 0, none⟩)] w fun e w' => e = .returned (.tuple #[]) ∧ Only [B, t.b, t.c] w w' ∧ WtIs w' B t (!t.left) ∧
      Row w' B 39 (bkRow sl (if t.left then inf else inf + 1) (if t.left then try_ else try_ + 1) wl ex wk 2) := by
  obtain ⟨b, c, l⟩ := t
  cases l with
  | true =>
    refine (give_left b c B false w hw.row).mono ?_
    rintro e w' ⟨rfl, rfl⟩
    exact ⟨rfl, Only.refl _ _, hw, rB⟩
  | false =>
    refine (give_sends b c B sl inf try_ wl ex wk w hw.row rB hw.ch hi0 hi1 ht0 ht1).mono ?_
    rintro e w' ⟨rfl, rfl⟩
    have hne : b ≠ B := hw.row.ne rB (by decide)
    have hcb : c ≠ b := hw.cne hw.row
    have hcB : c ≠ B := hw.cne rB
    obtain ⟨W, hW⟩ : ∃ W, W = ((w.setCell ⟨B, 2, none⟩ (.int .i64 (inf + 1))).setCell ⟨B, 3, none⟩ (.int .i64 (try_ + 1))).setCell ⟨b, 3, none⟩ (.bool true) := ⟨_, rfl⟩
    have o1 : Only [B, b, c] w W := by
      rw [hW]
      exact (((Only.refl _ _).setCell (by simp) _).setCell (by simp) _).setCell (by simp) _
    have hB : Row W B 39 (bkRow sl (inf + 1) (try_ + 1) wl ex wk 2) := by
      rw [hW]
      have h1 : Row ((w.setCell ⟨B, 2, none⟩ (.int .i64 (inf + 1))).setCell ⟨B, 3, none⟩ (.int .i64 (try_ + 1))) B 39 (bkRow sl (inf + 1) (try_ + 1) wl ex wk 2) := by simpa using (rB.set 2 (.int .i64 (inf + 1))).set 3 (.int .i64 (try_ + 1))
      exact h1.setOther (fun e => hne e.symm) _ _
    have hr : Row W b 80 (wtRow c false true) := by
      rw [hW]
      have h1 : Row ((w.setCell ⟨B, 2, none⟩ (.int .i64 (inf + 1))).setCell ⟨B, 3, none⟩ (.int .i64 (try_ + 1))) b 80 (wtRow c false false) := (hw.row.setOther hne _ _).setOther hne _ _
      simpa using h1.set 3 (.bool true)
    have hlt : c < W.heap.size := Nat.lt_of_lt_of_le hw.clt o1.size
    have o2 := only_setChan W c 1 #[.pointer (some ⟨B, 0, none⟩)] false 1 0 false
    rw [← hW]
    refine ⟨rfl, o1.trans (o2.mono (by simp)), ⟨hr.only o2 (by simpa using hcb.symm), ?_⟩, by simpa using hB.only o2 (by simpa using hcB.symm)⟩
    exact heap_setChan W c 1 _ false 1 0 false hlt
set_option maxRecDepth 100000 in
set_option maxHeartbeats 1600000 in
/-- (*zzs0390aq).Pop, something is left. -/
theorem aqPop_any (Qn Bq n cap k : Nat) (r : Req) (w : World) (rQ : Row w Qn 48 #[.slice (some ⟨Bq, 0, none⟩) n cap, .int .i64 k]) (hk : k < n) (hn : n ≤ 10000) (hc : n ≤ cap) (hq : ∀ c, c < 6 → w.cell? ⟨Bq, k * 6 + c, none⟩ = r.vs[c]?) :
    Calls Yba.prog 120 #[.pointer (some ⟨Qn, 0, none⟩)] w fun e w' => e = .returned (.tuple #[.agg r.vs, .bool true]) ∧ Only [Qn] w w' ∧ Row w' Qn 48 #[.slice (some ⟨Bq, 0, none⟩) n cap, .int .i64 ((k + 1 : Nat) : Int)] := by
  have c0 := rQ.cell 0
  have c1 := rQ.cell 1
  have f1 := rQ.frozen 1
  simp at c0 c1
  have lQ := rQ.lt
  have e0 := hq 0 (by decide)
  have e1 := hq 1 (by decide)
  have e2 := hq 2 (by decide)
  have e3 := hq 3 (by decide)
  have e4 := hq 4 (by decide)
  have e5 := hq 5 (by decide)
  simp only [Req.vs, Nat.add_zero] at e0 e1 e2 e3 e4 e5
  simp at e0 e1 e2 e3 e4 e5
  have lB : Bq < w.heap.size := World.block_lt_of_cell? w _ e0
  have h1 : ((k : Nat) : Int) < ((n : Nat) : Int) := by omega
  have h1' : ¬ ((n : Nat) : Int) ≤ ((k : Nat) : Int) := by omega
  have h2 : ((n : Nat) : Int) ≤ 10000 := by omega
  have HQ := Hid.mk rQ
  have HE := Hid.mk hq
  clear rQ hq
  go_enter Yba.func120, Yba.ntmps120
  go_wp2
  go_quiet (fail)
  go_wp2
  refine wp_world (fun V => Row V Qn 48 #[.slice (some ⟨Bq, 0, none⟩) n cap, .int .i64 k] ∧ (∀ c, c < 6 → V.cell? ⟨Bq, k * 6 + c, none⟩ = r.vs[c]?) ∧ Only [Qn] w V ∧ Row V w.heap.size 83 zeroReq) ?_ ?_
  · have hb : Below w.heap.size w ((w.alloc (.cells zeroReq 83)).drewN nq) := below_drewN ((Below.refl _ _).alloc (Nat.le_refl _) _) nq
    refine ⟨HQ.out.below hb HQ.out.lt, fun c hc => ?_, Only.ofBelow hb, (row_new _ _ _ _ rfl).drewN nq⟩
    have h9 : ((w.alloc (.cells zeroReq 83)).drewN nq).cell? ⟨Bq, k * 6 + c, none⟩ = w.cell? ⟨Bq, k * 6 + c, none⟩ := hb.cell lB
    exact h9.trans (HE.out c hc)
  obtain ⟨B0, hB0⟩ : ∃ B0, B0 = w.heap.size := ⟨_, rfl⟩
  have HB0 : Hid (w.heap.size ≤ B0) := by show _ ≤ _; omega
  rw [← hB0]
  clear hB0
  rintro V ⟨vQ, vE, vO, v0⟩
  have c0 := vQ.cell 0
  have c1 := vQ.cell 1
  simp at c0 c1
  have e0 := vE 0 (by decide)
  have e1 := vE 1 (by decide)
  have e2 := vE 2 (by decide)
  have e3 := vE 3 (by decide)
  have e4 := vE 4 (by decide)
  have e5 := vE 5 (by decide)
  simp only [Req.vs, Nat.add_zero] at e0 e1 e2 e3 e4 e5
  simp at e0 e1 e2 e3 e4 e5
  have hn1 : ¬ V.heap.size = Bq := fun e => by have := World.block_lt_of_cell? V _ e0; simp at this; omega
  have hn2 : ¬ V.heap.size = Qn := fun e => by have := vQ.lt; omega
  have HV := Hid.mk (And.intro vQ (And.intro vO v0))
  clear vQ vE vO v0
  go_region_held3 (fun w' => w'.cell? ⟨Qn, 0, none⟩ = some (.slice (some ⟨Bq, 0, none⟩) n cap) ∧ w'.cell? ⟨Qn, 1, none⟩ = some (.int .i64 k) ∧ w'.cell? ⟨Bq, k * 6, none⟩ = some (.int .i64 r.id) ∧ w'.cell? ⟨Bq, k * 6 + 1, none⟩ = some (.string r.tn) ∧ w'.cell? ⟨Bq, k * 6 + 2, none⟩ = some (.int .i64 r.tk) ∧ w'.cell? ⟨Bq, k * 6 + 3, none⟩ = some (.int .i64 r.pr) ∧ w'.cell? ⟨Bq, k * 6 + 4, none⟩ = some (.int .i64 r.dl) ∧ w'.cell? ⟨Bq, k * 6 + 5, none⟩ = some (.bool r.hd)) (go_keep)
    (first | fail)
  rename_i hS
  obtain ⟨V1, hV1⟩ : ∃ V1, V1 = (V.alloc (.cells r.vs 83)).drew := ⟨_, rfl⟩
  rw [← hV1]
  have hb1 : Below V.heap.size V V1 := by rw [hV1]; exact ((Below.refl _ _).alloc (Nat.le_refl _) _).drew
  have r9 : Row V1 V.heap.size 83 r.vs := by rw [hV1]; exact (row_new _ _ _ _ rfl).drew
  have rQ1 := HV.out.1.below hb1 HV.out.1.lt
  have r01 := HV.out.2.2.below hb1 HV.out.2.2.lt
  have HO : Hid (Only [Qn] w V1) := HV.out.2.1.trans (Only.ofBelow hb1)
  generalize V.heap.size = B9 at *
  have q1 := rQ1.cell 1
  have g1 := rQ1.frozen 1
  simp at q1
  have n9Q : ¬ B9 = Qn := r9.ne rQ1 (by decide)
  have n0Q : ¬ B0 = Qn := r01.ne rQ1 (by decide)
  have HR := Hid.mk (And.intro rQ1 (And.intro r01 r9))
  have z9 := fun i => r9.cell i
  have z0 := fun i => r01.cell i
  have f0 := fun i => r01.frozen i
  have hkk : ((k : Nat) : Int) + 1 = ((k + 1 : Nat) : Int) := by omega
  clear hS hV1 hb1 r9 rQ1 r01 HV c0 c1 e0 e1 e2 e3 e4 e5 hkk
  go_wp2
  have ho8 := (((((((Only.refl [Qn, B0] V1).setCell (p := ⟨Qn, 1, none⟩) (by simp) (.int .i64 ((k : Int) + 1))).setCell (p := ⟨B0, 0, none⟩) (by simp) (.int .i64 r.id)).setCell (p := ⟨B0, 1, none⟩) (by simp) (.string r.tn)).setCell (p := ⟨B0, 2, none⟩) (by simp) (.int .i64 r.tk)).setCell (p := ⟨B0, 3, none⟩) (by simp) (.int .i64 r.pr)).setCell (p := ⟨B0, 4, none⟩) (by simp) (.int .i64 r.dl)).setCell (p := ⟨B0, 5, none⟩) (by simp) (.bool r.hd)
  have hq8 : Row (V1.setCell ⟨Qn, 1, none⟩ (.int .i64 ((k : Int) + 1))) Qn 48 #[.slice (some ⟨Bq, 0, none⟩) n cap, .int .i64 ((k + 1 : Nat) : Int)] := by simpa using HR.out.1.set 1 (.int .i64 ((k : Int) + 1))
  refine bodyPost_ret (v := .tuple #[.agg r.vs, .bool true]) (by simp [results, Yba.results120, go_sem, z0]) rfl ⟨rfl, HO.out.then ho8 (by intro j hj; simp at hj; rcases hj with h | h; exact .inl (by simp [h]); exact .inr (by have := HB0.out; omega)), ?_⟩
  exact (((((hq8.setOther (fun e => n0Q e.symm) _ _).setOther (fun e => n0Q e.symm) _ _).setOther (fun e => n0Q e.symm) _ _).setOther (fun e => n0Q e.symm) _ _).setOther (fun e => n0Q e.symm) _ _).setOther (fun e => n0Q e.symm) _ _
end Go.Proofs.Ybulkhba
