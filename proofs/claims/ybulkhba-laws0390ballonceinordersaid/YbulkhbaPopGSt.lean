import Derived.Test.YbulkhbaGSt
namespace Go.Proofs.Ybulkhba
open Go.RowKit
set_option linter.unusedVariables false
set_option linter.unusedSimpArgs false

theorem opop_perm {H A H' A' : List Arr} {x : Arr} (hp : OPop H A x H' A') : (x :: (H' ++ A')).Perm (H ++ A) := by
  rcases hp with ⟨hf, rfl, rfl⟩ | ⟨hf, rfl, Ht, rfl, rfl⟩
  · exact List.perm_middle.symm
  · exact List.Perm.append_right A' (popH_perm x Ht)
theorem opop_front {H A : List Arr} (h : H ++ A ≠ []) : ∃ H' A', OPop H A (oFront H A) H' A' := by
  obtain ⟨x, H', A', h1, h2⟩ := opop_ex h
  exact ⟨H', A', ofront_inj h2 (oFront_is h) ▸ h1⟩
theorem opop_len {H A H' A' : List Arr} {x : Arr} (hp : OPop H A x H' A') : H'.length ≤ H.length ∧ A'.length ≤ A.length := by
  have h := (opop_perm hp).length_eq
  simp at h
  rcases hp with ⟨hf, rfl, rfl⟩ | ⟨hf, rfl, Ht, rfl, _⟩
  · simp
  · simp at h ⊢; omega

/-- The turn of t. -/
structure GTurn (rot0 : List TG) (t : TG) (ts : List TG) : Prop where
  perm : ((t :: ts).map TG.core).Perm (rot0.map TG.core)
  t0 : TOk 263 t
  ts0 : ∀ s ∈ ts, TOk 255 s
  len : ts.length ≤ 899

/-- WHAT A POP LEAVES. -/
def PopPost (w w' : World) (Q M R : Nat) (n : Int) (rv0 : Value) (rot0 : List TG) (ents : List (ByteArray × Nat)) (x : Arr) : Prop :=
  ∃ t ts rv' rh' it' rot' ents' H' A', ((t :: ts).map TG.core).Perm (rot0.map TG.core) ∧ OPop t.H t.A x H' A' ∧ QG w' Q M R n n rv' rh' it' rot' ents' ∧
    Only (qBlocksG Q M R rv0 rot0) w w' ∧ (∀ k ∈ qBlocksG Q M R rv' rot', k ∈ qBlocksG Q M R rv0 rot0 ∨ w.heap.size ≤ k) ∧ GI it' rot' ∧
    ((H' ++ A' = [] ∧ rot' = ts ∧ ents' = delE x.r.tn ents) ∨
     (H' ++ A' ≠ [] ∧ ents' = ents ∧ ∃ t' : TG, t'.H = H' ∧ t'.A = A' ∧ t'.nm = t.nm ∧ t'.b = t.b ∧ t'.n = t.n ∧ (rot' = t' :: ts ∨ rot' = ts ++ [t'])))

theorem GTurn.left {rot0 : List TG} {t : TG} {ts : List TG} (h : GTurn rot0 t ts) : GI false ts := GI.of_all (by have := h.len; omega) h.ts0
theorem GTurn.tok {rot0 : List TG} {t : TG} {ts : List TG} (h : GTurn rot0 t ts) {x : Arr} {H' A' : List Arr} (hp : OPop t.H t.A x H' A') (hne : H' ++ A' ≠ []) (ev iv : Value) (hd : Nat) (d D : Int) (h0 : 0 ≤ d) (h1 : d ≤ D) :
    TOk D { t with ev := ev, H := H', iv := iv, hd := hd, A := A', d := d } := by
  obtain ⟨l1, l2⟩ := opop_len hp
  have a := h.t0
  exact ⟨hne, Nat.le_trans l1 a.lH, Nat.le_trans l2 a.lA, fun y hy => a.tk y ((opop_perm hp).mem_iff.1 (List.mem_cons_of_mem _ hy)), a.q0, a.q1, h0, h1⟩
theorem GTurn.stays {rot0 : List TG} {t : TG} {ts : List TG} (h : GTurn rot0 t ts) {x : Arr} {H' A' : List Arr} (hp : OPop t.H t.A x H' A') (hne : H' ++ A' ≠ []) (ev iv : Value) (hd : Nat) (d : Int) (h0 : 0 ≤ d) (h1 : d ≤ 263) (hf : (oFront H' A').r.tk ≤ d) :
    GI true ({ t with ev := ev, H := H', iv := iv, hd := hd, A := A', d := d } :: ts) :=
  ⟨by have := h.len; simp; omega, h.ts0, ⟨fun _ => ⟨h.tok hp hne ev iv hd d 263 h0 h1, hf⟩, fun e => by cases e⟩⟩
theorem GTurn.goes {rot0 : List TG} {t : TG} {ts : List TG} (h : GTurn rot0 t ts) {x : Arr} {H' A' : List Arr} (hp : OPop t.H t.A x H' A') (hne : H' ++ A' ≠ []) (ev iv : Value) (hd : Nat) (d : Int) (h0 : 0 ≤ d) (hf : d < (oFront H' A').r.tk) :
    GI false (ts ++ [{ t with ev := ev, H := H', iv := iv, hd := hd, A := A', d := d }]) := by
  refine GI.of_all (by have := h.len; simp; omega) fun s hs => ?_
  rcases List.mem_append.1 hs with g | g
  · exact h.ts0 s g
  · rw [List.mem_singleton.1 g]
    have h2 : 0 ≤ (oFront H' A').r.tk ∧ (oFront H' A').r.tk ≤ 255 := (h.tok hp hne ev iv hd 0 0 (Int.le_refl _) (Int.le_refl _)).tk _ (oFront_mem hne)
    exact h.tok hp hne ev iv hd d 255 h0 (by omega)

theorem frontQ {W : World} {Q M R : Nat} {n m : Int} {rv : Value} {rh : Nat} {it : Bool} {t : TG} {ts : List TG} {ents : List (ByteArray × Nat)} (h : QG W Q M R n m rv rh it (t :: ts) ents) :
    Calls Yba.prog 36 #[.pointer (some ⟨R, 1, none⟩)] W fun e w' => e = .returned (.pointer (some ⟨t.b, 0, none⟩)) ∧ ∃ k, w' = W.drewN k := by
  obtain ⟨g, cap, hv, h1, h2, h3, h4, h5⟩ := h.line.vals (by simp)
  have k1 := h.rR.cell 1
  have k2 := h.rR.cell 2
  rw [hv] at k1
  simp at k1 k2
  exact frontP_any R 1 _ cap rh g (some ⟨t.b, 0, none⟩) W (Nat.le_trans h1 h2) (by simp) (by simpa using k1) k2 (by simpa [TG.ptr] using h5 0 (by simp))
theorem lenQ {W : World} {Q M R : Nat} {n m : Int} {rv : Value} {rh : Nat} {it : Bool} {rot : List TG} {ents : List (ByteArray × Nat)} (h : QG W Q M R n m rv rh it rot ents) :
    Calls Yba.prog 37 #[.pointer (some ⟨R, 1, none⟩)] W fun e w' => e = .returned (.int .i64 rot.length) ∧ ∃ k, w' = W.drewN k := by
  obtain ⟨a, cap, hv, hn, hc, hob, hnone, hsome⟩ := h.line.shape
  have k1 := h.rR.cell 1
  have k2 := h.rR.cell 2
  rw [hv] at k1
  have := lenP_any R 1 _ cap rh a W (Nat.le_trans hn hc) (Nat.le_add_right _ _) (by simpa using k1) (by simpa using k2)
  have e : (((rh + (rot.map TG.ptr).length : Nat) : Int) - rh) = (rot.length : Int) := by simp; omega
  rw [e] at this
  exact this

/-- The last 'idle' tenants are short. -/
def Short (idle : Nat) (rot : List TG) : Prop := ∀ s ∈ rot.drop (rot.length - idle), s.d < s.c
theorem Short.all {rot : List TG} {idle : Nat} (h : Short idle rot) (hi : idle = rot.length) : ∀ s ∈ rot, s.d < s.c := by
  intro s hs
  exact h s (by rw [hi, Nat.sub_self]; exact hs)
theorem Short.zero (rot : List TG) : Short 0 rot := by
  intro s hs
  simp at hs
theorem Short.turn {t t' : TG} {ts : List TG} {idle : Nat} (h : Short idle (t :: ts)) (hi : idle < (t :: ts).length) (ht : t'.d < t'.c) : Short (idle + 1) (ts ++ [t']) := by
  intro s hs
  simp only [List.length_cons] at hi
  have e : (ts ++ [t']).length - (idle + 1) = ts.length - idle := by simp
  rw [e, List.drop_append_of_le_length (by omega)] at hs
  rcases List.mem_append.1 hs with g | g
  · refine h s ?_
    rw [List.length_cons, show ts.length + 1 - idle = (ts.length - idle) + 1 by omega, List.drop_succ_cons]
    exact g
  · rw [List.mem_singleton.1 g]; exact ht
theorem Short.add {rot : List TG} {k : Int} (h : ∀ t ∈ rot, t.d + k * t.q < t.fr.r.tk) : ∀ t ∈ rot.map (TG.add k), t.d < t.c := by
  intro t ht
  obtain ⟨s, hs, rfl⟩ := List.mem_map.1 ht
  exact h s hs
theorem GI.add {rot : List TG} {k : Nat} (h : GI false rot) (hk : ∀ t ∈ rot, t.d + (k : Int) * t.q < t.fr.r.tk) : GI false (rot.map (TG.add k)) := by
  refine GI.of_all (by simpa using h.1) fun t ht => ?_
  obtain ⟨s, hs, rfl⟩ := List.mem_map.1 ht
  have a := h.all s hs
  have b := a.c
  have c := hk s hs
  have hm : 0 ≤ (k : Int) * s.q := Int.mul_nonneg (by omega) (by have := a.q0; omega)
  exact a.setD _ (by have := a.d0; omega) (by unfold TG.c at b; omega)
end Go.Proofs.Ybulkhba
