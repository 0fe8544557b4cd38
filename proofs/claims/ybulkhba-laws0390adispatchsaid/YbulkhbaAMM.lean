import Derived.Test.YbulkhbaPO
namespace Go.Proofs.Ybulkhba
open Go.RowKit
open Go.MuLone
set_option linter.unusedVariables false
set_option linter.unusedSimpArgs false

/-- The plain data of one backend. -/
structure BD where
  sl : Int
  inf : Int
  ty : Int
  tl : Int
  off : Int
  wk : Bool
abbrev BD.vs (d : BD) : Array Value := #[.int .u8 d.sl, .int .u8 d.inf, .int .u8 d.ty, .int .u8 d.tl, .int .i8 d.off, .bool d.wk]
structure BD.Ok (d : BD) : Prop where
  s0 : 0 ≤ d.sl
  s1 : d.sl < 256
  i0 : 0 ≤ d.inf
  i1 : d.inf < 256
  y0 : 0 ≤ d.ty
  y1 : d.ty < 256
  t0 : 0 ≤ d.tl
  t1 : d.tl < 256
  o0 : -128 ≤ d.off
  o1 : d.off ≤ 127
def DIn (w : World) (b off : Nat) (D : List BD) : Prop := b < w.heap.size ∧ ∀ j (h : j < D.length) c, c < 6 → w.cell? ⟨b, off + j * 6 + c, none⟩ = D[j].vs[c]?
theorem DIn.below {w w' : World} {b off : Nat} {D : List BD} (h : DIn w b off D) (hb : Below w.heap.size w w') : DIn w' b off D :=
  ⟨Nat.lt_of_lt_of_le h.1 hb.size, fun j hj c hc => (hb.cell h.1).trans (h.2 j hj c hc)⟩
/-- The backend made of it. -/
abbrev bkOf (wl ex : Int) (d : BD) : Array Value := bkRow (d.sl % 8) (d.inf % 8) (d.ty % 4) (addW wl (d.off * 1000000000)) (addX wl ex (d.off * 1000000000)) d.wk (d.tl % 3)

/-- THE BACKENDS, as far as they are made. -/
structure LB (w W : World) (Bt Bb n : Nat) (wl ex : Int) (D : List BD) (PB : List Nat) : Prop where
  below : Below w.heap.size w W
  t0 : Row W Bt 29 (tmV wl ex)
  bb : ∃ cs, Row W Bb 33 cs ∧ cs.size = n ∧ ∀ i (h : i < PB.length), cs[i]? = some (.pointer (some ⟨PB[i], 0, none⟩))
  bk : ∀ i (h : i < PB.length) (h' : i < D.length), Row W PB[i] 39 (bkOf wl ex D[i])
  nd : PB.Nodup
  lo : ∀ p ∈ PB, w.heap.size ≤ p
  los : w.heap.size ≤ Bt ∧ w.heap.size ≤ Bb
section
variable {w W W' : World} {Bt Bb n : Nat} {wl ex : Int} {D : List BD} {PB : List Nat}
theorem LB.ext (h : LB w W Bt Bb n wl ex D PB) (hb : Below W.heap.size W W') : LB w W' Bt Bb n wl ex D PB := by
  obtain ⟨cs, a, b, c⟩ := h.bb
  exact ⟨h.below.trans (hb.mono h.below.size), h.t0.below hb h.t0.lt, ⟨cs, a.below hb a.lt, b, c⟩, fun i hi hi' => (h.bk i hi hi').below hb (h.bk i hi hi').lt, h.nd, h.lo, h.los⟩
/-- One more, just made, its pointer stored. -/
theorem LB.push (h : LB w W Bt Bb n wl ex D PB) (hj : PB.length < n) (hD : PB.length < D.length) (p : Nat) (hp : Row W p 39 (bkOf wl ex D[PB.length])) (hnew : p ∉ PB) (hlo : w.heap.size ≤ p) :
    LB w (W.setCell ⟨Bb, PB.length, none⟩ (.pointer (some ⟨p, 0, none⟩))) Bt Bb n wl ex D (PB ++ [p]) := by
  obtain ⟨cs, a, b, c⟩ := h.bb
  refine ⟨h.below.setCell h.los.2 _, h.t0.setOther (h.t0.ne a (by decide)) _ _, ⟨_, a.set PB.length _, by simpa using b, ?_⟩, ?_, ?_, ?_, h.los⟩
  · intro i hi
    rw [List.length_append, List.length_singleton] at hi
    by_cases e : i < PB.length
    · rw [Array.getElem?_setIfInBounds_ne (by omega), c i e, List.getElem_append_left e]
    · have e : i = PB.length := by omega
      subst e
      rw [Array.getElem?_setIfInBounds_self_of_lt (by omega)]
      simp
  · intro i hi hi'
    rw [List.length_append, List.length_singleton] at hi
    by_cases e : i < PB.length
    · rw [List.getElem_append_left e]
      exact (h.bk i e hi').setOther ((h.bk i e hi').ne a (by decide)) _ _
    · have e : i = PB.length := by omega
      subst e
      simp only [List.getElem_concat_length]
      exact hp.setOther (hp.ne a (by decide)) _ _
  · exact List.nodup_append.2 ⟨h.nd, by simp, fun x hx y hy => by rw [List.mem_singleton.1 hy]; rintro rfl; exact hnew hx⟩
  · intro q hq
    rcases List.mem_append.1 hq with g | g
    · exact h.lo q g
    · rw [List.mem_singleton.1 g]; exact hlo
end
/-- THE BACKENDS BEHIND THE PASS OVER. -/
structure CM (w W : World) (Bt Bb C n idx : Nat) (wl ex : Int) (D : List BD) (PB : List Nat) (lg : Value) : Prop where
  below : Below w.heap.size w W
  t0 : Row W Bt 29 (tmV wl ex)
  bb : ∃ cs, Row W Bb 33 cs ∧ ∀ i (h : i < PB.length), cs[i]? = some (.pointer (some ⟨PB[i], 0, none⟩))
  bk : ∀ i (h : i < PB.length) (h' : i < D.length), Row W PB[i] 39 (if i = idx then bkRow (D[i].sl % 8) (D[i].inf % 8) (D[i].ty % 4) (addW wl 5000000000) (addX wl ex 5000000000) true 2 else bkOf wl ex D[i])
  rC : Row W C 43 (clkRow wl ex lg)
  log : ∀ h : idx < D.length, (D[idx].wk = true ∧ lg = .slice none 0 0) ∨ (D[idx].wk = false ∧ LogIs W lg 5000000000)
theorem CM.ext {w W W' : World} {Bt Bb C n idx : Nat} {wl ex : Int} {D : List BD} {PB : List Nat} {lg : Value} (h : CM w W Bt Bb C n idx wl ex D PB lg) (hb : Below W.heap.size W W') : CM w W' Bt Bb C n idx wl ex D PB lg := by
  obtain ⟨cs, a, c⟩ := h.bb
  refine ⟨h.below.trans (hb.mono h.below.size), h.t0.below hb h.t0.lt, ⟨cs, a.below hb a.lt, c⟩, fun i hi hi' => (h.bk i hi hi').below hb (h.bk i hi hi').lt, h.rC.below hb h.rC.lt, fun hh => ?_⟩
  rcases h.log hh with g | ⟨g1, g2⟩
  · exact .inl g
  · exact .inr ⟨g1, g2.only (S := []) (Only.ofBelow hb) (by simp)⟩
/-- Behind passOver at backend idx. -/
theorem LB.passed {w W W' : World} {Bt Bb S C n idx : Nat} {wl ex : Int} {D : List BD} {PB : List Nat} {lg : Value} {csS csC : Array Value} (h : LB w W Bt Bb n wl ex D PB) (hi : idx < PB.length) (hD : idx < D.length) (rS : Row W S 67 csS) (rC0 : Row W C 43 csC) (hS : w.heap.size ≤ S) (hC : w.heap.size ≤ C)
    (ho : Only [S, PB[idx], C] W W') (hB : Row W' PB[idx] 39 (bkRow (D[idx].sl % 8) (D[idx].inf % 8) (D[idx].ty % 4) (addW wl 5000000000) (addX wl ex 5000000000) true 2)) (hr : Row W' C 43 (clkRow wl ex lg)) (hl : (D[idx].wk = true ∧ lg = .slice none 0 0) ∨ (D[idx].wk = false ∧ LogIs W' lg 5000000000)) :
    CM w W' Bt Bb C n idx wl ex D PB lg := by
  obtain ⟨cs, a, b, c⟩ := h.bb
  have rB0 := h.bk idx hi hD
  have key : ∀ {k : Nat} {ty : TypeId} {cs : Array Value}, Row W k ty cs → ty ≠ 67 → ty ≠ 39 → ty ≠ 43 → k ∉ [S, PB[idx], C] := by
    intro k ty cs r h1 h2 h3 hm
    simp only [List.mem_cons, List.not_mem_nil, or_false] at hm
    rcases hm with rfl | rfl | rfl
    · exact absurd rfl (r.ne rS h1)
    · exact absurd rfl (r.ne rB0 h2)
    · exact absurd rfl (r.ne rC0 h3)
  refine ⟨h.below.trans (ho.below h.below.size ?_), h.t0.only ho (key h.t0 (by decide) (by decide) (by decide)), ⟨cs, a.only ho (key a (by decide) (by decide) (by decide)), c⟩, ?_, hr, fun _ => hl⟩
  · intro k hk
    simp only [List.mem_cons, List.not_mem_nil, or_false] at hk
    rcases hk with rfl | rfl | rfl
    · exact hS
    · exact h.lo _ (List.getElem_mem _)
    · exact hC
  · intro i hi' hd'
    by_cases e : i = idx
    · subst e
      rw [if_pos rfl]; exact hB
    · rw [if_neg e]
      refine (h.bk i hi' hd').only ho ?_
      intro hm
      simp only [List.mem_cons, List.not_mem_nil, or_false] at hm
      rcases hm with hm | hm | hm
      · exact absurd hm ((h.bk i hi' hd').ne rS (by decide))
      · exact e ((List.getElem_inj h.nd).1 hm)
      · exact absurd hm ((h.bk i hi' hd').ne rC0 (by decide))
theorem Yba.info33 : (Yba.prog.info? 33).map (fun i => (i.zero, i.size, i.bytes)) = some (some (.pointer none), 1, 8) := by kernel_rfl
/-- zzs0390aafter -/
theorem aafter_any (C : Nat) (wl ex : Int) (lg : Value) (wk : Bool) (w : World) (r : Row w C 43 (clkRow wl ex lg)) (h : (wk = true ∧ lg = .slice none 0 0) ∨ (wk = false ∧ LogIs w lg 5000000000)) :
    Calls Yba.prog 13 #[.pointer (some ⟨C, 0, none⟩), .bool wk] w fun e w' => e = .returned (.bool true) ∧ Below w.heap.size w w' := by
  have c3 := r.cell 3
  simp at c3
  rcases h with ⟨rfl, rfl⟩ | ⟨rfl, g, cap, cs, rfl, hc, hr, h0⟩
  · go_enter Yba.func13, Yba.ntmps13
    go_wp2
    go_ret
    exact ⟨rfl, Below.refl _ _⟩
  · have y0 := (hr.cell 0).trans h0
    have ne : Nonempty (Ext w) := ⟨⟨w, Below.refl _ _⟩⟩
    go_enter Yba.func13, Yba.ntmps13
    go_wp2
    all_goals
      go_ret
      exact ⟨rfl, Below.refl _ _⟩
end Go.Proofs.Ybulkhba
