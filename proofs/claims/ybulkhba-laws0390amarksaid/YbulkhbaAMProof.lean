import Derived.Test.YbulkhbaAM
import Derived.Deep.Slices
import Derived.Lib.LaidU8
import Derived.WalkKit
import Derived.ProofKit
import Derived.OpenShut
import Derived.ShutString
import Derived.ChangeOld
import Derived.Below
namespace Go.Proofs.Ybulkhba.lawS0390AMark
open Go.ChangeShapes Go.WideShapes Go.ChangeAt Go.RowKit
open Go.ChangeMaps (open_string shut_string)
set_option linter.unusedVariables false

theorem own : ownKnob Yba.prog.godebug = none := by kernel_rfl
theorem laidOut : laidOutB Yba.prog = true := by kernel_rfl

theorem cells25 : Yba.prog.cellsOf 25 = 6 := by kernel_rfl
theorem cells5 : Yba.prog.cellsOf 5 = 1 := by kernel_rfl
theorem cells23 : Yba.prog.cellsOf 23 = 1 := by kernel_rfl
theorem cells4 : Yba.prog.cellsOf 4 = 1 := by kernel_rfl
theorem wf_u8' {n : Int} (h : (Lit.int .u8 n).wf = true) : 0 ≤ n ∧ n ≤ 255 := by
  simp only [Lit.wf, Bool.and_eq_true, decide_eq_true_eq] at h
  exact ⟨h.1, h.2⟩
theorem wf_i8' {n : Int} (h : (Lit.int .i8 n).wf = true) : -128 ≤ n ∧ n ≤ 127 := by
  simp only [Lit.wf, Bool.and_eq_true, decide_eq_true_eq] at h
  exact ⟨h.1, h.2⟩
theorem wf_i64' {n : Int} (h : (Lit.int .i64 n).wf = true) : -9223372036854775808 ≤ n ∧ n ≤ 9223372036854775807 := by
  simp only [Lit.wf, Bool.and_eq_true, decide_eq_true_eq] at h
  exact ⟨h.1, h.2⟩
theorem list6' {α : Type} : ∀ (l : List α), l.length = 6 → ∃ a b c d e f, l = [a, b, c, d, e, f]
  | [a, b, c, d, e, f], _ => ⟨a, b, c, d, e, f, rfl⟩
set_option maxRecDepth 100000 in
/-- One backend's data, read. -/
theorem open_bd {H : Type} {enc : TypeId × Value → H} {W : World} {fuel : Nat} {cs : List Value} {x : DataW H × List MemPlace} (hl : cs.length = 6) (hf : DataW.trod enc Yba.prog W 0 (fun _ => true) true fuel 25 cs = some x) :
    ∃ d : BD, d.Ok ∧ cs = d.vs.toList := by
  obtain ⟨c0, c1, c2, c3, c4, c5, rfl⟩ := list6' cs hl
  obtain ⟨xs, n, _, _, _, hlen, hg⟩ := DataW.trod_struct Yba.underlying25 hf
  have hlen' : xs.length = 6 := hlen
  have g : ∀ i, i < 6 → ∃ x, xs[i]? = some x := fun i hi => ⟨xs[i]'(by omega), List.getElem?_eq_getElem (by omega)⟩
  obtain ⟨x0, e0⟩ := g 0 (by omega)
  obtain ⟨x1, e1⟩ := g 1 (by omega)
  obtain ⟨x2, e2⟩ := g 2 (by omega)
  obtain ⟨x3, e3⟩ := g 3 (by omega)
  obtain ⟨x4, e4⟩ := g 4 (by omega)
  obtain ⟨x5, e5⟩ := g 5 (by omega)
  have t0 := (hg 0 _ rfl).trans e0
  have t1 := (hg 1 _ rfl).trans e1
  have t2 := (hg 2 _ rfl).trans e2
  have t3 := (hg 3 _ rfl).trans e3
  have t4 := (hg 4 _ rfl).trans e4
  have t5 := (hg 5 _ rfl).trans e5
  obtain ⟨a0, q0, -, w0⟩ := DataW.trod_int Yba.underlying5 t0
  obtain ⟨a1, q1, -, w1⟩ := DataW.trod_int Yba.underlying5 t1
  obtain ⟨a2, q2, -, w2⟩ := DataW.trod_int Yba.underlying5 t2
  obtain ⟨a3, q3, -, w3⟩ := DataW.trod_int Yba.underlying5 t3
  obtain ⟨a4, q4, -, w4⟩ := DataW.trod_int Yba.underlying23 t4
  obtain ⟨a5, q5, -⟩ := DataW.trod_bool Yba.underlying4 t5
  simp [cells5, cells23, cells4] at q0 q1 q2 q3 q4 q5
  subst q0 q1 q2 q3 q4 q5
  have v0 := wf_u8' w0
  have v1 := wf_u8' w1
  have v2 := wf_u8' w2
  have v3 := wf_u8' w3
  have v4 := wf_i8' w4
  exact ⟨⟨a0, a1, a2, a3, a4, a5⟩, ⟨v0.1, by show a0 < 256; omega, v1.1, by show a1 < 256; omega, v2.1, by show a2 < 256; omega, v3.1, by show a3 < 256; omega, v4.1, v4.2⟩, rfl⟩
theorem open_backs {H : Type} {enc : TypeId × Value → H} {W : World} {fuel : Nat} {a0 : Option Addr} {len cap : Nat} {x : DataW H × List MemPlace} (hf : DataW.trod enc Yba.prog W 0 (fun _ => true) true fuel 22 [.slice a0 len cap] = some x) :
    len ≤ cap ∧ ∃ D : List BD, D.length = len ∧ (∀ d ∈ D, d.Ok) ∧ (D ≠ [] → ∃ b off, a0 = some ⟨b, off, none⟩ ∧ DIn W b off D) := by
  rcases Go.Deep.open_slice Yba.underlying22 hf with ⟨hcs, _⟩ | ⟨a, l, c, m, n, Df, Pl, hcs, _, hl, _, hm, _, hx⟩
  · simp at hcs
    obtain ⟨rfl, rfl, rfl⟩ := hcs
    exact ⟨Nat.le_refl _, [], rfl, by simp, by simp⟩
  · simp at hcs
    obtain ⟨rfl, rfl, rfl⟩ := hcs
    have hmm : m = cap := by simpa using hm
    refine ⟨hl, ?_⟩
    have each : ∀ i, i < len → ∃ d : BD, d.Ok ∧ ∀ c, c < 6 → W.cell? (a.add (i * 6 + c)) = d.vs[c]? := by
      intro i hi
      obtain ⟨cs', h1, h2⟩ := hx i (by omega)
      rw [cells25] at h1
      obtain ⟨_, hlen, hcell⟩ := World.cells?_some h1
      obtain ⟨d, hok, rfl⟩ := open_bd hlen h2
      refine ⟨d, hok, fun c hc => ?_⟩
      have := hcell c hc
      rw [Go.Deep.add_add] at this
      rw [this]
      simp
    have hin : Inhabited BD := ⟨⟨0, 0, 0, 0, 0, false⟩⟩
    obtain ⟨q, hq⟩ := Go.Deep.choose_lt each
    refine ⟨(List.range len).map q, by simp, ?_, ?_⟩
    · intro d hd
      obtain ⟨i, hi, rfl⟩ := List.mem_map.1 hd
      exact (hq i (List.mem_range.1 hi)).1
    · intro hne
      have hpos : 0 < len := by
        rcases Nat.eq_zero_or_pos len with e | e
        · subst e; simp at hne
        · exact e
      have h0 := (hq 0 hpos).2 0 (by omega)
      obtain ⟨b, off, sp⟩ := a
      have hsp : sp = none := by
        have : W.cell? ⟨b, off, sp⟩ = some (.int .u8 (q 0).sl) := by simpa [Addr.add] using h0
        exact Go.Proofs.cell_spot this
      subst hsp
      refine ⟨b, off, rfl, ?_, ?_⟩
      · have : W.cell? ⟨b, off, none⟩ = some (.int .u8 (q 0).sl) := by simpa [Addr.add] using h0
        exact World.block_lt_of_cell? W _ this
      · intro j hj c hc
        have hj' : j < len := by simpa using hj
        have := (hq j hj').2 c hc
        rw [add_plain] at this
        rw [Nat.add_assoc, this]
        simp
set_option maxRecDepth 100000 in
theorem walk (a0 : Option Addr) (cap0 : Nat) (D : List BD) (pick now : Int) (w : World) (hcap : D.length ≤ cap0) (hok : ∀ d ∈ D, d.Ok) (hin : D ≠ [] → ∃ b off, a0 = some ⟨b, off, none⟩ ∧ DIn w b off D) (h1 : (Lit.int .u8 pick).wf = true) (h2 : (Lit.int .i64 now).wf = true) :
    Calls Yba.prog 3 #[.slice a0 D.length cap0, .int .u8 pick, .int .i64 now] w fun e w' => e = .returned (.bool true) ∧ Below w.heap.size w w' := by
  have hp := wf_u8' h1
  have hn := wf_i64' h2
  rcases Nat.lt_or_ge 1024 D.length with hbig | hsmall
  · have hb : (1024 : Int) < (D.length : Nat) := by omega
    go_enter Yba.func3, Yba.ntmps3
    go_wp2
    go_ret
    exact ⟨rfl, Below.refl _ _⟩
  · exact am_walk a0 cap0 D pick now w hsmall hcap hin hok hp.1 (by omega) hn.1 hn.2

/-! ### THE ROW's STEP: WRITTEN OUT: LEAVE IT -/
set_option maxRecDepth 100000 in
theorem lifted (os : Os) (started : os.Started) (H : Type) (enc : TypeId × Value → H) :
    ReturnsInHanded {} Yba.checked os 3 .any (Rows.lawS0390AMarkSpec.pre6 enc Yba.prog Yba.f3 Rows.lawS0390AMarkRow.domain false) (Rows.lawS0390AMarkSpec.post enc Yba.prog Yba.f3 false true false false) := by
  refine returnsInHanded_of_change (C := Yba.checked) own started (by kernel_rfl) Yba.func3
    (ChangeSpec.witness6 (enc := enc) (C := Yba.checked) false ⟨#[], #[.slice none 0 0, .int .u8 0, .int .i64 0], []⟩ 8 (by kernel_rfl) (by kernel_rfl) (by kernel_rfl) (by kernel_rfl)) ?_
  intro W base args ds gs before hval0 hW hcnd _
  have hval : ∀ (j : Nat) t v, Yba.f3.params[j]? = some t → args[j]? = some v → Value.okWide Yba.prog W .any base t v := hval0
  have hW' := hW
  obtain ⟨p, q, hA0, hV, rfl, hfz, hnd⟩ := hW
  have hA : DataW.TrodAll enc Yba.prog W 0 (fun _ => true) true Yba.f3.params.toList args.toList ds p := hA0
  rw [Yba.params3] at hA hval
  obtain ⟨v0, vs0, d0, ds0, p0, q0, hargs, rfl, rfl, h0, r0⟩ := trodAll_cons hA
  obtain ⟨v1, vs1, d1, ds1, p1, q1, rfl, rfl, rfl, h1, r1⟩ := trodAll_cons r0
  obtain ⟨v2, vs2, d2, ds2, p2, q2, rfl, rfl, rfl, h2, r2⟩ := trodAll_cons r1
  obtain ⟨rfl, rfl, rfl⟩ := trodAll_nil r2
  obtain rfl : args = #[v0, v1, v2] := by cases args; simp_all
  obtain ⟨rfl, rfl⟩ := trodVars_none hV
  obtain ⟨a0, len0, cap0, rfl⟩ := okWide_slice Yba.underlying22 (hval 0 22 v0 rfl rfl)
  have k0 := h0
  have lt0 : ∀ x ∈ p0, x.block < W.heap.size := by obtain ⟨m, hm⟩ := k0; exact DataW.trod_lt m _ _ _ hm
  obtain ⟨hcap, D, hDl, hok, hin⟩ : len0 ≤ cap0 ∧ ∃ D : List BD, D.length = len0 ∧ (∀ d ∈ D, d.Ok) ∧ (D ≠ [] → ∃ b off, a0 = some ⟨b, off, none⟩ ∧ DIn W b off D) := by
    obtain ⟨fuel, hf⟩ := h0
    exact open_backs hf
  obtain ⟨a1, rfl, rfl, rfl, w1⟩ := open_int Yba.underlying5 (hval 1 5 v1 rfl rfl) h1
  obtain ⟨a2, rfl, rfl, rfl, w2⟩ := open_int Yba.underlying2 (hval 2 2 v2 rfl rfl) h2
  subst hDl
  clear hA0 hval0
  refine (walk a0 cap0 D a1 a2 W hcap hok hin w1 w2).mono fun e W' ⟨he, bel⟩ => ?_
  subst he
  exact ⟨_, rfl, _, _, _, [], _, [], hW', trodAll_mk1 (shut_bool Yba.underlying4 _), (trodAll_cons_mk (Below.trod laidOut (by kernel_rfl) (of_decide_eq_true (by kernel_rfl)) k0 bel lt0) (trodAll_cons_mk (shut_int Yba.underlying5 w1) (trodAll_cons_mk (shut_int Yba.underlying2 w2) trodAll_mk0))), rfl, bel.frame _, fun h => by cases h⟩

theorem over : Rows.lawS0390AMarkRow.holds Yba.pinned (OpenSpec.ofChange Rows.lawS0390AMarkSpec) :=
  OpenClaim.holds_of_wide 3 Yba.f3 rfl rfl rfl rfl rfl rfl rfl ⟨rfl, rfl, rfl, rfl, rfl⟩ rfl rfl rfl rfl rfl (by kernel_rfl) Yba.func3 (by kernel_rfl)
    (of_decide_eq_true (by kernel_rfl)) (by unfold Func.isWrapper; first | (rw [if_pos (by decide +kernel)]; kernel_rfl) | (rw [if_neg (by decide +kernel)]; exact ⟨rfl, rfl⟩))
    (fun os started H enc _ => lifted os started H enc)

end Go.Proofs.Ybulkhba.lawS0390AMark
namespace Go.Proofs.Ybulkhba
/-- THE STATEMENT. -/
theorem lawS0390AMark_proved : Rows.LawS0390AMarkSaid := lawS0390AMark.over
#print axioms lawS0390AMark_proved
end Go.Proofs.Ybulkhba
