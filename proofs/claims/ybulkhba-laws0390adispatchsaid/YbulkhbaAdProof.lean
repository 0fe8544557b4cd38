import Derived.Test.YbulkhbaAe
import Derived.Deep.Slices
import Derived.WalkKit
import Derived.ProofKit
import Derived.OpenShut
import Derived.ShutString
import Derived.ChangeOld
import Derived.Below
namespace Go.Proofs.Ybulkhba.lawS0390ADispatch
open Go.ChangeShapes Go.WideShapes Go.ChangeAt Go.RowKit
open Go.ChangeMaps (open_string shut_string)
set_option linter.unusedVariables false

theorem own : ownKnob Yba.prog.godebug = none := by kernel_rfl
theorem laidOut : laidOutB Yba.prog = true := by kernel_rfl
theorem cells5 : Yba.prog.cellsOf 5 = 1 := by kernel_rfl
theorem cells4 : Yba.prog.cellsOf 4 = 1 := by kernel_rfl
theorem wf_u8' {n : Int} (h : (Lit.int .u8 n).wf = true) : 0 ≤ n ∧ n ≤ 255 := by
  simp only [Lit.wf, Bool.and_eq_true, decide_eq_true_eq] at h
  exact ⟨h.1, h.2⟩
theorem wf_i64' {n : Int} (h : (Lit.int .i64 n).wf = true) : -9223372036854775808 ≤ n ∧ n ≤ 9223372036854775807 := by
  simp only [Lit.wf, Bool.and_eq_true, decide_eq_true_eq] at h
  exact ⟨h.1, h.2⟩
theorem cell_in {W : World} {a : Addr} {i : Nat} {v : Value} (h : W.cell? (a.add i) = some v) : a.block < W.heap.size := by
  have := World.block_lt_of_cell? W _ h
  rwa [add_block] at this
/-- The slice of bytes that came in. -/
theorem open_u8s {H : Type} {enc : TypeId × Value → H} {W : World} {fuel : Nat} {a0 : Option Addr} {len cap : Nat} {x : DataW H × List MemPlace} (hf : DataW.trod enc Yba.prog W 0 (fun _ => true) true fuel 73 [.slice a0 len cap] = some x) :
    len ≤ cap ∧ ∃ X : List Int, X.length = len ∧ (∀ n ∈ X, 0 ≤ n ∧ n < 256) ∧ AtsU W a0 X := by
  rcases Go.Deep.open_slice1 Yba.underlying73 cells5 hf with ⟨hcs, _⟩ | ⟨a, l, c, m, n, V, D, Pl, hcs, _, hl, _, hm, _, hx⟩
  · simp at hcs
    obtain ⟨rfl, rfl, rfl⟩ := hcs
    exact ⟨Nat.le_refl _, [], rfl, by simp, fun j hj => by simp at hj⟩
  · simp at hcs
    obtain ⟨rfl, rfl, rfl⟩ := hcs
    have hmm : m = cap := by simpa using hm
    refine ⟨hl, ?_⟩
    have each : ∀ i, i < len → ∃ z : Int, (0 ≤ z ∧ z < 256) ∧ W.cell? (a.add i) = some (.int .u8 z) := by
      intro i hi
      obtain ⟨h1, h2⟩ := hx i (by omega)
      obtain ⟨z, hz, -, hw⟩ := DataW.trod_int Yba.underlying5 h2
      simp at hz
      have := wf_u8' hw
      exact ⟨z, ⟨this.1, by omega⟩, by rw [h1, hz]⟩
    obtain ⟨q, hq⟩ := Go.Deep.choose_lt each
    refine ⟨(List.range len).map q, by simp, ?_, ?_⟩
    · intro z hz
      obtain ⟨i, hi, rfl⟩ := List.mem_map.1 hz
      exact (hq i (List.mem_range.1 hi)).1
    · intro j hj
      have hj' : j < len := by simpa using hj
      have h := (hq j hj').2
      exact ⟨a, rfl, cell_in h, by rw [h]; simp⟩
/-- The slice of bools that came in. -/
theorem open_bs {H : Type} {enc : TypeId × Value → H} {W : World} {fuel : Nat} {a0 : Option Addr} {len cap : Nat} {x : DataW H × List MemPlace} (hf : DataW.trod enc Yba.prog W 0 (fun _ => true) true fuel 72 [.slice a0 len cap] = some x) :
    len ≤ cap ∧ ∃ X : List Bool, X.length = len ∧ AtsB W a0 X := by
  rcases Go.Deep.open_slice1 Yba.underlying72 cells4 hf with ⟨hcs, _⟩ | ⟨a, l, c, m, n, V, D, Pl, hcs, _, hl, _, hm, _, hx⟩
  · simp at hcs
    obtain ⟨rfl, rfl, rfl⟩ := hcs
    exact ⟨Nat.le_refl _, [], rfl, fun j hj => by simp at hj⟩
  · simp at hcs
    obtain ⟨rfl, rfl, rfl⟩ := hcs
    have hmm : m = cap := by simpa using hm
    refine ⟨hl, ?_⟩
    have each : ∀ i, i < len → ∃ z : Bool, W.cell? (a.add i) = some (.bool z) := by
      intro i hi
      obtain ⟨h1, h2⟩ := hx i (by omega)
      obtain ⟨z, hz, -⟩ := DataW.trod_bool Yba.underlying4 h2
      simp at hz
      exact ⟨z, by rw [h1, hz]⟩
    obtain ⟨q, hq⟩ := Go.Deep.choose_lt each
    refine ⟨(List.range len).map q, by simp, ?_⟩
    intro j hj
    have hj' : j < len := by simpa using hj
    have h := hq j hj'
    exact ⟨a, rfl, cell_in h, by rw [h]; simp⟩
set_option maxRecDepth 100000 in
theorem walk (a5 a6 : Option Addr) (c5 c6 : Nat) (X5 : List Bool) (X6 : List Int) (z0 z1 z2 z3 now : Int) (wk : Bool) (w : World) (h5 : AtsB w a5 X5) (h6 : AtsU w a6 X6) (hx6 : ∀ x ∈ X6, 0 ≤ x ∧ x < 256) (k5 : X5.length ≤ c5) (k6 : X6.length ≤ c6)
    (w0 : (Lit.int .u8 z0).wf = true) (w1 : (Lit.int .u8 z1).wf = true) (w2 : (Lit.int .u8 z2).wf = true) (w3 : (Lit.int .u8 z3).wf = true) (w7 : (Lit.int .i64 now).wf = true) :
    Calls Yba.prog 4 #[.int .u8 z0, .int .u8 z1, .int .u8 z2, .int .u8 z3, .bool wk, .slice a5 X5.length c5, .slice a6 X6.length c6, .int .i64 now] w fun e w' => e = .returned (.bool true) ∧ Below w.heap.size w w' := by
  have v0 := wf_u8' w0
  have v1 := wf_u8' w1
  have v2 := wf_u8' w2
  have v3 := wf_u8' w3
  have v7 := wf_i64' w7
  rcases Nat.lt_or_ge 1024 X5.length with hbig | h5s
  · have hb : (1024 : Int) < (X5.length : Nat) := by omega
    go_enter Yba.func4, Yba.ntmps4
    go_wp2
    go_ret
    exact ⟨rfl, Below.refl _ _⟩
  rcases Nat.lt_or_ge 1024 X6.length with hbig | h6s
  · have hb : (1024 : Int) < (X6.length : Nat) := by omega
    have hb5 : ¬ (1024 : Int) < (X5.length : Nat) := by omega
    have hb5' : (X5.length : Int) ≤ 1024 := by omega
    go_enter Yba.func4, Yba.ntmps4
    go_wp2
    go_ret
    exact ⟨rfl, Below.refl _ _⟩
  exact ad_walk a5 a6 c5 c6 X5 X6 z0 z1 z2 z3 now wk w h5 h6 hx6 h5s h6s k5 k6 v0.1 (by omega) v1.1 (by omega) v2.1 (by omega) v3.1 (by omega) v7.1 v7.2

/-! ### THE ROW's STEP: WRITTEN OUT: LEAVE IT -/
set_option maxRecDepth 100000 in
theorem lifted (os : Os) (started : os.Started) (H : Type) (enc : TypeId × Value → H) :
    ReturnsInHanded {} Yba.checked os 4 .any (Rows.lawS0390ADispatchSpec.pre6 enc Yba.prog Yba.f4 Rows.lawS0390ADispatchRow.domain false) (Rows.lawS0390ADispatchSpec.post enc Yba.prog Yba.f4 false true false false) := by
  refine returnsInHanded_of_change (C := Yba.checked) own started (by kernel_rfl) Yba.func4
    (ChangeSpec.witness6 (enc := enc) (C := Yba.checked) false ⟨#[], #[.int .u8 0, .int .u8 0, .int .u8 0, .int .u8 0, .bool false, .slice none 0 0, .slice none 0 0, .int .i64 0], []⟩ 8 (by kernel_rfl) (by kernel_rfl) (by kernel_rfl) (by kernel_rfl)) ?_
  intro W base args ds gs before hval0 hW hcnd _
  have hval : ∀ (j : Nat) t v, Yba.f4.params[j]? = some t → args[j]? = some v → Value.okWide Yba.prog W .any base t v := hval0
  have hW' := hW
  obtain ⟨p, q, hA0, hV, rfl, hfz, hnd⟩ := hW
  have hA : DataW.TrodAll enc Yba.prog W 0 (fun _ => true) true Yba.f4.params.toList args.toList ds p := hA0
  rw [Yba.params4] at hA hval
  obtain ⟨v0, vs0, d0, ds0, p0, q0, hargs, rfl, rfl, h0, r0⟩ := trodAll_cons hA
  obtain ⟨v1, vs1, d1, ds1, p1, q1, rfl, rfl, rfl, h1, r1⟩ := trodAll_cons r0
  obtain ⟨v2, vs2, d2, ds2, p2, q2, rfl, rfl, rfl, h2, r2⟩ := trodAll_cons r1
  obtain ⟨v3, vs3, d3, ds3, p3, q3, rfl, rfl, rfl, h3, r3⟩ := trodAll_cons r2
  obtain ⟨v4, vs4, d4, ds4, p4, q4, rfl, rfl, rfl, h4, r4⟩ := trodAll_cons r3
  obtain ⟨v5, vs5, d5, ds5, p5, q5, rfl, rfl, rfl, h5, r5⟩ := trodAll_cons r4
  obtain ⟨v6, vs6, d6, ds6, p6, q6, rfl, rfl, rfl, h6, r6⟩ := trodAll_cons r5
  obtain ⟨v7, vs7, d7, ds7, p7, q7, rfl, rfl, rfl, h7, r7⟩ := trodAll_cons r6
  obtain ⟨rfl, rfl, rfl⟩ := trodAll_nil r7
  obtain rfl : args = #[v0, v1, v2, v3, v4, v5, v6, v7] := by cases args; simp_all
  obtain ⟨rfl, rfl⟩ := trodVars_none hV
  obtain ⟨a0, rfl, rfl, rfl, w0⟩ := open_int Yba.underlying5 (hval 0 5 v0 rfl rfl) h0
  obtain ⟨a1, rfl, rfl, rfl, w1⟩ := open_int Yba.underlying5 (hval 1 5 v1 rfl rfl) h1
  obtain ⟨a2, rfl, rfl, rfl, w2⟩ := open_int Yba.underlying5 (hval 2 5 v2 rfl rfl) h2
  obtain ⟨a3, rfl, rfl, rfl, w3⟩ := open_int Yba.underlying5 (hval 3 5 v3 rfl rfl) h3
  obtain ⟨a4, rfl, rfl, rfl⟩ := open_bool Yba.underlying4 (hval 4 4 v4 rfl rfl) h4
  obtain ⟨a5, len5, cap5, rfl⟩ := okWide_slice Yba.underlying72 (hval 5 72 v5 rfl rfl)
  obtain ⟨a6, len6, cap6, rfl⟩ := okWide_slice Yba.underlying73 (hval 6 73 v6 rfl rfl)
  have k5 := h5
  have k6 := h6
  have lt5 : ∀ x ∈ p5, x.block < W.heap.size := by obtain ⟨m, hm⟩ := k5; exact DataW.trod_lt m _ _ _ hm
  have lt6 : ∀ x ∈ p6, x.block < W.heap.size := by obtain ⟨m, hm⟩ := k6; exact DataW.trod_lt m _ _ _ hm
  obtain ⟨hc5, X5, hl5, hx5⟩ : len5 ≤ cap5 ∧ ∃ X : List Bool, X.length = len5 ∧ AtsB W a5 X := by
    obtain ⟨fuel, hf⟩ := h5
    exact open_bs hf
  obtain ⟨hc6, X6, hl6, hr6, hx6⟩ : len6 ≤ cap6 ∧ ∃ X : List Int, X.length = len6 ∧ (∀ n ∈ X, 0 ≤ n ∧ n < 256) ∧ AtsU W a6 X := by
    obtain ⟨fuel, hf⟩ := h6
    exact open_u8s hf
  obtain ⟨a7, rfl, rfl, rfl, w7⟩ := open_int Yba.underlying2 (hval 7 2 v7 rfl rfl) h7
  subst hl5 hl6
  clear hA0 hval0
  refine (walk a5 a6 cap5 cap6 X5 X6 a0 a1 a2 a3 a7 a4 W hx5 hx6 hr6 hc5 hc6 w0 w1 w2 w3 w7).mono fun e W' ⟨he, bel⟩ => ?_
  subst he
  exact ⟨_, rfl, _, _, _, [], _, [], hW', trodAll_mk1 (shut_bool Yba.underlying4 _), (trodAll_cons_mk (shut_int Yba.underlying5 w0) (trodAll_cons_mk (shut_int Yba.underlying5 w1) (trodAll_cons_mk (shut_int Yba.underlying5 w2) (trodAll_cons_mk (shut_int Yba.underlying5 w3) (trodAll_cons_mk (shut_bool Yba.underlying4 _)
    (trodAll_cons_mk (Below.trod laidOut (by kernel_rfl) (of_decide_eq_true (by kernel_rfl)) k5 bel lt5) (trodAll_cons_mk (Below.trod laidOut (by kernel_rfl) (of_decide_eq_true (by kernel_rfl)) k6 bel lt6) (trodAll_cons_mk (shut_int Yba.underlying2 w7) trodAll_mk0)))))))), rfl, bel.frame _, fun h => by cases h⟩

theorem over : Rows.lawS0390ADispatchRow.holds Yba.pinned (OpenSpec.ofChange Rows.lawS0390ADispatchSpec) :=
  OpenClaim.holds_of_wide 4 Yba.f4 rfl rfl rfl rfl rfl rfl rfl ⟨rfl, rfl, rfl, rfl, rfl⟩ rfl rfl rfl rfl rfl (by kernel_rfl) Yba.func4 (by kernel_rfl)
    (of_decide_eq_true (by kernel_rfl)) (by unfold Func.isWrapper; first | (rw [if_pos (by decide +kernel)]; kernel_rfl) | (rw [if_neg (by decide +kernel)]; exact ⟨rfl, rfl⟩))
    (fun os started H enc _ => lifted os started H enc)

end Go.Proofs.Ybulkhba.lawS0390ADispatch
namespace Go.Proofs.Ybulkhba
/-- THE STATEMENT. -/
theorem lawS0390ADispatch_proved : Rows.LawS0390ADispatchSaid := lawS0390ADispatch.over
#print axioms lawS0390ADispatch_proved
end Go.Proofs.Ybulkhba
