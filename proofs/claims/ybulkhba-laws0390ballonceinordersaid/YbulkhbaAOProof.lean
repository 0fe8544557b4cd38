import Derived.Test.YbulkhbaAO
import Derived.Test.YbulkhbaRRLaw
import Derived.Laws.IdiomArrays
import Derived.WalkKit
import Derived.ProofKit
import Derived.OpenShut
import Derived.ShutString
import Derived.ChangeOld
import Derived.Below
namespace Go.Proofs.Ybulkhba.lawS0390BAllOnceInOrder
open Go.ChangeShapes Go.WideShapes Go.ChangeAt Go.RowKit
open Go.ChangeMaps (open_string shut_string)
set_option linter.unusedVariables false

theorem own : ownKnob Yba.prog.godebug = none := by kernel_rfl
theorem laidOut : laidOutB Yba.prog = true := by kernel_rfl

/-- WHAT THE WALK IS TOLD OF A SLICE OF INTEGERS THAT CAME IN: it is nil; or it leads to a row of 'cap' cells, the numbers 'zs' (the first 'len' are its elements, the rest its spare room), each fitting its kind. -/
def IsRow (k : IntKind) (w : World) (a : Option Addr) (len cap : Nat) (zs : List Int) : Prop :=
  (a = none ∧ len = 0 ∧ cap = 0 ∧ zs = []) ∨
  ∃ x, a = some x ∧ len ≤ cap ∧ cap ≤ maxLen ∧ zs.length = cap ∧ (∀ i, i < zs.length → w.cell? (x.add i) = some (.int k (zs.getD i 0))) ∧ ∀ n ∈ zs, (Lit.int k n).wf = true

/-! ### STEP 1: THE WALK: the Go text returns true, AND WRITES NOTHING THAT WAS THERE: 'Below w.heap.size w w'' (Derived/Below.lean: '.refl', '.alloc', '.drew', '.setCell' at a new block, '.trans'). Open each 'IsRow' by 'rcases' AHEAD of 'go_enter'; part every test ahead of the walk. -/
theorem rowIn_of {k : IntKind} {lo hi : Int} {w : World} {a : Option Addr} {len cap : Nat} {zs : List Int} (hwf : ∀ z, (Lit.int k z).wf = true → lo ≤ z ∧ z ≤ hi) (h : IsRow k w a len cap zs) : len ≤ cap ∧ RowIn k lo hi w a len := by
  rcases h with ⟨rfl, rfl, rfl, rfl⟩ | ⟨x, rfl, h1, h2, h3, h4, h5⟩
  · exact ⟨Nat.le_refl _, fun j hj => by omega⟩
  · refine ⟨h1, fun j hj => ?_⟩
    have hj' : j < zs.length := by omega
    have hc := h4 j hj'
    have hw := hwf _ (h5 (zs.getD j 0) (by rw [List.getD_eq_getElem?_getD, List.getElem?_eq_getElem hj']; exact List.getElem_mem _))
    have hb : (x.add j).block = x.block := by unfold Addr.add; split <;> rfl
    refine ⟨x, zs.getD j 0, rfl, ?_, hc, hw⟩
    rw [← hb]; exact World.block_lt_of_cell? w _ hc
theorem wf_i8 {n : Int} (h : (Lit.int .i8 n).wf = true) : -128 ≤ n ∧ n ≤ 127 := by
  simp only [Lit.wf, Bool.and_eq_true, decide_eq_true_eq] at h
  exact ⟨h.1, h.2⟩
set_option maxRecDepth 100000 in
theorem walk (a0 a1 a2 a3 : Option Addr) (len0 cap0 len1 cap1 len2 cap2 len3 cap3 : Nat) (z0 z1 z2 z3 : List Int) (x0 x1 x2 : Int) (w : World) (w0 : IsRow .u8 w a0 len0 cap0 z0) (w1 : IsRow .u8 w a1 len1 cap1 z1) (w2 : IsRow .i8 w a2 len2 cap2 z2) (w3 : IsRow .i8 w a3 len3 cap3 z3)
    (h0 : (Lit.int .u8 x0).wf = true) (h1 : (Lit.int .u8 x1).wf = true) (h2 : (Lit.int .u8 x2).wf = true) :
    Calls Yba.prog 5 #[.slice a0 len0 cap0, .slice a1 len1 cap1, .slice a2 len2 cap2, .slice a3 len3 cap3, .agg #[.int .u8 x0, .int .u8 x1, .int .u8 x2]] w fun e w' => e = .returned (.bool true) ∧ Below w.heap.size w w' := by
  rcases Nat.lt_or_ge 1024 len0 with hbig | hsmall
  · have hb : (1024 : Int) < (len0 : Nat) := by omega
    go_enter Yba.func5, Yba.ntmps5
    go_wp2
    go_ret
    exact ⟨rfl, (Below.refl _ _).alloc (Nat.le_refl _) _⟩
  · obtain ⟨hcap, K, hlen, hk3, hin⟩ := kinds_of w0
    subst hlen
    obtain ⟨c1, r1⟩ := rowIn_of (fun z h => wf_u8 h) w1
    obtain ⟨c2, r2⟩ := rowIn_of (fun z h => wf_i8 h) w2
    obtain ⟨c3, r3⟩ := rowIn_of (fun z h => wf_i8 h) w3
    have e0 := wf_u8 h0
    have e1 := wf_u8 h1
    have e2 := wf_u8 h2
    exact ao_walk a0 a1 a2 a3 cap0 len1 cap1 len2 cap2 len3 cap3 K x0 x1 x2 w hin r1 r2 r3 hsmall hcap c1 c2 c3 (by omega) (by omega) (by omega) hk3

theorem cells91 : Yba.prog.cellsOf 91 = 3 := by kernel_rfl
theorem cells5 : Yba.prog.cellsOf 5 = 1 := by kernel_rfl
theorem list3 {α : Type} : ∀ (l : List α), l.length = 3 → ∃ a b c, l = [a, b, c]
  | [a, b, c], _ => ⟨a, b, c, rfl⟩

/-! ### THE ROW's STEP: WRITTEN OUT: LEAVE IT -/
set_option maxRecDepth 100000 in
theorem lifted (os : Os) (started : os.Started) (H : Type) (enc : TypeId × Value → H) :
    ReturnsInHanded {} Yba.checked os 5 .any (Rows.lawS0390BAllOnceInOrderSpec.pre6 enc Yba.prog Yba.f5 Rows.lawS0390BAllOnceInOrderRow.domain false) (Rows.lawS0390BAllOnceInOrderSpec.post enc Yba.prog Yba.f5 false true false false) := by
  refine returnsInHanded_of_change (C := Yba.checked) own started (by kernel_rfl) Yba.func5
    (ChangeSpec.witness6 (enc := enc) (C := Yba.checked) false ⟨#[], #[.slice none 0 0, .slice none 0 0, .slice none 0 0, .slice none 0 0, .agg #[.int .u8 0, .int .u8 0, .int .u8 0]], []⟩ 8 (by kernel_rfl) (by kernel_rfl) (by kernel_rfl) (by kernel_rfl)) ?_
  intro W base args ds gs before hval0 hW hcnd _
  have hval : ∀ (j : Nat) t v, Yba.f5.params[j]? = some t → args[j]? = some v → Value.okWide Yba.prog W .any base t v := hval0
  have hW' := hW
  obtain ⟨p, q, hA0, hV, rfl, hfz, hnd⟩ := hW
  have hA : DataW.TrodAll enc Yba.prog W 0 (fun _ => true) true Yba.f5.params.toList args.toList ds p := hA0
  rw [Yba.params5] at hA hval
  obtain ⟨v0, vs0, d0, ds0, p0, q0, hargs, rfl, rfl, h0, r0⟩ := trodAll_cons hA
  obtain ⟨v1, vs1, d1, ds1, p1, q1, rfl, rfl, rfl, h1, r1⟩ := trodAll_cons r0
  obtain ⟨v2, vs2, d2, ds2, p2, q2, rfl, rfl, rfl, h2, r2⟩ := trodAll_cons r1
  obtain ⟨v3, vs3, d3, ds3, p3, q3, rfl, rfl, rfl, h3, r3⟩ := trodAll_cons r2
  obtain ⟨v4, vs4, d4, ds4, p4, q4, rfl, rfl, rfl, h4, r4⟩ := trodAll_cons r3
  obtain ⟨rfl, rfl, rfl⟩ := trodAll_nil r4
  obtain rfl : args = #[v0, v1, v2, v3, v4] := by cases args; simp_all
  obtain ⟨rfl, rfl⟩ := trodVars_none hV
  obtain ⟨a0, len0, cap0, rfl⟩ := okWide_slice Yba.underlying73 (hval 0 73 v0 rfl rfl)
  have k0 := h0
  have lt0 : ∀ x ∈ p0, x.block < W.heap.size := by obtain ⟨m, hm⟩ := k0; exact DataW.trod_lt m _ _ _ hm
  obtain ⟨z0, w0⟩ : ∃ zs, IsRow .u8 W a0 len0 cap0 zs := by
    obtain ⟨fuel, hf⟩ := h0
    rcases open_ints Yba.underlying73 Yba.underlying5 (by kernel_rfl) hf with ⟨hcs, _⟩ | ⟨x, l, c, zs, hcs, _, hl, hm, hz, _, hcell, hwz⟩
    · simp [Value.cells] at hcs
      obtain ⟨rfl, rfl, rfl⟩ := hcs
      exact ⟨[], .inl ⟨rfl, rfl, rfl, rfl⟩⟩
    · simp [Value.cells] at hcs
      obtain ⟨rfl, rfl, rfl⟩ := hcs
      exact ⟨zs, .inr ⟨_, rfl, hl, hm, by simpa using hz, hcell, hwz⟩⟩
  obtain ⟨a1, len1, cap1, rfl⟩ := okWide_slice Yba.underlying73 (hval 1 73 v1 rfl rfl)
  have k1 := h1
  have lt1 : ∀ x ∈ p1, x.block < W.heap.size := by obtain ⟨m, hm⟩ := k1; exact DataW.trod_lt m _ _ _ hm
  obtain ⟨z1, w1⟩ : ∃ zs, IsRow .u8 W a1 len1 cap1 zs := by
    obtain ⟨fuel, hf⟩ := h1
    rcases open_ints Yba.underlying73 Yba.underlying5 (by kernel_rfl) hf with ⟨hcs, _⟩ | ⟨x, l, c, zs, hcs, _, hl, hm, hz, _, hcell, hwz⟩
    · simp [Value.cells] at hcs
      obtain ⟨rfl, rfl, rfl⟩ := hcs
      exact ⟨[], .inl ⟨rfl, rfl, rfl, rfl⟩⟩
    · simp [Value.cells] at hcs
      obtain ⟨rfl, rfl, rfl⟩ := hcs
      exact ⟨zs, .inr ⟨_, rfl, hl, hm, by simpa using hz, hcell, hwz⟩⟩
  obtain ⟨a2, len2, cap2, rfl⟩ := okWide_slice Yba.underlying90 (hval 2 90 v2 rfl rfl)
  have k2 := h2
  have lt2 : ∀ x ∈ p2, x.block < W.heap.size := by obtain ⟨m, hm⟩ := k2; exact DataW.trod_lt m _ _ _ hm
  obtain ⟨z2, w2⟩ : ∃ zs, IsRow .i8 W a2 len2 cap2 zs := by
    obtain ⟨fuel, hf⟩ := h2
    rcases open_ints Yba.underlying90 Yba.underlying23 (by kernel_rfl) hf with ⟨hcs, _⟩ | ⟨x, l, c, zs, hcs, _, hl, hm, hz, _, hcell, hwz⟩
    · simp [Value.cells] at hcs
      obtain ⟨rfl, rfl, rfl⟩ := hcs
      exact ⟨[], .inl ⟨rfl, rfl, rfl, rfl⟩⟩
    · simp [Value.cells] at hcs
      obtain ⟨rfl, rfl, rfl⟩ := hcs
      exact ⟨zs, .inr ⟨_, rfl, hl, hm, by simpa using hz, hcell, hwz⟩⟩
  obtain ⟨a3, len3, cap3, rfl⟩ := okWide_slice Yba.underlying90 (hval 3 90 v3 rfl rfl)
  have k3 := h3
  have lt3 : ∀ x ∈ p3, x.block < W.heap.size := by obtain ⟨m, hm⟩ := k3; exact DataW.trod_lt m _ _ _ hm
  obtain ⟨z3, w3⟩ : ∃ zs, IsRow .i8 W a3 len3 cap3 zs := by
    obtain ⟨fuel, hf⟩ := h3
    rcases open_ints Yba.underlying90 Yba.underlying23 (by kernel_rfl) hf with ⟨hcs, _⟩ | ⟨x, l, c, zs, hcs, _, hl, hm, hz, _, hcell, hwz⟩
    · simp [Value.cells] at hcs
      obtain ⟨rfl, rfl, rfl⟩ := hcs
      exact ⟨[], .inl ⟨rfl, rfl, rfl, rfl⟩⟩
    · simp [Value.cells] at hcs
      obtain ⟨rfl, rfl, rfl⟩ := hcs
      exact ⟨zs, .inr ⟨_, rfl, hl, hm, by simpa using hz, hcell, hwz⟩⟩
  have k4 := h4
  have lt4 : ∀ x ∈ p4, x.block < W.heap.size := by obtain ⟨m, hm⟩ := k4; exact DataW.trod_lt m _ _ _ hm
  obtain ⟨cs, rfl, hsz, _⟩ : ∃ cs, v4 = .agg cs ∧ cs.size = Yba.prog.cellsOf 91 ∧ Row.okWide Yba.prog W .any base 91 cs := by
    have := hval 4 91 v4 rfl rfl
    simpa [Value.okWide, Yba.underlying91] using this
  rw [cells91] at hsz
  obtain ⟨l⟩ := cs
  obtain ⟨c0, c1, c2, rfl⟩ := list3 l hsz
  obtain ⟨fuel, hf⟩ := h4
  obtain ⟨y0, y1, y2, m, hx, hy0, hy1, hy2⟩ := trod_array3 Yba.underlying91 cells5 hf
  obtain ⟨x0, e0, -, v0⟩ := DataW.trod_int Yba.underlying5 hy0
  obtain ⟨x1, e1, -, v1⟩ := DataW.trod_int Yba.underlying5 hy1
  obtain ⟨x2, e2, -, v2⟩ := DataW.trod_int Yba.underlying5 hy2
  simp at e0 e1 e2
  subst e0 e1 e2
  clear hA0 hval0
  refine (walk a0 a1 a2 a3 len0 cap0 len1 cap1 len2 cap2 len3 cap3 z0 z1 z2 z3 x0 x1 x2 W w0 w1 w2 w3 v0 v1 v2).mono fun e W' ⟨he, bel⟩ => ?_
  subst he
  exact ⟨_, rfl, _, _, _, [], _, [], hW', trodAll_mk1 (shut_bool Yba.underlying4 _), (trodAll_cons_mk (Below.trod laidOut (by kernel_rfl) (of_decide_eq_true (by kernel_rfl)) k0 bel lt0) (trodAll_cons_mk (Below.trod laidOut (by kernel_rfl) (of_decide_eq_true (by kernel_rfl)) k1 bel lt1) (trodAll_cons_mk (Below.trod laidOut (by kernel_rfl) (of_decide_eq_true (by kernel_rfl)) k2 bel lt2) (trodAll_cons_mk (Below.trod laidOut (by kernel_rfl) (of_decide_eq_true (by kernel_rfl)) k3 bel lt3) (trodAll_cons_mk (Below.trod laidOut (by kernel_rfl) (of_decide_eq_true (by kernel_rfl)) k4 bel lt4) trodAll_mk0))))), rfl, bel.frame _, fun h => by cases h⟩

theorem over : Rows.lawS0390BAllOnceInOrderRow.holds Yba.pinned (OpenSpec.ofChange Rows.lawS0390BAllOnceInOrderSpec) :=
  OpenClaim.holds_of_wide 5 Yba.f5 rfl rfl rfl rfl rfl rfl rfl ⟨rfl, rfl, rfl, rfl, rfl⟩ rfl rfl rfl rfl rfl (by kernel_rfl) Yba.func5 (by kernel_rfl)
    (of_decide_eq_true (by kernel_rfl)) (by unfold Func.isWrapper; first | (rw [if_pos (by decide +kernel)]; kernel_rfl) | (rw [if_neg (by decide +kernel)]; exact ⟨rfl, rfl⟩))
    (fun os started H enc _ => lifted os started H enc)

end Go.Proofs.Ybulkhba.lawS0390BAllOnceInOrder
namespace Go.Proofs.Ybulkhba
/-- THE STATEMENT. -/
theorem lawS0390BAllOnceInOrder_proved : Rows.LawS0390BAllOnceInOrderSaid := lawS0390BAllOnceInOrder.over
#print axioms lawS0390BAllOnceInOrder_proved
end Go.Proofs.Ybulkhba
