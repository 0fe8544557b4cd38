import Derived.Test.YbulkhbaRows
import Derived.WalkKit
import Derived.ProofKit
import Derived.OpenShut
import Derived.ShutString
import Derived.ChangeOld
import Derived.Below
namespace Go.Proofs.Ybulkhba
open Go.ChangeShapes Go.WideShapes Go.ChangeAt Go.RowKit
open Go.ChangeMaps (open_string shut_string)

theorem Yba.own : ownKnob Yba.prog.godebug = none := by kernel_rfl
theorem Yba.laidOut : laidOutB Yba.prog = true := by kernel_rfl
theorem Yba.cells115 : Yba.prog.cellsOf 115 = 7 := by kernel_rfl
theorem Yba.cells3 : Yba.prog.cellsOf 3 = 1 := by kernel_rfl
theorem Yba.cells9 : Yba.prog.cellsOf 9 = 1 := by kernel_rfl
theorem Yba.cells2 : Yba.prog.cellsOf 2 = 1 := by kernel_rfl
theorem Yba.cells4 : Yba.prog.cellsOf 4 = 1 := by kernel_rfl
theorem Yba.cells26 : Yba.prog.cellsOf 26 = 1 := by kernel_rfl

theorem array7 {α : Type} {cs : Array α} (h : cs.size = 7) : ∃ c0 c1 c2 c3 c4 c5 c6, cs = #[c0, c1, c2, c3, c4, c5, c6] := by
  obtain ⟨l⟩ := cs
  match l, h with
  | [c0, c1, c2, c3, c4, c5, c6], _ => exact ⟨c0, c1, c2, c3, c4, c5, c6, rfl⟩

set_option maxRecDepth 100000 in
/-- THE LAW's ITEM, BY VALUE: its seven cells are plain values. -/
theorem open_item {H : Type} {enc : TypeId × Value → H} {W : World} {base : Nat} {v : Value} {d : DataW H} {p : List MemPlace}
    (hv : Value.okWide Yba.prog W .any base 115 v) (h : DataW.Trod enc Yba.prog W 0 (fun _ => true) true 115 v d p) :
    ∃ (id : Int) (tn : ByteArray) (tk pr dl : Int) (hd : Bool) (sq : Int), v = .agg #[.int .i64 id, .string tn, .int .i64 tk, .int .i64 pr, .int .i64 dl, .bool hd, .int .u64 sq] := by
  obtain ⟨cs, hcs, hsz⟩ := okWide_struct (P := Yba.prog) (t := 115) Yba.underlying115 hv
  clear hv
  subst hcs
  rw [Yba.cells115] at hsz
  obtain ⟨c0, c1, c2, c3, c4, c5, c6, rfl⟩ := array7 hsz
  obtain ⟨fuel, hf⟩ := h
  obtain ⟨xs, n, _, _, _, hlen, hg⟩ := DataW.trod_struct Yba.underlying115 hf
  have hlen' : xs.length = 7 := hlen
  have g : ∀ i, i < 7 → ∃ x, xs[i]? = some x := fun i hi => ⟨xs[i]'(by omega), List.getElem?_eq_getElem (by omega)⟩
  obtain ⟨x0, e0⟩ := g 0 (by omega)
  obtain ⟨x1, e1⟩ := g 1 (by omega)
  obtain ⟨x2, e2⟩ := g 2 (by omega)
  obtain ⟨x3, e3⟩ := g 3 (by omega)
  obtain ⟨x4, e4⟩ := g 4 (by omega)
  obtain ⟨x5, e5⟩ := g 5 (by omega)
  obtain ⟨x6, e6⟩ := g 6 (by omega)
  have t0 := (hg 0 _ rfl).trans e0
  have t1 := (hg 1 _ rfl).trans e1
  have t2 := (hg 2 _ rfl).trans e2
  have t3 := (hg 3 _ rfl).trans e3
  have t4 := (hg 4 _ rfl).trans e4
  have t5 := (hg 5 _ rfl).trans e5
  have t6 := (hg 6 _ rfl).trans e6
  obtain ⟨a0, q0, -, -⟩ := DataW.trod_int Yba.underlying3 t0
  obtain ⟨a1, q1, -, -⟩ := DataW.trod_string Yba.underlying9 t1
  obtain ⟨a2, q2, -, -⟩ := DataW.trod_int Yba.underlying2 t2
  obtain ⟨a3, q3, -, -⟩ := DataW.trod_int Yba.underlying2 t3
  obtain ⟨a4, q4, -, -⟩ := DataW.trod_int Yba.underlying2 t4
  obtain ⟨a5, q5, -⟩ := DataW.trod_bool Yba.underlying4 t5
  obtain ⟨a6, q6, -, -⟩ := DataW.trod_int Yba.underlying26 t6
  simp [Value.cells, Yba.cells3, Yba.cells9, Yba.cells2, Yba.cells4, Yba.cells26] at q0 q1 q2 q3 q4 q5 q6
  subst q0 q1 q2 q3 q4 q5 q6
  exact ⟨a0, a1, a2, a3, a4, a5, a6, rfl⟩

set_option maxRecDepth 100000 in
theorem strict_lifted (walk : ∀ (i1 : Int) (t1 : ByteArray) (k1 p1 d1 : Int) (h1 : Bool) (s1 : Int) (i2 : Int) (t2 : ByteArray) (k2 p2 d2 : Int) (h2 : Bool) (s2 : Int) (w : World),
    Calls Yba.prog 9 #[.agg #[.int .i64 i1, .string t1, .int .i64 k1, .int .i64 p1, .int .i64 d1, .bool h1, .int .u64 s1], .agg #[.int .i64 i2, .string t2, .int .i64 k2, .int .i64 p2, .int .i64 d2, .bool h2, .int .u64 s2]] w fun e w' =>
      e = .returned (.bool true) ∧ Below w.heap.size w w') (os : Os) (started : os.Started) (H : Type) (enc : TypeId × Value → H) :
    ReturnsInHanded {} Yba.checked os 9 .any (Rows.lawS0390CStrictSpec.pre6 enc Yba.prog Yba.f9 Rows.lawS0390CStrictRow.domain false) (Rows.lawS0390CStrictSpec.post enc Yba.prog Yba.f9 false true false false) := by
  refine returnsInHanded_of_change (C := Yba.checked) Yba.own started (by kernel_rfl) Yba.func9
    (ChangeSpec.witness6 (enc := enc) (C := Yba.checked) false ⟨#[], #[.agg #[.int .i64 0, .string ByteArray.empty, .int .i64 0, .int .i64 0, .int .i64 0, .bool false, .int .u64 0], .agg #[.int .i64 0, .string ByteArray.empty, .int .i64 0, .int .i64 0, .int .i64 0, .bool false, .int .u64 0]], []⟩ 8 (by kernel_rfl) (by kernel_rfl) (by kernel_rfl) (by kernel_rfl)) ?_
  intro W base args ds gs before hval0 hW hcnd _
  have hval : ∀ (j : Nat) t v, Yba.f9.params[j]? = some t → args[j]? = some v → Value.okWide Yba.prog W .any base t v := hval0
  have hW' := hW
  obtain ⟨p, q, hA0, hV, rfl, hfz, hnd⟩ := hW
  have hA : DataW.TrodAll enc Yba.prog W 0 (fun _ => true) true Yba.f9.params.toList args.toList ds p := hA0
  rw [Yba.params9] at hA hval
  obtain ⟨v0, vs0, d0, ds0, p0, q0, hargs, rfl, rfl, h0, r0⟩ := trodAll_cons hA
  obtain ⟨v1, vs1, d1, ds1, p1, q1, rfl, rfl, rfl, h1, r1⟩ := trodAll_cons r0
  obtain ⟨rfl, rfl, rfl⟩ := trodAll_nil r1
  obtain rfl : args = #[v0, v1] := by cases args; simp_all
  obtain ⟨rfl, rfl⟩ := trodVars_none hV
  have k0 := h0
  have k1 := h1
  have lt0 : ∀ x ∈ p0, x.block < W.heap.size := by obtain ⟨m, hm⟩ := k0; exact DataW.trod_lt m _ _ _ hm
  have lt1 : ∀ x ∈ p1, x.block < W.heap.size := by obtain ⟨m, hm⟩ := k1; exact DataW.trod_lt m _ _ _ hm
  obtain ⟨a0, a1, a2, a3, a4, a5, a6, e0⟩ := open_item (hval 0 115 v0 rfl rfl) h0
  obtain ⟨b0, b1, b2, b3, b4, b5, b6, e1⟩ := open_item (hval 1 115 v1 rfl rfl) h1
  subst e0 e1
  clear hA0 hval0
  refine (walk a0 a1 a2 a3 a4 a5 a6 b0 b1 b2 b3 b4 b5 b6 W).mono fun e W' ⟨he, bel⟩ => ?_
  subst he
  exact ⟨_, rfl, _, _, _, [], _, [], hW', trodAll_mk1 (shut_bool Yba.underlying4 _), (trodAll_cons_mk (Below.trod Yba.laidOut (by kernel_rfl) (of_decide_eq_true (by kernel_rfl)) k0 bel lt0) (trodAll_cons_mk (Below.trod Yba.laidOut (by kernel_rfl) (of_decide_eq_true (by kernel_rfl)) k1 bel lt1) trodAll_mk0)), rfl, bel.frame _, fun h => by cases h⟩

set_option maxRecDepth 100000 in
theorem model_lifted (walk : ∀ (i1 : Int) (t1 : ByteArray) (k1 p1 d1 : Int) (h1 : Bool) (s1 : Int) (i2 : Int) (t2 : ByteArray) (k2 p2 d2 : Int) (h2 : Bool) (s2 : Int) (w : World),
    Calls Yba.prog 8 #[.agg #[.int .i64 i1, .string t1, .int .i64 k1, .int .i64 p1, .int .i64 d1, .bool h1, .int .u64 s1], .agg #[.int .i64 i2, .string t2, .int .i64 k2, .int .i64 p2, .int .i64 d2, .bool h2, .int .u64 s2]] w fun e w' =>
      e = .returned (.bool true) ∧ Below w.heap.size w w') (os : Os) (started : os.Started) (H : Type) (enc : TypeId × Value → H) :
    ReturnsInHanded {} Yba.checked os 8 .any (Rows.lawS0390CModelSpec.pre6 enc Yba.prog Yba.f8 Rows.lawS0390CModelRow.domain false) (Rows.lawS0390CModelSpec.post enc Yba.prog Yba.f8 false true false false) := by
  refine returnsInHanded_of_change (C := Yba.checked) Yba.own started (by kernel_rfl) Yba.func8
    (ChangeSpec.witness6 (enc := enc) (C := Yba.checked) false ⟨#[], #[.agg #[.int .i64 0, .string ByteArray.empty, .int .i64 0, .int .i64 0, .int .i64 0, .bool false, .int .u64 0], .agg #[.int .i64 0, .string ByteArray.empty, .int .i64 0, .int .i64 0, .int .i64 0, .bool false, .int .u64 0]], []⟩ 8 (by kernel_rfl) (by kernel_rfl) (by kernel_rfl) (by kernel_rfl)) ?_
  intro W base args ds gs before hval0 hW hcnd _
  have hval : ∀ (j : Nat) t v, Yba.f8.params[j]? = some t → args[j]? = some v → Value.okWide Yba.prog W .any base t v := hval0
  have hW' := hW
  obtain ⟨p, q, hA0, hV, rfl, hfz, hnd⟩ := hW
  have hA : DataW.TrodAll enc Yba.prog W 0 (fun _ => true) true Yba.f8.params.toList args.toList ds p := hA0
  rw [Yba.params8] at hA hval
  obtain ⟨v0, vs0, d0, ds0, p0, q0, hargs, rfl, rfl, h0, r0⟩ := trodAll_cons hA
  obtain ⟨v1, vs1, d1, ds1, p1, q1, rfl, rfl, rfl, h1, r1⟩ := trodAll_cons r0
  obtain ⟨rfl, rfl, rfl⟩ := trodAll_nil r1
  obtain rfl : args = #[v0, v1] := by cases args; simp_all
  obtain ⟨rfl, rfl⟩ := trodVars_none hV
  have k0 := h0
  have k1 := h1
  have lt0 : ∀ x ∈ p0, x.block < W.heap.size := by obtain ⟨m, hm⟩ := k0; exact DataW.trod_lt m _ _ _ hm
  have lt1 : ∀ x ∈ p1, x.block < W.heap.size := by obtain ⟨m, hm⟩ := k1; exact DataW.trod_lt m _ _ _ hm
  obtain ⟨a0, a1, a2, a3, a4, a5, a6, e0⟩ := open_item (hval 0 115 v0 rfl rfl) h0
  obtain ⟨b0, b1, b2, b3, b4, b5, b6, e1⟩ := open_item (hval 1 115 v1 rfl rfl) h1
  subst e0 e1
  clear hA0 hval0
  refine (walk a0 a1 a2 a3 a4 a5 a6 b0 b1 b2 b3 b4 b5 b6 W).mono fun e W' ⟨he, bel⟩ => ?_
  subst he
  exact ⟨_, rfl, _, _, _, [], _, [], hW', trodAll_mk1 (shut_bool Yba.underlying4 _), (trodAll_cons_mk (Below.trod Yba.laidOut (by kernel_rfl) (of_decide_eq_true (by kernel_rfl)) k0 bel lt0) (trodAll_cons_mk (Below.trod Yba.laidOut (by kernel_rfl) (of_decide_eq_true (by kernel_rfl)) k1 bel lt1) trodAll_mk0)), rfl, bel.frame _, fun h => by cases h⟩
end Go.Proofs.Ybulkhba
