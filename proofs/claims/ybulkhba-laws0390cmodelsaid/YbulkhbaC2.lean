import Derived.Test.YbulkhbaC
namespace Go.Proofs.Ybulkhba
open Go.RowKit

def modelB (p1 d1 : Int) (h1 : Bool) (s1 : Int) (p2 d2 : Int) (h2 : Bool) (s2 : Int) : Bool :=
  if (p1 != p2) then decide (p2 < p1) else if (h1 != h2) then h1 else if h1 then (if (d1 != d2) then decide (d1 < d2) else decide (s1 < s2)) else decide (s1 < s2)

theorem modelB_eq (p1 d1 : Int) (h1 : Bool) (s1 : Int) (p2 d2 : Int) (h2 : Bool) (s2 : Int) : beforeB p1 d1 h1 s1 p2 d2 h2 s2 = modelB p1 d1 h1 s1 p2 d2 h2 s2 := by
  unfold beforeB modelB rankI cmpI
  by_cases hp : p1 = p2
  · subst hp
    cases h1 <;> cases h2 <;> simp
    by_cases hd : d1 = d2
    · subst hd; simp
    · by_cases hl : d1 < d2
      · simp [hl, hd]
      · have : d2 < d1 := by omega
        simp [hl, hd, this]
  · have hp' : ¬ p2 = p1 := fun e => hp e.symm
    by_cases hl : p2 < p1
    · simp [hl, hp]
    · have : p1 < p2 := by omega
      simp [hl, hp, this]

set_option maxHeartbeats 800000 in
theorem cmodel_any (i1 : Int) (t1 : ByteArray) (k1 p1 d1 : Int) (h1 : Bool) (s1 : Int) (i2 : Int) (t2 : ByteArray) (k2 p2 d2 : Int) (h2 : Bool) (s2 : Int) (w : World) :
    Calls Yba.prog 24 #[.agg #[.int .i64 i1, .string t1, .int .i64 k1, .int .i64 p1, .int .i64 d1, .bool h1, .int .u64 s1], .agg #[.int .i64 i2, .string t2, .int .i64 k2, .int .i64 p2, .int .i64 d2, .bool h2, .int .u64 s2]] w fun e w' =>
      e = .returned (.bool (modelB p1 d1 h1 s1 p2 d2 h2 s2)) ∧ Below w.heap.size w w' := by
  unfold modelB
  cases hp : (p1 != p2)
  · cases h1 <;> cases h2
    case true.true =>
      cases hd : (d1 != d2)
      all_goals
        go_enter Yba.func24, Yba.ntmps24
        go_wp2
        go_ret
        exact ⟨rfl, ((Below.refl _ _).alloc (Nat.le_refl _) _).alloc (by simp [go_sem]) _⟩
    all_goals
      go_enter Yba.func24, Yba.ntmps24
      go_wp2
      go_ret
      exact ⟨rfl, ((Below.refl _ _).alloc (Nat.le_refl _) _).alloc (by simp [go_sem]) _⟩
  · go_enter Yba.func24, Yba.ntmps24
    go_wp2
    go_ret
    exact ⟨rfl, ((Below.refl _ _).alloc (Nat.le_refl _) _).alloc (by simp [go_sem]) _⟩

set_option maxHeartbeats 1600000 in
theorem model_any (i1 : Int) (t1 : ByteArray) (k1 p1 d1 : Int) (h1 : Bool) (s1 : Int) (i2 : Int) (t2 : ByteArray) (k2 p2 d2 : Int) (h2 : Bool) (s2 : Int) (w : World) :
    Calls Yba.prog 8 #[.agg #[.int .i64 i1, .string t1, .int .i64 k1, .int .i64 p1, .int .i64 d1, .bool h1, .int .u64 s1], .agg #[.int .i64 i2, .string t2, .int .i64 k2, .int .i64 p2, .int .i64 d2, .bool h2, .int .u64 s2]] w fun e w' =>
      e = .returned (.bool true) ∧ Below w.heap.size w w' := by
  obtain ⟨r, hr⟩ : ∃ r, modelB p1 d1 h1 s1 p2 d2 h2 s2 = r := ⟨_, rfl⟩
  have hb : beforeB p1 d1 h1 s1 p2 d2 h2 s2 = r := (modelB_eq ..).trans hr
  have M : Hid (∀ W, Calls Yba.prog 24 #[.agg #[.int .i64 i1, .string t1, .int .i64 k1, .int .i64 p1, .int .i64 d1, .bool h1, .int .u64 s1], .agg #[.int .i64 i2, .string t2, .int .i64 k2, .int .i64 p2, .int .i64 d2, .bool h2, .int .u64 s2]] W fun e w' =>
      e = .returned (.bool r) ∧ Below W.heap.size W w') := fun W => hr ▸ cmodel_any i1 t1 k1 p1 d1 h1 s1 i2 t2 k2 p2 d2 h2 s2 W
  have E := Hid.mk hb
  clear hr hb
  go_enter Yba.func8, Yba.ntmps8
  go_wp2_with fail
  refine (cmk_any i1 t1 k1 p1 d1 h1 s1 _).mono ?_
  rintro e w' ⟨rfl, c1, c2, rfl⟩
  go_wp2_with fail
  refine (cmk_any i2 t2 k2 p2 d2 h2 s2 _).mono ?_
  rintro e w' ⟨rfl, c3, c4, rfl⟩
  go_wp2_with fail
  refine wp_world (fun W => Below w.heap.size w W ∧ Row W w.heap.size 115 #[.int .i64 i1, .string t1, .int .i64 k1, .int .i64 p1, .int .i64 d1, .bool h1, .int .u64 s1] ∧ Row W (w.heap.size + 1) 115 #[.int .i64 i2, .string t2, .int .i64 k2, .int .i64 p2, .int .i64 d2, .bool h2, .int .u64 s2] ∧
    Row W (w.heap.size + 1 + 1 + 1 + 1) 117 #[.int .i64 i1, .string t1, .int .i64 k1, .int .i64 p1, .int .i64 d1, .bool h1, .int .u64 s1] ∧ Row W (w.heap.size + 1 + 1 + 1 + 1 + 1 + 1 + 1) 117 #[.int .i64 i2, .string t2, .int .i64 k2, .int .i64 p2, .int .i64 d2, .bool h2, .int .u64 s2]) ?_ ?_
  · refine ⟨?_, ?_, ?_, ?_, ?_⟩
    · repeat (first | exact Below.refl _ _ | (refine Below.alloc ?_ (by simp [go_sem] <;> omega) _))
    all_goals (repeat (first | exact row_new _ _ _ _ (by simp [go_sem]) | refine Row.alloc ?_ _))
  rintro W ⟨hbel, r1, r2, r3, r4⟩
  generalize w.heap.size + 1 + 1 + 1 + 1 + 1 + 1 + 1 = bY at *
  generalize w.heap.size + 1 + 1 + 1 + 1 = bx at *
  have c1 := fun u : Ext W => fun i => (r1.ext u).cell i
  have c2 := fun u : Ext W => fun i => (r2.ext u).cell i
  have c3 : Hid (∀ u : Ext W, ∀ i, _) := fun u : Ext W => fun i => (r3.ext u).cell i
  have c4 : Hid (∀ u : Ext W, ∀ i, _) := fun u : Ext W => fun i => (r4.ext u).cell i
  have HB := Hid.mk hbel
  have ne : Nonempty (Ext W) := ⟨⟨W, Below.refl _ _⟩⟩
  clear r1 r2 r3 r4 hbel
  refine wp_region_ext (by kernel_rfl) (by kernel_rfl) ?_
  unfold InExt
  repeat (go_big_quiet_step (first
    | (go_at_call 23; exact quietE _ ((before_at bx bY p1 d1 h1 s1 p2 d2 h2 s2 r E.out _ (by simp [c3.out]) (by simp [c3.out]) (by simp [c3.out]) (by simp [c3.out]) (by simp [c4.out]) (by simp [c4.out]) (by simp [c4.out]) (by simp [c4.out])).mono fun e w' h => ⟨h.1, by obtain ⟨n, hn⟩ := h.2; rw [hn]; exact below_drewN (Below.refl _ _) n⟩))
    | (go_at_call 24; exact quietE _ (M.out _))))
  refine wpQuiet_nil ?_
  rintro _ ⟨u, rfl⟩
  have hB2 : Below w.heap.size w u.1 := HB.out.trans (u.2.mono HB.out.size)
  have HB2 := Hid.mk hB2
  clear hB2
  go_wp2
  go_ret
  exact ⟨by simp, HB2.out⟩
end Go.Proofs.Ybulkhba
