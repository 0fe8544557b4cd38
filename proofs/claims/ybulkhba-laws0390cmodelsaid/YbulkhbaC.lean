import Derived.Test.YbulkhbaCmp
import Derived.RowKit3
namespace Go.Proofs.Ybulkhba
open Go.RowKit

set_option maxHeartbeats 800000 in
theorem cmk_any (id : Int) (tn : ByteArray) (tk p d : Int) (h : Bool) (s : Int) (w : World) :
    Calls Yba.prog 22 #[.agg #[.int .i64 id, .string tn, .int .i64 tk, .int .i64 p, .int .i64 d, .bool h, .int .u64 s]] w fun e w' =>
      e = .returned (.agg #[.int .i64 id, .string tn, .int .i64 tk, .int .i64 p, .int .i64 d, .bool h, .int .u64 s]) ∧ ∃ c1 c2 : Array Value, w' = (w.alloc (.cells c1 115)).alloc (.cells c2 117) := by
  go_enter Yba.func22, Yba.ntmps22
  go_wp2
  simp [bodyPost, results, Yba.results22, go_sem]
  exact ⟨_, _, rfl⟩

/-! ### THE PLAIN LAWS OF THE ORDER -/
theorem cmpI_self (x : Int) : cmpI x x = 0 := by simp [cmpI]
theorem cmpI_neg (x y : Int) : cmpI y x = - cmpI x y := by
  unfold cmpI; split <;> split <;> (try split) <;> omega
theorem cmpI_zero (x y : Int) (h : cmpI x y = 0) : x = y := by
  unfold cmpI at h; split at h <;> (try split at h) <;> omega
theorem rankI_self (p d : Int) (h : Bool) : rankI p d h p d h = 0 := by cases h <;> simp [rankI, cmpI_self]
theorem rankI_neg (p1 d1 : Int) (h1 : Bool) (p2 d2 : Int) (h2 : Bool) : rankI p2 d2 h2 p1 d1 h1 = - rankI p1 d1 h1 p2 d2 h2 := by
  unfold rankI
  by_cases hp : p1 = p2
  · subst hp
    cases h1 <;> cases h2 <;> simp [cmpI_neg d1 d2]
  · have hp' : ¬ p2 = p1 := fun e => hp e.symm
    simp [hp, hp', cmpI_neg p2 p1]
theorem beforeB_irr (p d : Int) (h : Bool) (s : Int) : beforeB p d h s p d h s = false := by
  simp [beforeB, rankI_self]
theorem beforeB_pair (p1 d1 : Int) (h1 : Bool) (s1 : Int) (p2 d2 : Int) (h2 : Bool) (s2 : Int) :
    (beforeB p1 d1 h1 s1 p2 d2 h2 s2 = true ∧ beforeB p2 d2 h2 s2 p1 d1 h1 s1 = false) ∨ (beforeB p1 d1 h1 s1 p2 d2 h2 s2 = false ∧ beforeB p2 d2 h2 s2 p1 d1 h1 s1 = true) ∨
    (beforeB p1 d1 h1 s1 p2 d2 h2 s2 = false ∧ beforeB p2 d2 h2 s2 p1 d1 h1 s1 = false ∧ (s1 != s2) = false) := by
  unfold beforeB
  rw [rankI_neg p1 d1 h1 p2 d2 h2]
  generalize rankI p1 d1 h1 p2 d2 h2 = r
  by_cases h0 : r = 0
  · subst h0
    simp
    omega
  · have h1 : (r != 0) = true := by simp [h0]
    have h2 : (-r != 0) = true := by simp [h0]
    simp only [h1, h2, if_true]
    simp
    omega

/-- 'before' between two boxes of the call's own, in whatever world holds them. -/
theorem before_at (bx bY : Nat) (p1 d1 : Int) (h1 : Bool) (s1 : Int) (p2 d2 : Int) (h2 : Bool) (s2 : Int) (r : Bool) (hr : beforeB p1 d1 h1 s1 p2 d2 h2 s2 = r) (w : World)
    (cp1 : w.cell? ⟨bx, 3, none⟩ = some (.int .i64 p1)) (cd1 : w.cell? ⟨bx, 4, none⟩ = some (.int .i64 d1)) (ch1 : w.cell? ⟨bx, 5, none⟩ = some (.bool h1)) (cs1 : w.cell? ⟨bx, 6, none⟩ = some (.int .u64 s1))
    (cp2 : w.cell? ⟨bY, 3, none⟩ = some (.int .i64 p2)) (cd2 : w.cell? ⟨bY, 4, none⟩ = some (.int .i64 d2)) (ch2 : w.cell? ⟨bY, 5, none⟩ = some (.bool h2)) (cs2 : w.cell? ⟨bY, 6, none⟩ = some (.int .u64 s2)) :
    Calls Yba.prog 23 #[.pointer (some ⟨bx, 0, none⟩), .pointer (some ⟨bY, 0, none⟩)] w fun e w' => e = .returned (.bool r) ∧ ∃ n, w' = w.drewN n := by
  subst hr
  exact before_any bx 0 bY 0 p1 d1 h1 s1 p2 d2 h2 s2 w (by simpa using cp1) (by simpa using cd1) (by simpa using ch1) (by simpa using cs1) (by simpa using cp2) (by simpa using cd2) (by simpa using ch2) (by simpa using cs2)

set_option maxHeartbeats 1600000 in
theorem strict_any (i1 : Int) (t1 : ByteArray) (k1 p1 d1 : Int) (h1 : Bool) (s1 : Int) (i2 : Int) (t2 : ByteArray) (k2 p2 d2 : Int) (h2 : Bool) (s2 : Int) (w : World) :
    Calls Yba.prog 9 #[.agg #[.int .i64 i1, .string t1, .int .i64 k1, .int .i64 p1, .int .i64 d1, .bool h1, .int .u64 s1], .agg #[.int .i64 i2, .string t2, .int .i64 k2, .int .i64 p2, .int .i64 d2, .bool h2, .int .u64 s2]] w fun e w' =>
      e = .returned (.bool true) ∧ Below w.heap.size w w' := by
  have H := beforeB_pair p1 d1 h1 s1 p2 d2 h2 s2
  rcases H with ⟨e1, e2⟩ | ⟨e1, e2⟩ | ⟨e1, e2, e3⟩
  all_goals
    have E1 := Hid.mk e1
    have E2 := Hid.mk e2
    have Y1 := Hid.mk (beforeB_irr p1 d1 h1 s1)
    have Y2 := Hid.mk (beforeB_irr p2 d2 h2 s2)
    clear e1 e2
    go_enter Yba.func9, Yba.ntmps9
    go_wp2_with fail
    refine (cmk_any i1 t1 k1 p1 d1 h1 s1 _).mono ?_
    rintro e w' ⟨rfl, c1, c2, rfl⟩
    go_wp2_with fail
    refine (cmk_any i2 t2 k2 p2 d2 h2 s2 _).mono ?_
    rintro e w' ⟨rfl, c3, c4, rfl⟩
    go_wp2_with fail
    refine (before_at _ _ _ _ _ _ _ _ _ _ _ Y1.out _ ?_ ?_ ?_ ?_ ?_ ?_ ?_ ?_).mono ?_
    iterate 8 (simp [go_sem])
    rintro e w' ⟨rfl, n1, rfl⟩
    go_wp2_with fail
    refine (before_at _ _ _ _ _ _ _ _ _ _ _ Y2.out _ ?_ ?_ ?_ ?_ ?_ ?_ ?_ ?_).mono ?_
    iterate 8 (simp [go_sem])
    rintro e w' ⟨rfl, n2, rfl⟩
    go_wp2_with fail
    refine (before_at _ _ _ _ _ _ _ _ _ _ _ E1.out _ ?_ ?_ ?_ ?_ ?_ ?_ ?_ ?_).mono ?_
    iterate 8 (simp [go_sem])
    rintro e w' ⟨rfl, n3, rfl⟩
    go_wp2_with fail
    refine (before_at _ _ _ _ _ _ _ _ _ _ _ E2.out _ ?_ ?_ ?_ ?_ ?_ ?_ ?_ ?_).mono ?_
    iterate 8 (simp [go_sem])
    rintro e w' ⟨rfl, n4, rfl⟩
    go_wp2
  all_goals (go_ret; exact ⟨rfl, by repeat (first | exact Below.refl _ _ | apply below_drewN | apply Below.drew | (refine Below.alloc ?_ (by simp [go_sem] <;> omega) _))⟩)
end Go.Proofs.Ybulkhba
