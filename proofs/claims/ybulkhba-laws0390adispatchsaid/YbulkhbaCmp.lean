import Derived.Test.YbulkhbaBase
namespace Go.Proofs.Ybulkhba
open Go.RowKit

def cmpI (x y : Int) : Int := if x < y then -1 else if y < x then 1 else 0

set_option maxHeartbeats 400000 in
theorem compare_i64 (x y : Int) (w : World) :
    Calls Yba.prog 59 #[.int .i64 x, .int .i64 y] w fun e w' => e = .returned (.int .i64 (cmpI x y)) ∧ w' = w := by
  unfold cmpI
  go_enter Yba.func59, Yba.ntmps59
  go_wp2
  all_goals (go_ret; exact ⟨rfl, rfl⟩)

set_option maxHeartbeats 400000 in
theorem compare_dur (x y : Int) (w : World) :
    Calls Yba.prog 60 #[.int .i64 x, .int .i64 y] w fun e w' => e = .returned (.int .i64 (cmpI x y)) ∧ w' = w := by
  unfold cmpI
  go_enter Yba.func60, Yba.ntmps60
  go_wp2
  all_goals (go_ret; exact ⟨rfl, rfl⟩)

def rankI (p1 d1 : Int) (h1 : Bool) (p2 d2 : Int) (h2 : Bool) : Int :=
  if (p1 != p2) then cmpI p2 p1 else if (h1 != h2) then (if h1 then -1 else 1) else if h1 then cmpI d1 d2 else 0

/-- A callee that only draws, met in a world that is w behind some draws. -/
theorem quietD {f : FuncId} {args : Array Value} {w W : World} {v : Value} (hW : ∃ k, W = w.drewN k)
    (h : Calls Yba.prog f args W fun e w' => e = .returned v ∧ ∃ n, w' = W.drewN n) : Calls Yba.prog f args W fun e w'' => e = .returned v ∧ ∃ m, w'' = w.drewN m := by
  obtain ⟨k, rfl⟩ := hW
  exact h.mono fun e w' h => ⟨h.1, by obtain ⟨_, n, h2⟩ := h; exact ⟨_, h2.trans (World.drewN_drewN _ _ _)⟩⟩

set_option maxHeartbeats 800000 in
theorem rank_any (b1 o1 b2 o2 : Nat) (p1 d1 : Int) (h1 : Bool) (p2 d2 : Int) (h2 : Bool) (w : World)
    (cp1 : w.cell? ⟨b1, o1 + 3, none⟩ = some (.int .i64 p1)) (cd1 : w.cell? ⟨b1, o1 + 4, none⟩ = some (.int .i64 d1)) (ch1 : w.cell? ⟨b1, o1 + 5, none⟩ = some (.bool h1))
    (cp2 : w.cell? ⟨b2, o2 + 3, none⟩ = some (.int .i64 p2)) (cd2 : w.cell? ⟨b2, o2 + 4, none⟩ = some (.int .i64 d2)) (ch2 : w.cell? ⟨b2, o2 + 5, none⟩ = some (.bool h2)) :
    Calls Yba.prog 44 #[.pointer (some ⟨b1, o1, none⟩), .pointer (some ⟨b2, o2, none⟩)] w fun e w' => e = .returned (.int .i64 (rankI p1 d1 h1 p2 d2 h2)) ∧ ∃ n, w' = w.drewN n := by
  by_cases hp : (p1 != p2) = true
  · have HR : Hid (rankI p1 d1 h1 p2 d2 h2 = cmpI p2 p1) := by unfold rankI; rw [if_pos hp]; rfl
    go_enter Yba.func44, Yba.ntmps44
    go_wp2
    go_quiet (fail)
    go_wp2
    go_quiet ((go_at_call 59; exact (compare_i64 _ _ _).mono fun e w' h => ⟨h.1, _, h.2⟩))
    go_wp2
    go_ret
    exact ⟨by rw [HR.out]; rfl, by first | exact ⟨_, rfl⟩ | exact ⟨_, World.drewN_drewN _ _ _⟩ | (simp only [World.drewN_drewN]; exact ⟨_, rfl⟩)⟩
  · simp only [Bool.not_eq_true] at hp
    cases h1 <;> cases h2
    · have HR : Hid (rankI p1 d1 false p2 d2 false = 0) := by unfold rankI; rw [if_neg (by simp [hp])]; rfl
      go_enter Yba.func44, Yba.ntmps44
      go_wp2
      go_quiet (fail)
      go_wp2
      go_quiet (fail)
      go_wp2
      go_ret
      exact ⟨by rw [HR.out]; rfl, by first | exact ⟨_, rfl⟩ | exact ⟨_, World.drewN_drewN _ _ _⟩ | (simp only [World.drewN_drewN]; exact ⟨_, rfl⟩)⟩
    · have HR : Hid (rankI p1 d1 false p2 d2 true = 1) := by unfold rankI; rw [if_neg (by simp [hp])]; rfl
      go_enter Yba.func44, Yba.ntmps44
      go_wp2
      go_quiet (fail)
      go_wp2
      go_quiet (fail)
      go_wp2
      go_ret
      exact ⟨by rw [HR.out]; rfl, by first | exact ⟨_, rfl⟩ | exact ⟨_, World.drewN_drewN _ _ _⟩ | (simp only [World.drewN_drewN]; exact ⟨_, rfl⟩)⟩
    · have HR : Hid (rankI p1 d1 true p2 d2 false = -1) := by unfold rankI; rw [if_neg (by simp [hp])]; rfl
      go_enter Yba.func44, Yba.ntmps44
      go_wp2
      go_quiet (fail)
      go_wp2
      go_quiet (fail)
      go_wp2
      go_ret
      exact ⟨by rw [HR.out]; rfl, by first | exact ⟨_, rfl⟩ | exact ⟨_, World.drewN_drewN _ _ _⟩ | (simp only [World.drewN_drewN]; exact ⟨_, rfl⟩)⟩
    · have HR : Hid (rankI p1 d1 true p2 d2 true = cmpI d1 d2) := by unfold rankI; rw [if_neg (by simp [hp])]; rfl
      go_enter Yba.func44, Yba.ntmps44
      go_wp2
      go_quiet (fail)
      go_wp2
      go_quiet (fail)
      go_wp2
      go_quiet ((go_at_call 60; exact (compare_dur _ _ _).mono fun e w' h => ⟨h.1, _, h.2⟩))
      go_wp2
      go_ret
      exact ⟨by rw [HR.out]; rfl, by first | exact ⟨_, rfl⟩ | exact ⟨_, World.drewN_drewN _ _ _⟩ | (simp only [World.drewN_drewN]; exact ⟨_, rfl⟩)⟩

def beforeB (p1 d1 : Int) (h1 : Bool) (s1 : Int) (p2 d2 : Int) (h2 : Bool) (s2 : Int) : Bool :=
  if (rankI p1 d1 h1 p2 d2 h2 != 0) then decide (rankI p1 d1 h1 p2 d2 h2 < 0) else decide (s1 < s2)

set_option maxHeartbeats 800000 in
theorem before_any (b1 o1 b2 o2 : Nat) (p1 d1 : Int) (h1 : Bool) (s1 : Int) (p2 d2 : Int) (h2 : Bool) (s2 : Int) (w : World)
    (cp1 : w.cell? ⟨b1, o1 + 3, none⟩ = some (.int .i64 p1)) (cd1 : w.cell? ⟨b1, o1 + 4, none⟩ = some (.int .i64 d1)) (ch1 : w.cell? ⟨b1, o1 + 5, none⟩ = some (.bool h1)) (cs1 : w.cell? ⟨b1, o1 + 6, none⟩ = some (.int .u64 s1))
    (cp2 : w.cell? ⟨b2, o2 + 3, none⟩ = some (.int .i64 p2)) (cd2 : w.cell? ⟨b2, o2 + 4, none⟩ = some (.int .i64 d2)) (ch2 : w.cell? ⟨b2, o2 + 5, none⟩ = some (.bool h2)) (cs2 : w.cell? ⟨b2, o2 + 6, none⟩ = some (.int .u64 s2)) :
    Calls Yba.prog 23 #[.pointer (some ⟨b1, o1, none⟩), .pointer (some ⟨b2, o2, none⟩)] w fun e w' => e = .returned (.bool (beforeB p1 d1 h1 s1 p2 d2 h2 s2)) ∧ ∃ n, w' = w.drewN n := by
  unfold beforeB
  generalize hr : rankI p1 d1 h1 p2 d2 h2 = r
  have hrk : Hid (∀ W, (∃ k, W = w.drewN k) → Calls Yba.prog 44 #[.pointer (some ⟨b1, o1, none⟩), .pointer (some ⟨b2, o2, none⟩)] W fun e w' => e = .returned (.int .i64 r) ∧ ∃ n, w' = w.drewN n) := by
    rintro W ⟨k, rfl⟩
    exact quietD ⟨_, rfl⟩ (hr ▸ rank_any b1 o1 b2 o2 p1 d1 h1 p2 d2 h2 _ cp1 cd1 ch1 cp2 cd2 ch2)
  clear hr
  cases hc : (r != 0)
  · go_enter Yba.func23, Yba.ntmps23
    go_wp2
    go_quiet ((go_at_call 44; exact hrk.out _ ⟨_, rfl⟩))
    go_wp2
    go_quiet (fail)
    go_wp2
    go_ret
    exact ⟨rfl, by first | exact ⟨_, rfl⟩ | exact ⟨_, World.drewN_drewN _ _ _⟩ | (simp only [World.drewN_drewN]; exact ⟨_, rfl⟩)⟩
  · go_enter Yba.func23, Yba.ntmps23
    go_wp2
    go_quiet ((go_at_call 44; exact hrk.out _ ⟨_, rfl⟩))
    go_wp2
    go_ret
    exact ⟨rfl, by first | exact ⟨_, rfl⟩ | exact ⟨_, World.drewN_drewN _ _ _⟩ | (simp only [World.drewN_drewN]; exact ⟨_, rfl⟩)⟩
end Go.Proofs.Ybulkhba
