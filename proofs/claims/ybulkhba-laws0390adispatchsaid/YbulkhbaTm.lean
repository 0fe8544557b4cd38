import Derived.Test.YbulkhbaLocks
import Derived.Laws.BitsAllLaws
namespace Go.Proofs.Ybulkhba
open Go.RowKit
set_option linter.unusedVariables false
set_option linter.unusedSimpArgs false

/-! ### TIME: wall (nanoseconds alone, no monotonic reading), ext (seconds) -/
theorem nat_and_low (a : Nat) (h : a < 1073741824) : a &&& 1073741823 = a := by
  have := Nat.and_two_pow_sub_one_eq_mod a 30
  simp at this
  omega
theorem nat_and_up (a k m : Nat) (h : a < 2 ^ k) : a &&& (2 ^ k * m) = 0 := by
  apply Nat.eq_of_testBit_eq
  intro i
  rw [Nat.testBit_and, Nat.zero_testBit]
  by_cases hi : i < k
  · rw [Nat.testBit_two_pow_mul]
    have : ¬ i ≥ k := by omega
    simp [this]
  · rw [Nat.testBit_lt_two_pow (show a < 2 ^ i from Nat.lt_of_lt_of_le h (Nat.pow_le_pow_right (by omega) (by omega)))]
    rfl
theorem nat_and_high (a : Nat) (h : a < 1073741824) : a &&& 18446744072635809792 = 0 := nat_and_up a 30 17179869183 h
theorem nat_and_top (a : Nat) (h : a < 9223372036854775808) : a &&& 9223372036854775808 = 0 := nat_and_up a 63 1 h
theorem u64_low {x : Int} (h0 : 0 ≤ x) (h1 : x < 1073741824) : bits .and .u64 x 1073741823 = x := by
  rw [u64_and x 1073741823 h0 (by omega) (by omega) (by omega)]
  have := nat_and_low x.toNat (by omega)
  simp only [Int.reduceToNat] at *
  omega
theorem u64_high {x : Int} (h0 : 0 ≤ x) (h1 : x < 1073741824) : bits .andNot .u64 x 1073741823 = 0 := by
  rw [u64_andNot x 1073741823 h0 (by omega) (by omega) (by omega)]
  have := nat_and_high x.toNat (by omega)
  simp only [Int.reduceToNat] at *
  simpa using this
theorem u64_or0 {x : Int} (h0 : 0 ≤ x) (h1 : x < 1073741824) : bits .or .u64 0 x = x := by
  rw [u64_or 0 x (by omega) (by omega) h0 (by omega)]
  simp
  omega
theorem u64_top {x : Int} (h0 : 0 ≤ x) (h1 : x < 1073741824) : bits .and .u64 x 9223372036854775808 = 0 := by
  rw [u64_and x 9223372036854775808 h0 (by omega) (by omega) (by omega)]
  have := nat_and_top x.toNat (by omega)
  simp only [Int.reduceToNat] at *
  simpa using this

abbrev tmV (wl ex : Int) : Array Value := #[.int .u64 wl, .int .i64 ex, .pointer none]

/-- (*time.Time).nsec -/
theorem nsec_any (b : Nat) (wl : Int) (w : World) (c0 : w.cell? ⟨b, 0, none⟩ = some (.int .u64 wl)) (h0 : 0 ≤ wl) (h1 : wl < 1000000000) :
    Calls Yba.prog 26 #[.pointer (some ⟨b, 0, none⟩)] w fun e w' => e = .returned (.int .i32 wl) ∧ w' = w := by
  have hb := u64_low h0 (show wl < 1073741824 by omega)
  go_enter Yba.func26, Yba.ntmps26
  go_wp2
  go_ret
  exact ⟨rfl, rfl⟩
/-- (*time.Time).sec -/
theorem sec_any (b : Nat) (wl ex : Int) (w : World) (c0 : w.cell? ⟨b, 0, none⟩ = some (.int .u64 wl)) (c1 : w.cell? ⟨b, 1, none⟩ = some (.int .i64 ex)) (h0 : 0 ≤ wl) (h1 : wl < 1000000000) :
    Calls Yba.prog 33 #[.pointer (some ⟨b, 0, none⟩)] w fun e w' => e = .returned (.int .i64 ex) ∧ w' = w := by
  have hb := u64_top h0 (show wl < 1073741824 by omega)
  go_enter Yba.func33, Yba.ntmps33
  go_wp2
  go_ret
  exact ⟨rfl, rfl⟩
/-- Seconds added, held within an int64. -/
def addE (ex d : Int) : Int := if (decide (ex < wrap64 (ex + d)) == decide (0 < d)) then wrap64 (ex + d) else if 0 < d then 9223372036854775807 else -9223372036854775807
set_option maxRecDepth 100000 in
set_option maxHeartbeats 800000 in
/-- (*time.Time).addSec -/
theorem addSec_any (b : Nat) (wl ex d : Int) (w : World) (c0 : w.cell? ⟨b, 0, none⟩ = some (.int .u64 wl)) (c1 : w.cell? ⟨b, 1, none⟩ = some (.int .i64 ex)) (f1 : w.frozen? ⟨b, 1, none⟩ = false) (h0 : 0 ≤ wl) (h1 : wl < 1000000000) :
    Calls Yba.prog 27 #[.pointer (some ⟨b, 0, none⟩), .int .i64 d] w fun e w' => e = .returned (.tuple #[]) ∧ w' = w.setCell ⟨b, 1, none⟩ (.int .i64 (addE ex d)) := by
  have hb := u64_top h0 (show wl < 1073741824 by omega)
  unfold addE
  obtain ⟨sm, hsm⟩ : ∃ sm, wrap64 (ex + d) = sm := ⟨_, rfl⟩
  rw [hsm]
  by_cases hd : 0 < d
  · by_cases hs : ex < sm
    · go_enter Yba.func27, Yba.ntmps27
      go_wp2
      all_goals
        go_end0
        first | exact ⟨rfl, by simp [hs, hd]⟩ | (exfalso; simp_all; done)
    · go_enter Yba.func27, Yba.ntmps27
      go_wp2
      all_goals
        go_end0
        first | exact ⟨rfl, by simp [hs, hd]⟩ | (exfalso; simp_all; done)
  · by_cases hs : ex < sm
    · go_enter Yba.func27, Yba.ntmps27
      go_wp2
      all_goals
        go_end0
        first | exact ⟨rfl, by simp [hs, hd]⟩ | (exfalso; simp_all; done)
    · have hse : sm ≤ ex := by omega
      have hde : d ≤ 0 := by omega
      go_enter Yba.func27, Yba.ntmps27
      go_wp2
      all_goals
        go_end0
        first | exact ⟨rfl, by simp [hs, hd]⟩ | (exfalso; simp_all; done)
/-- What Add makes of the nanoseconds and the seconds. -/
def addW (wl d : Int) : Int := if 1000000000 ≤ wl + d.tmod 1000000000 then wl + d.tmod 1000000000 - 1000000000 else if wl + d.tmod 1000000000 < 0 then wl + d.tmod 1000000000 + 1000000000 else wl + d.tmod 1000000000
def addX (wl ex d : Int) : Int := if 1000000000 ≤ wl + d.tmod 1000000000 then addE ex (d.tdiv 1000000000 + 1) else if wl + d.tmod 1000000000 < 0 then addE ex (d.tdiv 1000000000 - 1) else addE ex (d.tdiv 1000000000)
theorem addW_rng {wl d : Int} (h0 : 0 ≤ wl) (h1 : wl < 1000000000) : 0 ≤ addW wl d ∧ addW wl d < 1000000000 := by
  have h2 := Int.tmod_lt_of_pos d (show (0 : Int) < 1000000000 by omega)
  have h3 := Int.lt_tmod_of_pos d (show (0 : Int) < 1000000000 by omega)
  unfold addW
  split
  · omega
  · split <;> omega
set_option maxRecDepth 100000 in
set_option maxHeartbeats 1600000 in
/-- (time.Time).Add -/
theorem add_any (wl ex d : Int) (w : World) (h0 : 0 ≤ wl) (h1 : wl < 1000000000) (hd0 : -9223372036854775808 ≤ d) (hd1 : d ≤ 9223372036854775807) :
    Calls Yba.prog 10 #[.agg (tmV wl ex), .int .i64 d] w fun e w' => e = .returned (.agg (tmV (addW wl d) (addX wl ex d))) ∧ Below w.heap.size w w' := by
  have r1 := Int.tmod_lt_of_pos d (show (0 : Int) < 1000000000 by omega)
  have r2 := Int.lt_tmod_of_pos d (show (0 : Int) < 1000000000 by omega)
  have q1 : -9223372037 ≤ d.tdiv 1000000000 ∧ d.tdiv 1000000000 ≤ 9223372037 := by
    have := Int.mul_tdiv_add_tmod d 1000000000
    omega
  unfold addW addX
  obtain ⟨q, hq⟩ : ∃ q, d.tdiv 1000000000 = q := ⟨_, rfl⟩
  obtain ⟨r, hr⟩ : ∃ r, d.tmod 1000000000 = r := ⟨_, rfl⟩
  rw [hq] at q1 ⊢
  rw [hr] at r1 r2 ⊢
  obtain ⟨q1, q2⟩ := q1
  have NS := fun (b : Nat) (W : World) h => Hid.mk (nsec_any b wl W h h0 h1)
  have hh := u64_high h0 (show wl < 1073741824 by omega)
  by_cases hA : 1000000000 ≤ wl + r
  · obtain ⟨ns, hns⟩ : ∃ ns, wl + r - 1000000000 = ns := ⟨_, rfl⟩
    have hn0 : 0 ≤ ns := by omega
    have hn1 : ns < 1000000000 := by omega
    have ho := u64_or0 hn0 (show ns < 1073741824 by omega)
    have ht := u64_top hn0 (show ns < 1073741824 by omega)
    have AS := fun (b : Nat) (W : World) h h' h'' => Hid.mk (addSec_any b ns ex (q + 1) W h h' h'' hn0 hn1)
    simp only [if_pos hA, hns]
    go_enter Yba.func10, Yba.ntmps10
    go_wp2_with fail
    refine (NS _ _ ?_).out.mono ?_
    · exact ((row_new w 29 _ _ rfl).alloc _).cell 0
    rintro e w1 ⟨rfl, rfl⟩
    go_wp2_with fail
    refine (AS _ _ ?_ ?_ ?_).out.mono ?_
    · exact ((row_new w 29 _ _ rfl).alloc _).cell 0
    · exact ((row_new w 29 _ _ rfl).alloc _).cell 1
    · exact ((row_new w 29 _ _ rfl).alloc _).frozen 1
    rintro e w2 ⟨rfl, rfl⟩
    go_wp2
    refine bodyPost_ret (v := .agg (tmV ns (addE ex (q + 1)))) (by simp [results, Yba.results10, go_sem]) rfl ⟨rfl, ?_⟩
    repeat (first | exact Below.refl _ _ | refine Below.setCell ?_ (by simp) _ | refine Below.alloc ?_ (by simp) _)
  · by_cases hB : wl + r < 0
    · obtain ⟨ns, hns⟩ : ∃ ns, wl + r + 1000000000 = ns := ⟨_, rfl⟩
      have hn0 : 0 ≤ ns := by omega
      have hn1 : ns < 1000000000 := by omega
      have ho := u64_or0 hn0 (show ns < 1073741824 by omega)
      have ht := u64_top hn0 (show ns < 1073741824 by omega)
      have AS := fun (b : Nat) (W : World) h h' h'' => Hid.mk (addSec_any b ns ex (q - 1) W h h' h'' hn0 hn1)
      simp only [if_neg hA, if_pos hB, hns]
      go_enter Yba.func10, Yba.ntmps10
      go_wp2_with fail
      refine (NS _ _ ?_).out.mono ?_
      · exact ((row_new w 29 _ _ rfl).alloc _).cell 0
      rintro e w1 ⟨rfl, rfl⟩
      go_wp2_with fail
      refine (AS _ _ ?_ ?_ ?_).out.mono ?_
      · exact ((row_new w 29 _ _ rfl).alloc _).cell 0
      · exact ((row_new w 29 _ _ rfl).alloc _).cell 1
      · exact ((row_new w 29 _ _ rfl).alloc _).frozen 1
      rintro e w2 ⟨rfl, rfl⟩
      go_wp2
      refine bodyPost_ret (v := .agg (tmV ns (addE ex (q - 1)))) (by simp [results, Yba.results10, go_sem]) rfl ⟨rfl, ?_⟩
      repeat (first | exact Below.refl _ _ | refine Below.setCell ?_ (by simp) _ | refine Below.alloc ?_ (by simp) _)
    · obtain ⟨ns, hns⟩ : ∃ ns, wl + r = ns := ⟨_, rfl⟩
      have hn0 : 0 ≤ ns := by omega
      have hn1 : ns < 1000000000 := by omega
      have ho := u64_or0 hn0 (show ns < 1073741824 by omega)
      have ht := u64_top hn0 (show ns < 1073741824 by omega)
      have AS := fun (b : Nat) (W : World) h h' h'' => Hid.mk (addSec_any b ns ex (q) W h h' h'' hn0 hn1)
      simp only [if_neg hA, if_neg hB, hns]
      go_enter Yba.func10, Yba.ntmps10
      go_wp2_with fail
      refine (NS _ _ ?_).out.mono ?_
      · exact ((row_new w 29 _ _ rfl).alloc _).cell 0
      rintro e w1 ⟨rfl, rfl⟩
      go_wp2_with fail
      refine (AS _ _ ?_ ?_ ?_).out.mono ?_
      · exact ((row_new w 29 _ _ rfl).alloc _).cell 0
      · exact ((row_new w 29 _ _ rfl).alloc _).cell 1
      · exact ((row_new w 29 _ _ rfl).alloc _).frozen 1
      rintro e w2 ⟨rfl, rfl⟩
      go_wp2
      refine bodyPost_ret (v := .agg (tmV ns (addE ex (q)))) (by simp [results, Yba.results10, go_sem]) rfl ⟨rfl, ?_⟩
      repeat (first | exact Below.refl _ _ | refine Below.setCell ?_ (by simp) _ | refine Below.alloc ?_ (by simp) _)
end Go.Proofs.Ybulkhba
