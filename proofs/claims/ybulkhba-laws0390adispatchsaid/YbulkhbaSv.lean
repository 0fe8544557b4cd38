import Derived.Test.YbulkhbaTm
import Derived.Test.YbulkhbaOwn
import Derived.BigRegion
import Derived.RegionTactic
namespace Go.Proofs.Ybulkhba
open Go.RowKit
open Go.MuLone
set_option linter.unusedVariables false
set_option linter.unusedSimpArgs false

theorem u64_self {x : Int} (h0 : 0 ≤ x) (h1 : x < 1073741824) : bits .and .u64 x x = x := by
  rw [u64_and x x h0 (by omega) h0 (by omega), Nat.and_self]
  omega
set_option maxRecDepth 100000 in
set_option maxHeartbeats 800000 in
/-- (time.Time).Equal, of a time and itself. -/
theorem equal_same (wl ex : Int) (w : World) (h0 : 0 ≤ wl) (h1 : wl < 1000000000) :
    Calls Yba.prog 12 #[.agg (tmV wl ex), .agg (tmV wl ex)] w fun e w' => e = .returned (.bool true) ∧ Below w.heap.size w w' := by
  have hb := u64_self h0 (show wl < 1073741824 by omega)
  have ht := u64_top h0 (show wl < 1073741824 by omega)
  have r1 : Row ((w.alloc (.cells (tmV wl ex) 29)).alloc (.cells (tmV wl ex) 29)) w.heap.size 29 (tmV wl ex) := (row_new w 29 _ _ rfl).alloc _
  have r2 : Row ((w.alloc (.cells (tmV wl ex) 29)).alloc (.cells (tmV wl ex) 29)) (w.heap.size + 1) 29 (tmV wl ex) := row_new _ 29 _ _ (by simp)
  go_enter Yba.func12, Yba.ntmps12
  go_wp2_with (first | (go_at_call 33; refine (sec_any _ wl ex _ (by first | exact r1.cell 0 | exact r2.cell 0) (by first | exact r1.cell 1 | exact r2.cell 1) h0 h1).mono ?_; rintro e w1 ⟨rfl, rfl⟩) | (go_at_call 26; refine (nsec_any _ wl _ (by first | exact r1.cell 0 | exact r2.cell 0) h0 h1).mono ?_; rintro e w1 ⟨rfl, rfl⟩))
  go_ret
  exact ⟨by simp, ((Below.refl _ _).alloc (Nat.le_refl _) _).alloc (by simp) _⟩

abbrev clkRow (wl ex : Int) (lg : Value) : Array Value := #[.int .u64 wl, .int .i64 ex, .pointer none, lg]
abbrev bkRow (sl inf try_ wl ex : Int) (wk : Bool) (tr : Int) : Array Value :=
  #[.string ByteArray.empty, .int .i64 sl, .int .i64 inf, .int .i64 try_, .int .u64 wl, .int .i64 ex, .pointer none, .bool wk, .int .i64 tr, .int .i64 0, .pointer none, .string ByteArray.empty, .string ByteArray.empty, .bool false, .int .i64 0, .string ByteArray.empty, .int .i64 0, .int .i64 0]
abbrev srvRow (mu : Int) (C Qn Mw Mq : Nat) (retr bks : Value) : Array Value :=
  #[.map none, .int .i64 0, .int .i64 0, .int .i64 0, .iface 40 (.pointer (some ⟨C, 0, none⟩)), .pointer none, .bool false, .int .i64 0, .int .i32 mu, .int .u32 0, .pointer none, .iface 45 (.pointer (some ⟨Qn, 0, none⟩)), .map (some Mw), .map (some Mq), .int .i64 0, retr, bks]

/-- (*zzs0390aclock).Now -/
theorem now_any (C : Nat) (wl ex : Int) (lg : Value) (w : World) (r : Row w C 43 (clkRow wl ex lg)) :
    Calls Yba.prog 119 #[.pointer (some ⟨C, 0, none⟩)] w fun e w' => e = .returned (.agg (tmV wl ex)) ∧ Below w.heap.size w w' := by
  have c0 := r.cell 0
  have c1 := r.cell 1
  have c2 := r.cell 2
  simp at c0 c1 c2
  have hl := r.lt
  go_enter Yba.func119, Yba.ntmps119
  go_wp2
  refine bodyPost_ret (v := .agg (tmV wl ex)) (by simp [results, Yba.results119, go_sem]) rfl ⟨rfl, ?_⟩
  repeat (first | exact Below.refl _ _ | refine Below.setCell ?_ (by simp) _ | refine Below.alloc ?_ (by simp) _)
/-- (*zzs0390aq).Len -/
theorem aqLen_any (Qn n cap : Nat) (a : Option Addr) (k : Nat) (w : World) (r : Row w Qn 48 #[.slice a n cap, .int .i64 k]) (hn : n ≤ 10000) (hk : k ≤ 10000) :
    Calls Yba.prog 15 #[.pointer (some ⟨Qn, 0, none⟩)] w fun e w' => e = .returned (.int .i64 ((n : Int) - k)) ∧ ∃ m, w' = w.drewN m := by
  have c0 := r.cell 0
  have c1 := r.cell 1
  simp at c0 c1
  have b1 : ((n : Nat) : Int) ≤ 10000 := by omega
  have b2 : ((k : Nat) : Int) ≤ 10000 := by omega
  go_enter Yba.func15, Yba.ntmps15
  go_wp2
  go_quiet (fail)
  go_wp2
  go_ret
  exact ⟨rfl, _, rfl⟩
end Go.Proofs.Ybulkhba
