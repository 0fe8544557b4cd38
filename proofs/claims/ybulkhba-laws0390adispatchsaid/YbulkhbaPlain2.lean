import Derived.Test.YbulkhbaPlain
import Derived.BigRegion
import Derived.RegionTactic
namespace Go.Proofs.Ybulkhba
open Go.RowKit
set_option linter.unusedVariables false
set_option linter.unusedSimpArgs false

theorem Yba.info3 : (Yba.prog.info? 3).map (fun i => (i.zero, i.size, i.bytes)) = some (some (.int .i64 0), 1, 8) := by kernel_rfl
theorem Yba.info83 : (Yba.prog.info? 83).map (fun i => (i.zero, i.size, i.bytes)) = some (some (.agg zeroReq), 6, 56) := by kernel_rfl
theorem madeSize (cs : Array Value) (n : Nat) : (madeCells cs n).size = n := size_madeCells _ _

/-- What bplain is told of the numbers that came in: K: their kinds. -/
def KindsIn (w : World) (a0 : Option Addr) (K : List Nat) : Prop :=
  ∀ j, j < K.length → ∃ x z, a0 = some x ∧ x.block < w.heap.size ∧ w.cell? (x.add j) = some (.int .u8 z) ∧ 0 ≤ z ∧ z < 256 ∧ K.getD j 0 = (z % 3).toNat

set_option maxRecDepth 100000 in
set_option maxHeartbeats 6400000 in
/-- zzs0390bplain -/
theorem plain_any (a0 : Option Addr) (cap : Nat) (K : List Nat) (w : World) (hin : KindsIn w a0 K) (hn : K.length ≤ 1024) (hcap : K.length ≤ cap) :
    Calls Yba.prog 21 #[.slice a0 K.length cap] w fun e w' => ∃ os, e = .returned (.tuple #[.slice (some ⟨w.heap.size + 1, 0, none⟩) K.length K.length, .slice (some ⟨w.heap.size + 1 + 1, 0, none⟩) K.length K.length, .agg #[os 0, os 1, os 2], os 3]) ∧
      Below w.heap.size w w' ∧ (∃ cs, Row w' (w.heap.size + 1) 83 cs ∧ cs.size = K.length * 6 ∧ ∀ i, i < K.length → ∀ c, c < 6 → cs[i * 6 + c]? = (plainReq i (K.getD i 0)).vs[c]?) ∧
      (∃ cs, Row w' (w.heap.size + 1 + 1) 3 cs ∧ cs.size = K.length ∧ ∀ i, i < K.length → cs[i]? = some (.int .i64 (K.getD i 0 : Nat))) ∧ Own4 w' os (plainAt K K.length) (w.heap.size + 4) := by
  obtain ⟨n, hnn⟩ : ∃ n, n = K.length := ⟨_, rfl⟩
  rw [← hnn] at hn hcap ⊢
  obtain ⟨i3, hi3, hz3, hs3, hb3⟩ := info_parts Yba.info3
  obtain ⟨i83, hi83, hz83, hs83, hb83⟩ := info_parts Yba.info83
  have hm1 : ∀ W, (Instr.makeSlice 46 (.int .i64 n) (.int .i64 n)).run Yba.prog W = .ok (.slice (some ⟨W.heap.size, 0, none⟩) n n) (W.alloc (.cells (madeCells (Value.agg zeroReq).cells (n * 6)) 83)) := fun W => by
    have h := run_makeSlice (P := Yba.prog) W 46 83 i83 (.agg zeroReq) Yba.underlying46 hi83 hz83 .i64 .i64 n n (by omega) (by omega) (by simp [hs83]; omega) (by simp [hb83]; omega) (by omega)
    rw [hs83] at h
    simpa using h
  have hm2 : ∀ W, (Instr.makeSlice 92 (.int .i64 n) (.int .i64 n)).run Yba.prog W = .ok (.slice (some ⟨W.heap.size, 0, none⟩) n n) (W.alloc (.cells (madeCells (Value.int .i64 0).cells n) 3)) := fun W => by
    have h := run_makeSlice (P := Yba.prog) W 92 3 i3 (.int .i64 0) Yba.underlying92 hi3 hz3 .i64 .i64 n n (by omega) (by omega) (by simp [hs3]; omega) (by simp [hb3]; omega) (by omega)
    rw [hs3] at h
    simpa using h
  have HIN := Hid.mk hin
  have HN := Hid.mk hnn
  clear hin hnn
  go_enter Yba.func21, Yba.ntmps21
  go_wp2
  go_loopg [10, 11] n (fun k fv i wr => ∃ (j : Nat) (os : Nat → Value), j + k = n ∧ i = .int .i64 j ∧ fv = os 3 ∧ PL w wr K j j os (plainAt K j))
  case atStart =>
    refine ⟨0, fun _ => .slice none 0 0, by omega, rfl, rfl, ?_, ?_, ⟨madeCells zeroReq (n * 6), ?_, by rw [madeSize, HN.out], by simp⟩, ⟨madeCells #[.int .i64 0] n, ?_, by rw [madeSize, HN.out], by simp⟩, ?_, ?_⟩
    · exact ((((Below.refl _ _).alloc (Nat.le_refl _) _).alloc (by simp) _).alloc (by simp; omega) _).alloc (by simp; omega) _
    · exact (row_new w 109 _ _ rfl).alloc _ |>.alloc _ |>.alloc _
    · exact (row_new _ 83 _ _ (by simp)).alloc _ |>.alloc _
    · exact (row_new _ 3 _ _ (by simp)).alloc _
    · exact row_new _ 109 _ _ (by simp)
    · exact ⟨fun i hi => World.ownsRow_nil _ _ _ _, by simp [Value.ownBlock], by simp [Value.ownBlock]⟩
  case round =>
    obtain ⟨j, os, hj, rfl, rfl, hpl⟩ := hrel
    by_cases hlt : j < n
    case neg =>
      have hjn : j = n := by omega
      subst hjn
      have y := fun i => hpl.res.cell i
      have yf := fun i => hpl.res.frozen i
      have yl := fun i => hpl.ls.cell i
      obtain ⟨p0, q0, e0, _⟩ := (hpl.own.owns 0 (by omega)).shape
      obtain ⟨p1, q1, e1, _⟩ := (hpl.own.owns 1 (by omega)).shape
      obtain ⟨p2, q2, e2, _⟩ := (hpl.own.owns 2 (by omega)).shape
      have H := Hid.mk hpl
      clear hpl
      go_wp2
      go_region
      go_wp2
      refine bodyPost_ret (v := .tuple #[.slice (some ⟨w.heap.size + 1, 0, none⟩) j j, .slice (some ⟨w.heap.size + 1 + 1, 0, none⟩) j j, .agg #[os 0, os 1, os 2], os 3]) (by simp [results, Yba.results21, go_sem, y, yl, e0, e1, e2]) rfl ⟨os, rfl, ?_⟩
      have ho : ∀ {v0 v1 v2 : Value}, Only [w.heap.size] wr ((((wr.setCell ⟨w.heap.size, 0, none⟩ v0).setCell ⟨w.heap.size, 1, none⟩ v1).setCell ⟨w.heap.size, 2, none⟩ v2).drew) := fun {v0 v1 v2} => ((((Only.refl _ _).setCell (by simp) _).setCell (by simp) _).setCell (by simp) _).drew
      obtain ⟨c1, a1, a2, a3⟩ := H.out.rs
      obtain ⟨c2, b1, b2, b3⟩ := H.out.ks
      rw [← HN.out] at a2 b2
      exact ⟨H.out.below.trans (ho.below H.out.below.size (by simp)), ⟨c1, a1.only ho (by simp), a2, a3⟩, ⟨c2, b1.only ho (by simp; omega), b2, b3⟩, H.out.own.only ho (by simp)⟩
    obtain ⟨x, z, rfl, hxb, hxc, hz0, hz1, hk⟩ := HIN.out j (by rw [← HN.out]; exact hlt)
    obtain ⟨k, hkk⟩ : ∃ k, k = K.getD j 0 := ⟨_, rfl⟩
    rw [← hkk] at hk
    have hk3 : k < 3 := by omega
    have hzk : z % 3 = (k : Int) := by omega
    have hxc' : wr.cell? (x.add j) = some (.int .u8 z) := (hpl.below.cell (by unfold Addr.add; split <;> simpa using hxb)).trans hxc
    obtain ⟨ck, hck, hcks, hckv⟩ := hpl.ks
    have fk := hck.frozen j
    obtain ⟨vk, yk⟩ : ∃ v, wr.cell? ⟨w.heap.size + 1 + 1, j, none⟩ = some v := ⟨ck[j]'(by rw [hcks, ← HN.out]; exact hlt), by rw [hck.cell]; simp⟩
    obtain ⟨pk, qk, ek, hqk⟩ := (hpl.own.owns k (by omega)).shape
    obtain ⟨p3, q3, e3, hq3⟩ := (hpl.own.owns 3 (by omega)).shape
    have yl : wr.cell? ⟨w.heap.size + 1 + 1 + 1, k, none⟩ = some (os k) := by
      rw [hpl.ls.cell]
      have e : k = 0 ∨ k = 1 ∨ k = 2 := by omega
      rcases e with h | h | h <;> subst h <;> simp
    have REQ : Hid (∀ W os1 xs1, PL w W K j (j + 1) os1 xs1 → ∀ c, c < 6 → (∃ v, W.cell? ⟨w.heap.size + 1, j * 6 + c, none⟩ = some v) ∧ W.frozen? ⟨w.heap.size + 1, j * 6 + c, none⟩ = false) := by
      intro W os1 xs1 h c hc
      obtain ⟨c1, a1, a2, a3⟩ := h.rs
      refine ⟨⟨c1[j * 6 + c]'(by rw [a2, ← HN.out]; omega), ?_⟩, a1.frozen _⟩
      rw [a1.cell]
      simp
    have HJ : Hid (j < K.length) := by rw [← HN.out]; exact hlt
    have HLEN : Hid (∀ i, i < 4 → (plainAt K j i).length ≤ 3000) := fun i _ => by have := plainAt_len K j i; omega
    have H := Hid.mk hpl
    have HKK := Hid.mk hkk
    have HZ := Hid.mk (And.intro hz0 (And.intro hz1 hk))
    clear hpl hxc hck hcks hckv hkk hk
    have ENDR : Hid (∀ W W' os1 xs1, PL w W K j (j + 1) os1 xs1 → xs1 = plainAt K (j + 1) → W' = ((((((W.setCell ⟨w.heap.size + 1, j * 6, none⟩ (.int .i64 j)).setCell ⟨w.heap.size + 1, j * 6 + 1, none⟩ (.string (nameB k))).setCell ⟨w.heap.size + 1, j * 6 + 2, none⟩ (.int .i64 0)).setCell ⟨w.heap.size + 1, j * 6 + 3, none⟩ (.int .i64 0)).setCell ⟨w.heap.size + 1, j * 6 + 4, none⟩ (.int .i64 0)).setCell ⟨w.heap.size + 1, j * 6 + 5, none⟩ (.bool false)) → PL w W' K (j + 1) (j + 1) os1 (plainAt K (j + 1))) := by
      intro W W' os1 xs1 h hx hW
      rw [← hx]
      exact h.req HJ.out k HKK.out hW
    by_cases hnil : plainAt K j k = []
    · have HNIL := Hid.mk hnil
      have HEK := Hid.mk ek
      have HE3 := Hid.mk e3
      rw [ek, hnil] at yl
      rw [e3]
      clear hnil ek e3
      go_wp2_with (at_builtin; refine wpList_append_own2 rfl (.tmp 39) (.tmp 41) 92 rfl 3 i3 (.int .i64 0) 1 8 Yba.underlying92 hi3 hz3 hs3 hb3 rfl (by decide) _ (plainAt K j 3).length ((plainAt K j 3).map (Value.int .i64 ·)) rfl ?c0 _ 1 1 [.int .i64 k] rfl rfl ?c1 ?c2 (by decide) ?c3 ?c4 ?_)
      case c1 => exact one_new (by simp)
      case c2 => exact ints_one
      case c3 => have := HLEN.out 3 (by omega); unfold maxLen; omega
      case c4 => have := HLEN.out 3 (by omega); exact .inr (by omega)
      case c0 => rw [← HE3.out]; exact ((H.out.kinds HJ.out k HKK.out).alloc _).own.owns 3 (by omega)
      intro v' w' hown hgr hnew
      have P1 : Hid (PL w w' K j (j + 1) (upd os 3 v') (upd (plainAt K j) 3 (plainAt K j 3 ++ [(k : Int)]))) := ((H.out.kinds HJ.out k HKK.out).alloc _).first v' k hown (by rw [HE3.out]; exact hgr) (by rw [HE3.out]; simpa using hnew)
      have yl2 : w'.cell? ⟨w.heap.size + 1 + 1 + 1, k, none⟩ = some (os k) := by
        rw [P1.out.ls.cell]
        have e : k = 0 ∨ k = 1 ∨ k = 2 := by omega
        rcases e with h | h | h <;> subst h <;> simp [upd]
      rw [HEK.out, HNIL.out] at yl2
      have EO : Hid (∀ v, upd os 3 v k = os k) := fun v => if_neg (by omega)
      have EX : Hid (∀ v, upd (plainAt K j) 3 v k = plainAt K j k) := fun v => if_neg (by omega)
      have FV : Hid (∀ v, v' = upd (upd os 3 v') k v 3) := fun v => by simp [upd, show ¬ 3 = k by omega]
      have XS : Hid (upd (upd (plainAt K j) 3 (plainAt K j 3 ++ [(k : Int)])) k (upd (plainAt K j) 3 (plainAt K j 3 ++ [(k : Int)]) k ++ [(j : Int)]) = plainAt K (j + 1)) := by
        refine Hid.mk ?_
        rw [EX.out]
        simp only [plainAt]
        rw [← HKK.out, if_pos HNIL.out]
      clear hown hgr hnew yl yk fk H
      go_wp2_with (at_builtin; refine wpList_append_own2 rfl (.tmp 46) (.tmp 48) 92 rfl 3 i3 (.int .i64 0) 1 8 Yba.underlying92 hi3 hz3 hs3 hb3 rfl (by decide) _ (plainAt K j k).length ((plainAt K j k).map (Value.int .i64 ·)) rfl ?d0 _ 1 1 [.int .i64 j] rfl rfl ?d1 ?d2 (by decide) ?d3 ?d4 ?_)
      case d1 => exact one_new (by simp)
      case d2 => exact ints_one
      case d3 => have := HLEN.out k (by omega); unfold maxLen; omega
      case d4 => have := HLEN.out k (by omega); exact .inr (by omega)
      case d0 =>
        have h := (P1.out.alloc (.cells #[.int .i64 j] 3)).own.owns k (by omega)
        simp only [upd, if_neg (show k ≠ 3 by omega)] at h
        rw [HEK.out, HNIL.out] at h
        rw [HNIL.out]
        exact h
      intro v'' w'' hown hgr hnew
      obtain ⟨g, cp, hv⟩ := owns_shape hown (by omega)
      obtain ⟨P2, y1, y2⟩ := (P1.out.alloc (.cells #[.int .i64 j] 3)).list k hk3 v'' j (by rw [EX.out]; exact hown) (by rw [EO.out, HEK.out, HNIL.out]; exact hgr) (by rw [EO.out, HEK.out, HNIL.out]; simpa using hnew)
      have P3 := Hid.mk P2
      rw [EO.out, HEK.out, HNIL.out] at y1
      rw [hv] at P3 ⊢
      have hr := fun c hc => REQ.out _ _ _ P3.out c hc
      obtain ⟨⟨r0, z0⟩, f0⟩ := hr 0 (by omega)
      obtain ⟨⟨r1, z1⟩, f1⟩ := hr 1 (by omega)
      obtain ⟨⟨r2, z2⟩, f2⟩ := hr 2 (by omega)
      obtain ⟨⟨r3, z3⟩, f3⟩ := hr 3 (by omega)
      obtain ⟨⟨r4, z4⟩, f4⟩ := hr 4 (by omega)
      obtain ⟨⟨r5, z5⟩, f5⟩ := hr 5 (by omega)
      simp only [Nat.add_zero] at z0 f0
      clear hown hgr hnew P2 hr P1 hv
      go_wp2_with fail
      refine (name_any k _).mono ?_
      rintro e w4 ⟨rfl, rfl⟩
      go_wp2
      go_roundg (gk - 1)
      case measure => omega
      case rel => exact ⟨j + 1, _, by omega, by simp, FV.out _, ENDR.out _ _ _ _ P3.out XS.out rfl⟩
    · have HNIL := Hid.mk hnil
      have HEK := Hid.mk ek
      have HE3 := Hid.mk e3
      have hl0 : (((plainAt K j k).length : Int) == 0) = false := by
        rw [beq_eq_false_iff_ne]
        intro h
        exact hnil (List.eq_nil_of_length_eq_zero (by omega))
      rw [ek] at yl
      have P1 := Hid.mk (H.out.kinds HJ.out k HKK.out)
      clear hnil ek e3 H
      go_wp2_with (at_builtin; refine wpList_append_own2 rfl (.tmp 46) (.tmp 48) 92 rfl 3 i3 (.int .i64 0) 1 8 Yba.underlying92 hi3 hz3 hs3 hb3 rfl (by decide) _ (plainAt K j k).length ((plainAt K j k).map (Value.int .i64 ·)) rfl ?d0 _ 1 1 [.int .i64 j] rfl rfl ?d1 ?d2 (by decide) ?d3 ?d4 ?_)
      case d1 => exact one_new (by simp)
      case d2 => exact ints_one
      case d3 => have := HLEN.out k (by omega); unfold maxLen; omega
      case d4 => have := HLEN.out k (by omega); exact .inr (by omega)
      case d0 =>
        have h := (P1.out.alloc (.cells #[.int .i64 j] 3)).own.owns k (by omega)
        rw [HEK.out] at h
        exact h
      have FV : Hid (∀ v, os 3 = upd os k v 3) := fun v => by simp [upd, show ¬ 3 = k by omega]
      have XS : Hid (upd (plainAt K j) k (plainAt K j k ++ [(j : Int)]) = plainAt K (j + 1)) := by
        refine Hid.mk ?_
        simp only [plainAt]
        rw [← HKK.out, if_neg HNIL.out]
      intro v'' w'' hown hgr hnew
      obtain ⟨g, cp, hv⟩ := owns_shape hown (by omega)
      obtain ⟨P2, y1, y2⟩ := (P1.out.alloc (.cells #[.int .i64 j] 3)).list k hk3 v'' j (hown) (by rw [HEK.out]; exact hgr) (by rw [HEK.out]; simpa using hnew)
      have P3 := Hid.mk P2
      rw [HEK.out] at y1
      rw [hv] at P3 ⊢
      have hr := fun c hc => REQ.out _ _ _ P3.out c hc
      obtain ⟨⟨r0, z0⟩, f0⟩ := hr 0 (by omega)
      obtain ⟨⟨r1, z1⟩, f1⟩ := hr 1 (by omega)
      obtain ⟨⟨r2, z2⟩, f2⟩ := hr 2 (by omega)
      obtain ⟨⟨r3, z3⟩, f3⟩ := hr 3 (by omega)
      obtain ⟨⟨r4, z4⟩, f4⟩ := hr 4 (by omega)
      obtain ⟨⟨r5, z5⟩, f5⟩ := hr 5 (by omega)
      simp only [Nat.add_zero] at z0 f0
      clear hown hgr hnew P2 hr P1 hv yl yk fk
      go_wp2_with fail
      refine (name_any k _).mono ?_
      rintro e w4 ⟨rfl, rfl⟩
      go_wp2
      go_roundg (gk - 1)
      case measure => omega
      case rel => exact ⟨j + 1, _, by omega, by simp, FV.out _, ENDR.out _ _ _ _ P3.out XS.out rfl⟩
end Go.Proofs.Ybulkhba
