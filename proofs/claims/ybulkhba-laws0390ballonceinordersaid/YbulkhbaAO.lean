import Derived.Test.YbulkhbaAOM
import Derived.Test.YbulkhbaPopG
import Derived.Deep.CutRange
namespace Go.Proofs.Ybulkhba
open Go.RowKit
set_option linter.unusedVariables false
set_option linter.unusedSimpArgs false

theorem row3 {W : World} {b : Nat} {ty : TypeId} {f : Nat → Value} (h : Row W b ty #[f 0, f 1, f 2]) {k : Nat} (hk : k < 3) : W.cell? ⟨b, k, none⟩ = some (f k) := by
  rw [h.cell]
  have e : k = 0 ∨ k = 1 ∨ k = 2 := by omega
  rcases e with rfl | rfl | rfl <;> simp
theorem run_mapLen {w : World} {M : Nat} (h : MapIs w M []) (ty : TypeId) : (Builtin.len_ #[104] ty #[.map (some M)]).run Yba.prog w = .ok (.int .i64 0) w := by
  obtain ⟨es, c, hM, he⟩ := h
  have e : es.size = 0 := by simpa using congrArg List.length he
  simp [Builtin.len_, run_underlying Yba.underlying104, MapKept.run_getObj_map hM, goInt, Result.andThen, e]

set_option maxRecDepth 100000 in
set_option maxHeartbeats 12800000 in
theorem ao_walk (a0 a1 a2 a3 : Option Addr) (c0 l1 c1 l2 c2 l3 c3 : Nat) (K : List Nat) (z0 z1 z2 : Int) (w : World) (hin : KindsIn w a0 K) (h1 : RowIn .u8 0 255 w a1 l1) (h2 : RowIn .i8 (-128) 127 w a2 l2) (h3 : RowIn .i8 (-128) 127 w a3 l3)
    (hn : K.length ≤ 1024) (hcap : K.length ≤ c0) (hc1 : l1 ≤ c1) (hc2 : l2 ≤ c2) (hc3 : l3 ≤ c3) (hz0 : 0 ≤ z0 ∧ z0 < 256) (hz1 : 0 ≤ z1 ∧ z1 < 256) (hz2 : 0 ≤ z2 ∧ z2 < 256) (hk3 : ∀ k ∈ K, k < 3) :
    Calls Yba.prog 5 #[.slice a0 K.length c0, .slice a1 l1 c1, .slice a2 l2 c2, .slice a3 l3 c3, .agg #[.int .u8 z0, .int .u8 z1, .int .u8 z2]] w fun e w' => e = .returned (.bool true) ∧ Below w.heap.size w w' := by
  obtain ⟨n, hnn⟩ : ∃ n, n = K.length := ⟨_, rfl⟩
  rw [← hnn] at hn hcap ⊢
  obtain ⟨q0, hq0⟩ : ∃ q, z0 % 8 + 1 = q := ⟨_, rfl⟩
  obtain ⟨q1, hq1⟩ : ∃ q, z1 % 8 + 1 = q := ⟨_, rfl⟩
  obtain ⟨q2, hq2⟩ : ∃ q, z2 % 8 + 1 = q := ⟨_, rfl⟩
  obtain ⟨i3, hi3, hz3', hs3, hb3⟩ := info_parts Yba.info3
  obtain ⟨i83, hi83, hz83, hs83, hb83⟩ := info_parts Yba.info83
  obtain ⟨i4, hi4, hz4, hs4, hb4⟩ := info_parts Yba.info4
  have hm1 : ∀ W, (Instr.makeSlice 46 (.int .i64 n) (.int .i64 n)).run Yba.prog W = .ok (.slice (some ⟨W.heap.size, 0, none⟩) n n) (W.alloc (.cells (madeCells (Value.agg zeroReq).cells (n * 6)) 83)) := fun W => by
    have h := run_makeSlice (P := Yba.prog) W 46 83 i83 (.agg zeroReq) Yba.underlying46 hi83 hz83 .i64 .i64 n n (by omega) (by omega) (by simp [hs83]; omega) (by simp [hb83]; omega) (by omega)
    rw [hs83] at h
    simpa using h
  have hm2 : ∀ W, (Instr.makeSlice 92 (.int .i64 n) (.int .i64 n)).run Yba.prog W = .ok (.slice (some ⟨W.heap.size, 0, none⟩) n n) (W.alloc (.cells (madeCells (Value.int .i64 0).cells n) 3)) := fun W => by
    have h := run_makeSlice (P := Yba.prog) W 92 3 i3 (.int .i64 0) Yba.underlying92 hi3 hz3' .i64 .i64 n n (by omega) (by omega) (by simp [hs3]; omega) (by simp [hb3]; omega) (by omega)
    rw [hs3] at h
    simpa using h
  have hm3 : ∀ W, (Instr.makeSlice 72 (.int .i64 n) (.int .i64 n)).run Yba.prog W = .ok (.slice (some ⟨W.heap.size, 0, none⟩) n n) (W.alloc (.cells (madeCells (Value.bool false).cells n) 4)) := fun W => by
    have h := run_makeSlice (P := Yba.prog) W 72 4 i4 (.bool false) Yba.underlying72 hi4 hz4 .i64 .i64 n n (by omega) (by omega) (by simp [hs4]; omega) (by simp [hb4]; omega) (by omega)
    rw [hs4] at h
    simpa using h
  have hn63 : ((n : Nat) : Int) ≤ 1024 := by omega
  have HIN := Hid.mk hin
  have H1 := Hid.mk h1
  have H2 := Hid.mk h2
  have H3 := Hid.mk h3
  have HN := Hid.mk hnn
  have HK3 := Hid.mk hk3
  obtain ⟨hz0, hz0'⟩ := hz0
  obtain ⟨hz1, hz1'⟩ := hz1
  obtain ⟨hz2, hz2'⟩ := hz2
  clear hin h1 h2 h3 hnn hk3 hi3 hz3' hs3 hb3 hi83 hz83 hs83 hb83 hi4 hz4 hs4 hb4
  go_enter Yba.func5, Yba.ntmps5
  go_wp2
  go_loopg [14] n (fun k i wr => ∃ (j : Nat) (rs : List Req), j + k = n ∧ i = .int .i64 j ∧ rs.length = j ∧ GoodR K rs ∧ AB w wr z0 z1 z2 n rs ((K.take j).map fun (k : Nat) => (k : Int)))
  case atStart =>
    refine ⟨0, [], by omega, rfl, rfl, fun i hi => by simp at hi, ?_, ?_, ⟨madeCells zeroReq (n * 6), ?_, by rw [madeSize], by simp⟩, ⟨madeCells #[.int .i64 0] n, ?_, by rw [madeSize], by simp⟩⟩
    · exact (((Below.refl _ _).alloc (Nat.le_refl _) _).alloc (by simp) _).alloc (by simp; omega) _
    · exact (row_new w 91 _ _ rfl).alloc _ |>.alloc _
    · exact (row_new _ 83 _ _ (by simp)).alloc _
    · exact row_new _ 3 _ _ (by simp)
  case round =>
    obtain ⟨j, rs, hj, rfl, hrl, hgood, hab⟩ := hrel
    by_cases hlt : j < n
    case pos =>
      have hlt2 : j < K.length := by rw [← HN.out]; exact hlt
      obtain ⟨x, z, rfl, hxb, hxc, hzz0, hzz1, hk⟩ := HIN.out j hlt2
      obtain ⟨k, hkk⟩ : ∃ k, k = K.getD j 0 := ⟨_, rfl⟩
      rw [← hkk] at hk
      have hk3 : k < 3 := by omega
      have hzk : z % 3 = (k : Int) := by omega
      have hxc' : wr.cell? (x.add j) = some (.int .u8 z) := (hab.below.cell (by unfold Addr.add; split <;> simpa using hxb)).trans hxc
      obtain ⟨ck, hck, hcks, hckv⟩ := hab.ks
      have fk := hck.frozen j
      obtain ⟨vk, yk⟩ : ∃ v, wr.cell? ⟨w.heap.size + 1 + 1, j, none⟩ = some v := ⟨ck[j]'(by rw [hcks]; exact hlt), by rw [hck.cell]; simp⟩
      have hkl : ((K.take j).map fun (k : Nat) => (k : Int)).length = j := by simp; omega
      have hks : ((K.take j).map fun (k : Nat) => (k : Int)) ++ [(k : Int)] = ((K.take (j + 1)).map fun (k : Nat) => (k : Int)) := by
        rw [List.take_succ_eq_append_getElem hlt2, List.map_append, hkk]
        simp [List.getD_eq_getElem?_getD, List.getElem?_eq_getElem hlt2]
      have hab2 := hab.kinds j hkl.symm hlt (k : Int)
      rw [hks] at hab2
      have HAB := Hid.mk hab2
      have HG := Hid.mk (And.intro hrl (And.intro hgood hkk))
      obtain ⟨ks, hkse⟩ : ∃ ks, ks = ((K.take (j + 1)).map fun (k : Nat) => (k : Int)) := ⟨_, rfl⟩
      rw [← hkse] at HAB
      have HKS := Hid.mk hkse
      have ENDB : Hid (∀ (V W : World) (tk pr dl : Int) (hd : Bool), 0 ≤ tk → tk ≤ 255 → AB w V z0 z1 z2 n rs ks → W = ((((((V.setCell ⟨w.heap.size + 1, j * 6, none⟩ (.int .i64 j)).setCell ⟨w.heap.size + 1, j * 6 + 1, none⟩ (.string (nameB k))).setCell ⟨w.heap.size + 1, j * 6 + 2, none⟩ (.int .i64 tk)).setCell ⟨w.heap.size + 1, j * 6 + 3, none⟩ (.int .i64 pr)).setCell ⟨w.heap.size + 1, j * 6 + 4, none⟩ (.int .i64 dl)).setCell ⟨w.heap.size + 1, j * 6 + 5, none⟩ (.bool hd)) →
          ∃ (j' : Nat) (rs' : List Req), j' + (n - j - 1) = n ∧ Value.int .i64 ((j : Int) + 1) = .int .i64 j' ∧ rs'.length = j' ∧ GoodR K rs' ∧ AB w W z0 z1 z2 n rs' ((K.take j').map fun (k : Nat) => (k : Int))) := by
        intro V W tk pr dl hd t0 t1 ab hW
        refine ⟨j + 1, rs ++ [⟨j, nameB k, tk, pr, dl, hd⟩], by omega, by simp, by simp [hrl], hgood.snoc (by simp [hrl]) (by rw [hrl, ← hkk]) t0 t1, ?_⟩
        rw [← hkse]
        exact ab.req j hrl.symm hlt ⟨j, nameB k, tk, pr, dl, hd⟩ hW
      have REQ : Hid (∀ V, AB w V z0 z1 z2 n rs ks → ∀ c, c < 6 → (∃ v, V.cell? ⟨w.heap.size + 1, j * 6 + c, none⟩ = some v) ∧ V.frozen? ⟨w.heap.size + 1, j * 6 + c, none⟩ = false) := by
        intro V h c hc
        obtain ⟨e1, b1, b2, b3⟩ := h.rs
        refine ⟨⟨e1[j * 6 + c]'(by rw [b2]; omega), ?_⟩, b1.frozen _⟩
        rw [b1.cell]
        simp
      clear hab hab2 hck hcks hckv hxc hkl hks hkse hrl hgood hkk hk
      go_wp2_with fail
      refine (name_any k _).mono ?_
      rintro e w4 ⟨rfl, rfl⟩
      go_upto_if 59 with fail
      refine wp_world (fun V => RV w V wr.heap.size z0 z1 z2 n rs ks j (nameB k) 0 0 0 false) ?_ ?_
      · have hsz := HAB.out.size
        rw [World.size_setCell] at hsz
        exact ⟨HAB.out.only (S := []) ((Only.refl _ _).alloc _) (by simp), hsz, row_new _ _ _ _ (by simp)⟩
      rintro V hRV
      obtain ⟨B, hB⟩ : ∃ B, B = wr.heap.size := ⟨_, rfl⟩
      rw [← hB] at hRV ⊢
      have HRV := Hid.mk hRV
      clear hRV hxc' fk yk HAB hB
      go_cut [15] from 37 to 99 (fun s15 wx => s15 = .int .i64 k ∧ ∃ tk, 0 ≤ tk ∧ tk ≤ 255 ∧ RV w wx B z0 z1 z2 n rs ks j (nameB k) tk 0 0 false)
      case first =>
        by_cases hT : j < l1
        · have hTi : (j : Int) < (l1 : Int) := by omega
          obtain ⟨x1, y1, rfl, hy1, hy1a, hy1b⟩ := H1.out.at HRV.out.ab.below hT
          have hf := HRV.out.row.frozen 2
          have hc := HRV.out.row.cell 2
          simp at hc
          go_wp2
          go_meet
          case rel => exact ⟨rfl, y1, hy1a, hy1b, HRV.out.set2 y1⟩
        · have hTi : ¬ (j : Int) < (l1 : Int) := by omega
          go_wp2
          go_meet
          case rel => exact ⟨rfl, 0, by omega, by omega, HRV.out⟩
      case rest =>
        clear HRV
        obtain ⟨rfl, tk, t0, t1, hRV⟩ := hcut
        have HRV := Hid.mk hRV
        clear hRV
        go_upto_if 69 with fail
        go_cut [15] from 37 to 99 (fun s15 wx => s15 = .int .i64 k ∧ ∃ pr, RV w wx B z0 z1 z2 n rs ks j (nameB k) tk pr 0 false)
        case first =>
          by_cases hT : j < l2
          · have hTi : (j : Int) < (l2 : Int) := by omega
            obtain ⟨x2, y2, rfl, hy2, hy2a, hy2b⟩ := H2.out.at HRV.out.ab.below hT
            have hf := HRV.out.row.frozen 3
            have hc := HRV.out.row.cell 3
            simp at hc
            go_wp2
            go_meet
            case rel => exact ⟨rfl, _, HRV.out.set3 _⟩
          · have hTi : ¬ (j : Int) < (l2 : Int) := by omega
            go_wp2
            go_meet
            case rel => exact ⟨rfl, 0, HRV.out⟩
        case rest =>
          clear HRV
          obtain ⟨rfl, pr, hRV⟩ := hcut
          have HRV := Hid.mk hRV
          clear hRV
          by_cases hD : j < l3
          · have hDi : (j : Int) < (l3 : Int) := by omega
            obtain ⟨x3, y3, rfl, hx3b, hx3c, hy3a, hy3b⟩ := H3.out j hD
            have hy3 : wc.cell? (x3.add j) = some (.int .i8 y3) := (HRV.out.ab.below.cell (by unfold Addr.add; split <;> simpa using hx3b)).trans hx3c
            by_cases hpos : 0 ≤ y3
            · have hy3' : (wc.setCell ⟨B, 5, none⟩ (.bool true)).cell? (x3.add j) = some (.int .i8 y3) := ((HRV.out.set5 true).ab.below.cell (by unfold Addr.add; split <;> simpa using hx3b)).trans hx3c
              have hf5 := HRV.out.row.frozen 5
              have hc5 := HRV.out.row.cell 5
              have hf4 := HRV.out.row.frozen 4
              have hc4 := HRV.out.row.cell 4
              simp at hc5 hc4
              go_upto_region 19 with fail
              refine wp_world (fun V => ∃ dl hd, RV w V B z0 z1 z2 n rs ks j (nameB k) tk pr dl hd) ?_ ?_
              · exact ⟨_, _, (HRV.out.set5 true).set4 _⟩
              clear hf5 hc5 hf4 hc4 hy3 hy3' HRV
              rintro V ⟨dl, hd, hRV⟩
              have zB := fun i => hRV.row.cell i
              have hr := fun c hc => REQ.out _ hRV.ab c hc
              obtain ⟨⟨r0, v0⟩, f0⟩ := hr 0 (by omega)
              obtain ⟨⟨r1, v1⟩, f1⟩ := hr 1 (by omega)
              obtain ⟨⟨r2, v2⟩, f2⟩ := hr 2 (by omega)
              obtain ⟨⟨r3, v3⟩, f3⟩ := hr 3 (by omega)
              obtain ⟨⟨r4, v4⟩, f4⟩ := hr 4 (by omega)
              obtain ⟨⟨r5, v5⟩, f5⟩ := hr 5 (by omega)
              simp only [Nat.add_zero] at v0 f0
              have HRV := Hid.mk hRV
              clear hRV hr
              go_wp2
              go_roundg (n - j - 1)
              case measure => omega
              case rel => exact ENDB.out V _ tk pr dl hd t0 t1 HRV.out.ab rfl
            · go_upto_region 19 with fail
              refine wp_world (fun V => ∃ dl hd, RV w V B z0 z1 z2 n rs ks j (nameB k) tk pr dl hd) ?_ ?_
              · exact ⟨_, _, HRV.out⟩
              clear hy3 HRV
              rintro V ⟨dl, hd, hRV⟩
              have zB := fun i => hRV.row.cell i
              have hr := fun c hc => REQ.out _ hRV.ab c hc
              obtain ⟨⟨r0, v0⟩, f0⟩ := hr 0 (by omega)
              obtain ⟨⟨r1, v1⟩, f1⟩ := hr 1 (by omega)
              obtain ⟨⟨r2, v2⟩, f2⟩ := hr 2 (by omega)
              obtain ⟨⟨r3, v3⟩, f3⟩ := hr 3 (by omega)
              obtain ⟨⟨r4, v4⟩, f4⟩ := hr 4 (by omega)
              obtain ⟨⟨r5, v5⟩, f5⟩ := hr 5 (by omega)
              simp only [Nat.add_zero] at v0 f0
              have HRV := Hid.mk hRV
              clear hRV hr
              go_wp2
              go_roundg (n - j - 1)
              case measure => omega
              case rel => exact ENDB.out V _ tk pr dl hd t0 t1 HRV.out.ab rfl
          · have hDi : ¬ (j : Int) < (l3 : Int) := by omega
            go_upto_region 19 with fail
            refine wp_world (fun V => ∃ dl hd, RV w V B z0 z1 z2 n rs ks j (nameB k) tk pr dl hd) ?_ ?_
            · exact ⟨_, _, HRV.out⟩
            clear HRV
            rintro V ⟨dl, hd, hRV⟩
            have zB := fun i => hRV.row.cell i
            have hr := fun c hc => REQ.out _ hRV.ab c hc
            obtain ⟨⟨r0, v0⟩, f0⟩ := hr 0 (by omega)
            obtain ⟨⟨r1, v1⟩, f1⟩ := hr 1 (by omega)
            obtain ⟨⟨r2, v2⟩, f2⟩ := hr 2 (by omega)
            obtain ⟨⟨r3, v3⟩, f3⟩ := hr 3 (by omega)
            obtain ⟨⟨r4, v4⟩, f4⟩ := hr 4 (by omega)
            obtain ⟨⟨r5, v5⟩, f5⟩ := hr 5 (by omega)
            simp only [Nat.add_zero] at v0 f0
            have HRV := Hid.mk hRV
            clear hRV hr
            go_wp2
            go_roundg (n - j - 1)
            case measure => omega
            case rel => exact ENDB.out V _ tk pr dl hd t0 t1 HRV.out.ab rfl
    case neg =>
      obtain rfl : n = j := by omega
      obtain ⟨ks, hkse⟩ : ∃ ks, ks = ((K.take n).map fun (k : Nat) => (k : Int)) := ⟨_, rfl⟩
      rw [← hkse] at hab
      have hksl : ks.length = n := by rw [hkse]; simp [HN.out]
      have hksv : ∀ i (h : i < ks.length), ks[i] = ((K.getD i 0 : Nat) : Int) ∧ K.getD i 0 < 3 := by
        intro i h
        have h' : i < K.length := by rw [← HN.out, ← hksl]; exact h
        subst hkse
        simp only [List.getElem_map, List.getElem_take]
        rw [List.getD_eq_getElem?_getD, List.getElem?_eq_getElem h']
        exact ⟨rfl, HK3.out _ (List.getElem_mem _)⟩
      have HKS := Hid.mk (And.intro hksl hksv)
      have HR := Hid.mk (And.intro hrl hgood)
      have HAB := Hid.mk hab
      clear hab hkse hksl hksv hrl hgood hm1 hm2 HIN H1 H2 H3
      have WS : Hid (w.heap.size + 3 ≤ wr.heap.size) := HAB.out.size
      go_wp2
      refine wp_world (fun V => AB w V z0 z1 z2 n rs ks ∧ Row V wr.heap.size 85 #[.int .i64 0, .int .i64 0, .int .i64 0]) ?_ ?_
      · exact ⟨HAB.out.only (S := []) ((Only.refl _ _).alloc _) (by simp), row_new _ _ _ _ rfl⟩
      rintro V0 ⟨v1, v3⟩
      have y0 := v1.qz.cell 0
      have y1 := v1.qz.cell 1
      have y2 := v1.qz.cell 2
      have x0 := v3.cell 0
      have x1 := v3.cell 1
      have x2 := v3.cell 2
      have xf0 := v3.frozen 0
      have xf1 := v3.frozen 1
      have xf2 := v3.frozen 2
      have hbb : w.heap.size ≠ wr.heap.size := v1.qz.ne v3 (by decide)
      simp at y0 y1 y2 x0 x1 x2
      have HV := Hid.mk (And.intro v1 v3)
      clear v1 v3 HAB
      refine wp_loop_rounds 4 ?_
      rw [rounds_succ]
      go_wp2
      rw [rounds_succ]
      go_wp2
      rw [rounds_succ]
      go_wp2
      rw [rounds_succ]
      go_wp2_with fail
      obtain ⟨V, hV⟩ : ∃ V, V = (((V0.setCell ⟨wr.heap.size, 0, none⟩ (.int .i64 q0)).setCell ⟨wr.heap.size, 1, none⟩ (.int .i64 q1)).setCell ⟨wr.heap.size, 2, none⟩ (.int .i64 q2)) := ⟨_, rfl⟩
      rw [← hV]
      have S : Hid (AB w V z0 z1 z2 n rs ks) := by
        rw [hV]
        exact HV.out.1.only ((((Only.refl [wr.heap.size] _).setCell (by simp) _).setCell (by simp) _).setCell (by simp) _) (by simpa using WS.out)
      clear hV HV y0 y1 y2 x0 x1 x2 xf0 xf1 xf2 hbb
      have NEW : Hid (Calls Yba.prog 17 #[.slice (some ⟨w.heap.size + 1, 0, none⟩) n n, .slice (some ⟨w.heap.size + 1 + 1, 0, none⟩) n n, .agg #[.int .i64 q0, .int .i64 q1, .int .i64 q2]] V fun e w' => ∃ Q M R, e = .returned (.pointer (some ⟨Q, 0, none⟩)) ∧ BuiltG V w' Q M R n rs) := by
        obtain ⟨cs1, r1, r2, r3⟩ := S.out.rs
        obtain ⟨cs2, k1, k2, k3⟩ := S.out.ks
        have h := new_g (w.heap.size + 1) (w.heap.size + 1 + 1) n n rs ks q0 q1 q2 [nameB 0, nameB 1, nameB 2] V ⟨cs1, r1, r3⟩ ⟨cs2, k1, k3⟩ (by rw [HKS.out.1, HR.out.1]) (by rw [HR.out.1]; omega) (by rw [HR.out.1]; omega) (by rw [HR.out.1]; omega) ?_ (fun i hi => (HR.out.2 i hi).1) ?_ (by simp) (by omega)
        · rw [HR.out.1] at h; exact h
        · intro k hk
          obtain ⟨i, hi, rfl⟩ := List.getElem_of_mem hk
          have := HKS.out.2 i hi
          omega
        · intro r hr
          obtain ⟨i, hi, e, _, e2⟩ := HR.out.2.find hr
          have h3 := (HKS.out.2 i (by rw [HKS.out.1, ← HR.out.1]; exact hi)).2
          rw [e2]
          have e4 : K.getD i 0 = 0 ∨ K.getD i 0 = 1 ∨ K.getD i 0 = 2 := by omega
          rcases e4 with h | h | h <;> rw [h] <;> simp
      refine NEW.out.mono ?_
      rintro e w2 ⟨Q, M, R, rfl, hb⟩
      have HB2 := Hid.mk hb
      clear hb NEW
      go_wp2
      go_loopg [23] n (fun k jj W => ∃ (j : Nat) (out : List Req) (sn : Nat → Bool) (lf : Nat → Int) (hf : Nat → Bool) (rv : Value) (rh : Nat) (it : Bool) (rot : List TG) (ents : List (ByteArray × Nat)), j + k = n ∧ jj = .int .i64 j ∧
        DM w W (w.heap.size + 1) (w.heap.size + 1 + 1) w2.heap.size (w2.heap.size + 1) (w2.heap.size + 1 + 1) Q M R n rs ks sn lf hf ((n : Int) - j) rv rh it rot ents ∧ GI it rot ∧ DI rs out rot ents ∧ out.length = j ∧ (∀ i, i < n → (sn i = true ↔ ∃ r ∈ out, r.id = i)) ∧ (∀ k, k < 3 → hf k = true → ∃ r ∈ out, r.id = lf k ∧ r.tn = nameB k))
      case atStart =>
        obtain ⟨bel, rv, rh, rot, q, bi, lo⟩ := HB2.out
        obtain ⟨cs1, r1, r2, r3⟩ := S.out.rs
        obtain ⟨cs2, k1, k2, k3⟩ := S.out.ks
        have b0 := S.out.below
        have hb1 := b0.trans (bel.mono b0.size)
        refine ⟨0, [], fun _ => false, fun _ => 0, fun _ => false, rv, rh, false, rot, _, by omega, rfl, ?_, GI.of_all (Nat.le_trans (bi.few [nameB 0, nameB 1, nameB 2] ?_) (by simp)) (bi.tok (by omega) ?_), DI.start (by rw [HR.out.1]; exact bi), rfl, by simp, by simp⟩
        · have hq := q.same (((((Only.refl [] w2).alloc (.cells (madeCells #[.bool false] n) 4)).alloc (.cells #[.int .i64 0, .int .i64 0, .int .i64 0] 96)).alloc (.cells #[.bool false, .bool false, .bool false] 97)))
          have hbe : Below V.heap.size V (((w2.alloc (.cells (madeCells #[.bool false] n) 4)).alloc (.cells #[.int .i64 0, .int .i64 0, .int .i64 0] 96)).alloc (.cells #[.bool false, .bool false, .bool false] 97)) :=
            ((bel.alloc bel.size _).alloc (by have := bel.size; simp; omega) _).alloc (by have := bel.size; simp; omega) _
          have s0 := b0.size
          have s1 := bel.size
          refine ⟨b0.trans (hbe.mono b0.size), ⟨cs1, r1.below hbe r1.lt, r3⟩, ⟨cs2, k1.below hbe k1.lt, k3⟩, by simpa using hq, fun k hk => Nat.le_trans b0.size (lo k hk), ⟨_, ((row_new w2 4 _ _ rfl).alloc _).alloc _, madeSize _ _, fun i hi => ?_⟩, (row_new _ 96 _ _ (by simp)).alloc _, row_new _ 97 _ _ (by simp), by omega, by omega, by omega⟩
          rw [← Array.getElem?_toList, toList_madeCells_one]
          simp [hi]
        · intro r hr
          obtain ⟨i, hi, e, _, e2⟩ := HR.out.2.find hr
          have h3 := (HKS.out.2 i (by rw [HKS.out.1, ← HR.out.1]; exact hi)).2
          rw [e2]
          have e4 : K.getD i 0 = 0 ∨ K.getD i 0 = 1 ∨ K.getD i 0 = 2 := by omega
          rcases e4 with h | h | h <;> rw [h] <;> simp
        · intro r hr
          obtain ⟨i, hi, e, _, e2⟩ := HR.out.2.find hr
          rw [e]; exact (HR.out.2 i hi).2.2
      case round =>
        clear S HB2
        generalize w2.heap.size = Bs at *
        obtain ⟨j, out, sn, lf, hf, rv, rh, it, rot, ents, hj, rfl, hdm, hgi, hdi, hol, hsn, hla⟩ := hrel
        have HDM := Hid.mk hdm
        have HGI := Hid.mk hgi
        have HDI := Hid.mk hdi
        have HOL := Hid.mk hol
        have HSN := Hid.mk hsn
        have HLA := Hid.mk hla
        clear hdm hgi hdi hol hsn hla
        by_cases hlt4 : j < n
        case neg =>
          obtain rfl : n = j := by omega
          have he : ents = [] := HDI.out.done (by rw [HOL.out, HR.out.1])
          subst he
          have rq : Row wr Q 107 (fairRow M R 0) := by
            have := HDM.out.q.rQ
            simpa using this
          have PE := Hid.mk (pop_empty Q M R wr rq)
          go_wp2_with fail
          refine PE.out.mono ?_
          rintro e w5 ⟨rfl, hb5⟩
          have hQ5 := (rq.below hb5 rq.lt).alloc (.cells zeroReq 83)
          have k4 := hQ5.cell 4
          simp at k4
          have hmp : MapIs (w5.alloc (.cells zeroReq 83)) M [] := (HDM.out.q.mp.only (S := []) (Only.ofBelow hb5) (by simp)).only (S := []) ((Only.refl _ _).alloc _) (by simp)
          have hml := fun ty => run_mapLen hmp ty
          have heq : ∀ W, (binOp .eql 83 (.agg zeroReq) (.agg zeroReq)).run Yba.prog W = .ok (.bool true) W := fun W => eql_same ⟨0, ByteArray.empty, 0, 0, 0, false⟩ W
          have hgu := fun x y W => guard83 .eql x y zeroReq zeroReq W
          have z5 := fun i => (row_new w5 83 zeroReq _ rfl).cell i
          have LE := Hid.mk (len_any Q M R 0 _ hQ5)
          have FIN : Hid (Below w.heap.size w (w5.alloc (.cells zeroReq 83))) := by
            have := HDM.out.below
            exact (this.trans (hb5.mono this.size)).alloc (Nat.le_trans this.size hb5.size) _
          clear hmp rq HDM HGI HDI HOL HSN HLA hb5
          go_wp2_with fail
          refine LE.out.mono ?_
          rintro e w6 ⟨rfl, rfl⟩
          go_wp2
          go_ret
          exact ⟨rfl, FIN.out⟩
        case pos =>
          have hnj : (n : Int) - (j : Int) = ((n - j : Nat) : Int) := by omega
          have POP := Hid.mk (pop_g Q M R rh (n - j) rv rot it ents wr (hnj ▸ HDM.out.q) HGI.out (HDI.out.few (by rw [HOL.out, HR.out.1]; exact hlt4)) (by omega) (by omega))
          clear hnj
          go_wp2_with fail
          refine POP.out.mono ?_
          rintro e w5 ⟨x, rfl, t, ts, rv', rh', it', rot', ents', H', A', p1, p2, p3, p4, p5, p6, p7⟩
          obtain ⟨d1, d2, d3, d4⟩ := HDI.out.pop HR.out.2.nodup p1 p2 p7
          obtain ⟨i, hi, hxi, hxid, hxtn⟩ := HR.out.2.find d2
          obtain ⟨⟨id, tn, tk, pr, dl, hdl⟩, sq⟩ := x
          simp only at hxid hxtn hxi d1 d2 d3 d4
          subst hxid
          have hmm : ((n - j : Nat) : Int) - 1 = (n : Int) - 1 - (j : Int) := by omega
          rw [hmm] at p3
          have HDM5 := Hid.mk (HDM.out.popped p4 p3 p5)
          have HD := Hid.mk (And.intro d1 (And.intro d3 (And.intro d4 p6)))
          have HX := Hid.mk (And.intro hxi hxtn)
          have hin : i < n := by rw [← HR.out.1]; exact hi
          clear d1 d2 d3 d4 p1 p2 p3 p4 p5 p6 p7 POP HDM HGI HDI hxi hxtn hmm
          go_upto_region 33 with fail
          refine wp_world (fun V => DM w V (w.heap.size + 1) (w.heap.size + 1 + 1) Bs (Bs + 1) (Bs + 1 + 1) Q M R n rs ks sn lf hf ((n : Int) - 1 - (j : Int)) rv' rh' it' rot' ents' ∧ Row V w5.heap.size 83 #[.int .i64 i, .string tn, .int .i64 tk, .int .i64 pr, .int .i64 dl, .bool hdl]) ?_ ?_
          · exact ⟨HDM5.out.ext ((Below.refl _ _).alloc (Nat.le_refl _) _), row_new _ _ _ _ rfl⟩
          rintro V ⟨vd, v24⟩
          generalize w5.heap.size = B24 at *
          have LE := Hid.mk (len_any Q M R _ V vd.q.rQ)
          have HV := Hid.mk (And.intro vd v24)
          clear vd v24 HDM5
          go_wp2_with fail
          refine LE.out.mono ?_
          rintro e w6 ⟨rfl, rfl⟩
          go_upto_region 35 with fail
          have z24 := fun i => HV.out.2.cell i
          have hi0 : ¬ ((i : Int) < 0) := by omega
          have hi1 : ¬ ((n : Int) ≤ (i : Int)) := by omega
          have hsi : sn i = false := by
            cases h : sn i with
            | false => rfl
            | true =>
              obtain ⟨r', hr', hid'⟩ := (HSN.out i hin).1 h
              have hm : r' ∈ rs := HD.out.1.perm.mem_iff.1 (by simp [hr'])
              obtain ⟨i', hi', e1, e2, _⟩ := HR.out.2.find hm
              have e3 : i' = i := by omega
              subst e3
              rw [← HX.out.1] at e1
              exact absurd (e1 ▸ hr') HD.out.2.1
          obtain ⟨ysn, yfr⟩ : w6.cell? ⟨Bs, i, none⟩ = some (.bool false) ∧ w6.frozen? ⟨Bs, i, none⟩ = false := by
            obtain ⟨cs, s1, s2, s3⟩ := HV.out.1.seen
            exact ⟨by rw [s1.cell, s3 i hin, hsi], s1.frozen _⟩
          have yr : ∀ c, c < 6 → w6.cell? ⟨w.heap.size + 1, i * 6 + c, none⟩ = (Req.vs ⟨i, tn, tk, pr, dl, hdl⟩)[c]? := fun c hc => by
            rw [HX.out.1]; exact HV.out.1.rsA.at i hi c hc
          have yr0 := yr 0 (by decide)
          have yr1 := yr 1 (by decide)
          have yr2 := yr 2 (by decide)
          have yr3 := yr 3 (by decide)
          have yr4 := yr 4 (by decide)
          have yr5 := yr 5 (by decide)
          simp only [Req.vs, Nat.add_zero] at yr0 yr1 yr2 yr3 yr4 yr5
          simp at yr0 yr1 yr2 yr3 yr4 yr5
          have hneq := fun W => neq_same ⟨i, tn, tk, pr, dl, hdl⟩ W
          have hgu := fun x y W => guard83 .neq x y (Req.vs ⟨i, tn, tk, pr, dl, hdl⟩) (Req.vs ⟨i, tn, tk, pr, dl, hdl⟩) W
          simp only [Req.vs] at hneq hgu
          have HSI := Hid.mk hsi
          clear yr hsi LE
          go_quiet (fail)
          go_upto_region 38 with fail
          refine wp_world (fun V => DM w V (w.heap.size + 1) (w.heap.size + 1 + 1) Bs (Bs + 1) (Bs + 1 + 1) Q M R n rs ks (upd sn i true) lf hf ((n : Int) - 1 - (j : Int)) rv' rh' it' rot' ents' ∧ Row V B24 83 #[.int .i64 i, .string tn, .int .i64 tk, .int .i64 pr, .int .i64 dl, .bool hdl]) ?_ ?_
          · obtain ⟨cs, s1, s2, s3⟩ := HV.out.1.seen
            exact ⟨(HV.out.1.ext (below_drewN (Below.refl _ _) _)).setSeen i hin, (HV.out.2.drewN _).setOther (HV.out.2.ne s1 (by decide)) _ _⟩
          rintro V2 ⟨vd, v24⟩
          clear z24 ysn yfr yr0 yr1 yr2 yr3 yr4 yr5 hneq hgu HV
          obtain ⟨k, hkk⟩ : ∃ k, k = K.getD i 0 := ⟨_, rfl⟩
          obtain ⟨hk1, hk3⟩ := HKS.out.2 i (by rw [HKS.out.1]; exact hin)
          rw [← hkk] at hk1 hk3
          have hkn : tn = nameB k := by rw [hkk]; exact HX.out.2
          have yk : V2.cell? ⟨w.heap.size + 1 + 1, i, none⟩ = some (.int .i64 k) := by
            rw [vd.ksA.at i (by rw [HKS.out.1]; exact hin), hk1]
          have z24 : V2.cell? ⟨B24, 0, none⟩ = some (.int .i64 i) := by simpa using v24.cell 0
          have SN2 : Hid (∀ i', i' < n → (upd sn i true i' = true ↔ ∃ r ∈ out ++ [(⟨i, tn, tk, pr, dl, hdl⟩ : Req)], r.id = i')) := by
            intro i' hi'
            unfold upd
            by_cases e : i' = i
            · subst e
              simp
            · rw [if_neg e, HSN.out i' hi']
              constructor
              · rintro ⟨r, hr, h⟩; exact ⟨r, by simp [hr], h⟩
              · rintro ⟨r, hr, h⟩
                rcases List.mem_append.1 hr with g | g
                · exact ⟨r, g, h⟩
                · rw [List.mem_singleton.1 g] at h
                  simp only at h
                  omega
          have LA2 : Hid (∀ k', k' < 3 → upd hf k true k' = true → ∃ r ∈ out ++ [(⟨i, tn, tk, pr, dl, hdl⟩ : Req)], r.id = upd lf k i k' ∧ r.tn = nameB k') := by
            intro k' hk' h
            unfold upd at h ⊢
            by_cases e : k' = k
            · subst e
              exact ⟨⟨i, tn, tk, pr, dl, hdl⟩, by simp, by simp, hkn⟩
            · rw [if_neg e] at h ⊢
              obtain ⟨r, hr, h1, h2⟩ := HLA.out k' hk' h
              exact ⟨r, by simp [hr], h1, h2⟩
          have HV := Hid.mk (And.intro vd v24)
          have HKN := Hid.mk hkn
          clear vd v24 hkk hk1 hkn
          go_upto_region 39 with fail
          clear yk z24
          cases hfk : hf k with
          | false =>
            have yh : V2.cell? ⟨Bs + 1 + 1, k, none⟩ = some (.bool false) := by rw [row3 (f := fun k => .bool (hf k)) HV.out.1.ha hk3, hfk]
            clear hfk
            go_quiet (fail)
            go_upto_region 41 with fail
            refine wp_world (fun V => DM w V (w.heap.size + 1) (w.heap.size + 1 + 1) Bs (Bs + 1) (Bs + 1 + 1) Q M R n rs ks (upd sn i true) lf hf ((n : Int) - 1 - (j : Int)) rv' rh' it' rot' ents' ∧ Row V B24 83 #[.int .i64 i, .string tn, .int .i64 tk, .int .i64 pr, .int .i64 dl, .bool hdl]) ?_ ?_
            · exact ⟨HV.out.1.ext (below_drewN (Below.refl _ _) _), HV.out.2.drewN _⟩
            clear yh HV
            rintro V3 ⟨vd, v24⟩
            have yh : V3.cell? ⟨Bs + 1 + 1, k, none⟩ = some (.bool (hf k)) := row3 (f := fun k => .bool (hf k)) vd.ha hk3
            have yhf := vd.ha.frozen k
            have yl : V3.cell? ⟨Bs + 1, k, none⟩ = some (.int .i64 (lf k)) := row3 (f := fun k => .int .i64 (lf k)) vd.la hk3
            have ylf := vd.la.frozen k
            have z24 : V3.cell? ⟨B24, 0, none⟩ = some (.int .i64 i) := by simpa using v24.cell 0
            have hn1 : ¬ B24 = Bs + 1 + 1 := v24.ne vd.ha (by decide)
            have hn2 : ¬ B24 = Bs + 1 := v24.ne vd.la (by decide)
            have DMF : Hid (DM w ((V3.setCell ⟨Bs + 1 + 1, k, none⟩ (.bool true)).setCell ⟨Bs + 1, k, none⟩ (.int .i64 i)) (w.heap.size + 1) (w.heap.size + 1 + 1) Bs (Bs + 1) (Bs + 1 + 1) Q M R n rs ks (upd sn i true) (upd lf k i) (upd hf k true) ((n : Int) - ((j + 1 : Nat) : Int)) rv' rh' it' rot' ents') := by
              have e : (n : Int) - ((j + 1 : Nat) : Int) = (n : Int) - 1 - (j : Int) := by omega
              refine Hid.mk ?_
              rw [e]
              exact (vd.setHas k hk3).setLast k hk3 i
            clear vd v24
            go_wp2
            go_roundg (n - j - 1)
            case measure => omega
            case rel => exact ⟨j + 1, out ++ [⟨i, tn, tk, pr, dl, hdl⟩], upd sn i true, upd lf k i, upd hf k true, rv', rh', it', rot', ents', by omega, by simp, DMF.out, HD.out.2.2.2, HD.out.1, by simp [HOL.out], SN2.out, LA2.out⟩
          | true =>
            obtain ⟨r', hr', hid', htn'⟩ := HLA.out k hk3 hfk
            have hm : r' ∈ rs := HD.out.1.perm.mem_iff.1 (by simp [hr'])
            obtain ⟨i', hi', e1, e2, _⟩ := HR.out.2.find hm
            have hbk := HD.out.2.2.1 r' hr' (by rw [htn', HKN.out])
            obtain ⟨id', tn', tk', pr', dl', hdl'⟩ := r'
            simp only at e2 hid'
            subst e2
            have hi'n : i' < n := by rw [← HR.out.1]; exact hi'
            have ne : Nonempty (Ext V2) := ⟨⟨V2, Below.refl _ _⟩⟩
            have yh : ∀ u : Ext V2, u.1.cell? ⟨Bs + 1 + 1, k, none⟩ = some (.bool true) := fun u => by rw [row3 (f := fun k => .bool (hf k)) (HV.out.1.ext u.2).ha hk3, hfk]
            have yl : ∀ u : Ext V2, u.1.cell? ⟨Bs + 1, k, none⟩ = some (.int .i64 i') := fun u => by rw [row3 (f := fun k => .int .i64 (lf k)) (HV.out.1.ext u.2).la hk3, ← hid']
            have yr : ∀ c, c < 6 → ∀ u : Ext V2, u.1.cell? ⟨w.heap.size + 1, i' * 6 + c, none⟩ = (Req.vs ⟨i', tn', tk', pr', dl', hdl'⟩)[c]? := fun c hc u => by
              rw [e1]; exact (HV.out.1.ext u.2).rsA.at i' hi' c hc
            have yr0 := yr 0 (by decide)
            have yr1 := yr 1 (by decide)
            have yr2 := yr 2 (by decide)
            have yr3 := yr 3 (by decide)
            have yr4 := yr 4 (by decide)
            have yr5 := yr 5 (by decide)
            simp only [Req.vs, Nat.add_zero] at yr0 yr1 yr2 yr3 yr4 yr5
            simp at yr0 yr1 yr2 yr3 yr4 yr5
            have zz0 := fun u : Ext V2 => (HV.out.2.ext u).cell 0
            have zz1 := fun u : Ext V2 => (HV.out.2.ext u).cell 1
            have zz2 := fun u : Ext V2 => (HV.out.2.ext u).cell 2
            have zz3 := fun u : Ext V2 => (HV.out.2.ext u).cell 3
            have zz4 := fun u : Ext V2 => (HV.out.2.ext u).cell 4
            have zz5 := fun u : Ext V2 => (HV.out.2.ext u).cell 5
            simp at zz0 zz1 zz2 zz3 zz4 zz5
            have BOK : Hid (∀ u : Ext V2, Calls Yba.prog 20 #[.agg #[.int .i64 i', .string tn', .int .i64 tk', .int .i64 pr', .int .i64 dl', .bool hdl'], .agg #[.int .i64 i, .string tn, .int .i64 tk, .int .i64 pr, .int .i64 dl, .bool hdl]] u.1 fun e w' => e = .returned (.bool true) ∧ Below u.1.heap.size u.1 w') := fun u => by
              have := bok_any ⟨i', tn', tk', pr', dl', hdl'⟩ ⟨i, tn, tk, pr, dl, hdl⟩ u.1
              rw [hbk] at this
              exact this
            clear hfk yr e1 hbk hid' htn' hm hr'
            refine wp_region_ext (by kernel_rfl) (by kernel_rfl) ?_
            unfold InExt
            repeat (go_big_quiet_step ((go_at_call 20; exact quietE _ (BOK.out _))))
            refine wpQuiet_nil ?_
            rintro _ ⟨u, rfl⟩
            go_upto_region 41 with fail
            refine wp_world (fun V => DM w V (w.heap.size + 1) (w.heap.size + 1 + 1) Bs (Bs + 1) (Bs + 1 + 1) Q M R n rs ks (upd sn i true) lf hf ((n : Int) - 1 - (j : Int)) rv' rh' it' rot' ents' ∧ Row V B24 83 #[.int .i64 i, .string tn, .int .i64 tk, .int .i64 pr, .int .i64 dl, .bool hdl]) ?_ ?_
            · exact ⟨HV.out.1.ext u.2, HV.out.2.ext u⟩
            clear yh yl yr0 yr1 yr2 yr3 yr4 yr5 zz0 zz1 zz2 zz3 zz4 zz5 BOK HV ne
            rintro V3 ⟨vd, v24⟩
            have yh : V3.cell? ⟨Bs + 1 + 1, k, none⟩ = some (.bool (hf k)) := row3 (f := fun k => .bool (hf k)) vd.ha hk3
            have yhf := vd.ha.frozen k
            have yl : V3.cell? ⟨Bs + 1, k, none⟩ = some (.int .i64 (lf k)) := row3 (f := fun k => .int .i64 (lf k)) vd.la hk3
            have ylf := vd.la.frozen k
            have z24 : V3.cell? ⟨B24, 0, none⟩ = some (.int .i64 i) := by simpa using v24.cell 0
            have hn1 : ¬ B24 = Bs + 1 + 1 := v24.ne vd.ha (by decide)
            have hn2 : ¬ B24 = Bs + 1 := v24.ne vd.la (by decide)
            have DMF : Hid (DM w ((V3.setCell ⟨Bs + 1 + 1, k, none⟩ (.bool true)).setCell ⟨Bs + 1, k, none⟩ (.int .i64 i)) (w.heap.size + 1) (w.heap.size + 1 + 1) Bs (Bs + 1) (Bs + 1 + 1) Q M R n rs ks (upd sn i true) (upd lf k i) (upd hf k true) ((n : Int) - ((j + 1 : Nat) : Int)) rv' rh' it' rot' ents') := by
              have e : (n : Int) - ((j + 1 : Nat) : Int) = (n : Int) - 1 - (j : Int) := by omega
              refine Hid.mk ?_
              rw [e]
              exact (vd.setHas k hk3).setLast k hk3 i
            clear vd v24
            go_wp2
            go_roundg (n - j - 1)
            case measure => omega
            case rel => exact ⟨j + 1, out ++ [⟨i, tn, tk, pr, dl, hdl⟩], upd sn i true, upd lf k i, upd hf k true, rv', rh', it', rot', ents', by omega, by simp, DMF.out, HD.out.2.2.2, HD.out.1, by simp [HOL.out], SN2.out, LA2.out⟩
end Go.Proofs.Ybulkhba
