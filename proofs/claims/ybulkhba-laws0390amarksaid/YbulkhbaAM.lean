import Derived.Test.YbulkhbaAMM
import Derived.Deep.RegionHeld3
namespace Go.Proofs.Ybulkhba
open Go.RowKit
open Go.MuLone
set_option linter.unusedVariables false
set_option linter.unusedSimpArgs false

theorem wrap_tmod {x k : Int} (h0 : 0 ≤ x) (h1 : x < 256) (hk : 1 ≤ k) (hk2 : k ≤ 8) : IntKind.i64.wrap (x.tmod k) = x % k := by
  rw [Int.tmod_eq_emod_of_nonneg h0, IntKind.wrap_i64]
  have h2 := Int.emod_nonneg x (show k ≠ 0 by omega)
  have h3 := Int.emod_lt_of_pos x (show 0 < k by omega)
  omega
set_option maxRecDepth 100000 in
set_option maxHeartbeats 6400000 in
theorem am_walk (a0 : Option Addr) (cap0 : Nat) (D0 : List BD) (pick now : Int) (w : World) (hlen : D0.length ≤ 1024) (hcap : D0.length ≤ cap0) (hin : D0 ≠ [] → ∃ b off, a0 = some ⟨b, off, none⟩ ∧ DIn w b off D0) (hok : ∀ d ∈ D0, d.Ok) (hp0 : 0 ≤ pick) (hp1 : pick < 256)
    (hw0 : -9223372036854775808 ≤ now) (hw1 : now ≤ 9223372036854775807) :
    Calls Yba.prog 3 #[.slice a0 D0.length cap0, .int .u8 pick, .int .i64 now] w fun e w' => e = .returned (.bool true) ∧ Below w.heap.size w w' := by
  obtain ⟨n0, hn0⟩ : ∃ n, n = D0.length := ⟨_, rfl⟩
  rw [← hn0] at hlen hcap ⊢
  have HIN := Hid.mk hin
  have HOK := Hid.mk hok
  have HN0 := Hid.mk hn0
  have hn63 : ((n0 : Nat) : Int) ≤ 1024 := by omega
  clear hin hok hn0
  go_enter Yba.func3, Yba.ntmps3
  go_upto_if 24 with fail
  go_cut [7] from 18 (fun s7 wx => ∃ (b off n cap : Nat) (D : List BD), s7 = .slice (some ⟨b, off, none⟩) n cap ∧ n = D.length ∧ 1 ≤ n ∧ n ≤ 1024 ∧ n ≤ cap ∧ DIn wx b off D ∧ (∀ d ∈ D, d.Ok) ∧ Below w.heap.size w wx)
  case first =>
    by_cases hz : n0 = 0
    · subst hz
      go_wp2
      go_meet
      case rel =>
        refine ⟨_, 0, 1, 1, [⟨0, 0, 0, 0, 0, false⟩], rfl, rfl, by omega, by omega, by omega, ⟨by simp, ?_⟩, ?_, (Below.refl _ _).alloc (Nat.le_refl _) _⟩
        · intro j hj c hc
          have e : j = 0 := by simpa using hj
          subst e
          simp
        · intro d hd
          rw [List.mem_singleton.1 hd]
          constructor <;> simp
    · have hz2 : (((n0 : Nat) : Int) == 0) = false := by rw [beq_eq_false_iff_ne]; omega
      obtain ⟨b, off, rfl, hd⟩ := HIN.out (by intro e; have := HN0.out; rw [e] at this; exact hz this)
      go_wp2
      go_meet
      case rel => exact ⟨b, off, n0, cap0, D0, rfl, HN0.out, by omega, hlen, hcap, hd, HOK.out, Below.refl _ _⟩
  case rest =>
    clear HIN HOK HN0
    obtain ⟨b, off, n, cap, D, rfl, hnD, hn1, hn2, hncap, hdin, hok, hbel⟩ := hcut
    have HD := Hid.mk (And.intro hnD (And.intro hdin (And.intro hok hbel)))
    have hn64 : ((n : Nat) : Int) ≤ 1024 := by omega
    have hn65 : (1 : Int) ≤ ((n : Nat) : Int) := by omega
    clear hnD hdin hok hbel
    obtain ⟨i33, hi33, hz33, hs33, hb33⟩ := info_parts Yba.info33
    have hmk : ∀ W, (Instr.makeSlice 32 (.int .i64 n) (.int .i64 n)).run Yba.prog W = .ok (.slice (some ⟨W.heap.size, 0, none⟩) n n) (W.alloc (.cells (madeCells (Value.pointer none).cells n) 33)) := fun W => by
      have h := run_makeSlice (P := Yba.prog) W 32 33 i33 (.pointer none) Yba.underlying32 hi33 hz33 .i64 .i64 n n (by omega) (by omega) (by simp [hs33]; omega) (by simp [hb33]; omega) (by omega)
      rw [hs33] at h
      simpa using h
    have ADD0 := Hid.mk (add_any 0 0 now wc (by omega) (by omega) hw0 hw1)
    obtain ⟨wl, hwl⟩ : ∃ wl, addW 0 now = wl := ⟨_, rfl⟩
    obtain ⟨ex, hex⟩ : ∃ ex, addX 0 0 now = ex := ⟨_, rfl⟩
    have hr := addW_rng (wl := 0) (d := now) (by omega) (by omega)
    rw [hwl] at hr ADD0
    rw [hex] at ADD0
    obtain ⟨hwl0, hwl1⟩ := hr
    clear hwl hex hi33 hz33 hs33 hb33
    go_wp2_with fail
    refine ADD0.out.mono ?_
    rintro e w1 ⟨rfl, hb1⟩
    have HB1 := Hid.mk hb1
    clear hb1 ADD0
    go_wp2
    go_loopg [35] n (fun k i W => ∃ (j : Nat) (PB : List Nat), j + k = n ∧ i = .int .i64 j ∧ PB.length = j ∧ LB wc W w1.heap.size (w1.heap.size + 1) n wl ex D PB)
    case atStart =>
      have hb := HB1.out
      refine ⟨0, [], by omega, rfl, rfl, ⟨(hb.alloc hb.size _).alloc (by have := hb.size; simp; omega) _, (row_new w1 29 _ _ rfl).alloc _, ⟨_, row_new _ 33 _ _ (by simp), by rw [madeSize], by simp⟩, by simp, List.nodup_nil, by simp, hb.size, by have := hb.size; omega⟩⟩
    case round =>
      obtain ⟨Bt, hBt⟩ : ∃ Bt, Bt = w1.heap.size := ⟨_, rfl⟩
      obtain ⟨j, PB, hj, rfl, hPl, hlb⟩ := hrel
      by_cases hlt : j < n
      case neg =>
        obtain rfl : n = j := by omega
        obtain ⟨idx, hidx⟩ : ∃ idx : Nat, pick % (n : Int) = (idx : Int) := ⟨(pick % (n : Int)).toNat, by have := Int.emod_nonneg pick (show (n : Int) ≠ 0 by omega); omega⟩
        have hil : idx < n := by
          have := Int.emod_lt_of_pos pick (show (0 : Int) < (n : Int) by omega)
          omega
        have hidt : pick.tmod (n : Int) = (idx : Int) := by rw [Int.tmod_eq_emod_of_nonneg hp0]; exact hidx
        have hiD : idx < D.length := by rw [← HD.out.1]; exact hil
        have hiP : idx < PB.length := by rw [hPl]; exact hil
        have hmm := @run_makeMap Yba.prog
        have u0 := hlb.t0.cell 0
        have u1 := hlb.t0.cell 1
        have u2 := hlb.t0.cell 2
        simp at u0 u1 u2
        have HLB := Hid.mk hlb
        have HPL := Hid.mk hPl
        have hlt0 := hlb.t0.lt
        clear hlb hPl hBt hmk
        go_upto_region 17 with fail
        refine wp_world (fun V => LB wc V w1.heap.size (w1.heap.size + 1) n wl ex D PB ∧ Row V wr.heap.size 43 (clkRow wl ex (.slice none 0 0)) ∧ Row V (wr.heap.size + 1) 48 #[.slice none 0 0, .int .i64 0] ∧ Row V (wr.heap.size + 1 + 1 + 1 + 1) 67 (srvRow 0 wr.heap.size (wr.heap.size + 1) (wr.heap.size + 1 + 1) (wr.heap.size + 1 + 1 + 1) (.slice none 0 0) (.slice (some ⟨w1.heap.size + 1, 0, none⟩) n n))) ?_ ?_
        · refine ⟨HLB.out.ext ?_, ?_, ?_, ?_⟩
          · exact (((((Below.refl _ _).alloc (Nat.le_refl _) _).alloc (by simp) _).alloc (by simp; omega) _).alloc (by simp; omega) _).alloc (by simp; omega) _
          · exact ((((row_new wr 43 _ _ rfl).alloc _).alloc _).alloc _).alloc _
          · exact (((row_new _ 48 _ _ (by simp)).alloc _).alloc _).alloc _
          · exact row_new _ 67 _ _ (by simp)
        clear u0 u1 u2 hmm
        rintro V ⟨vl, vC, vQ, vS⟩
        have hszV : Hid (wc.heap.size ≤ wr.heap.size) := HLB.out.below.size
        clear HLB
        generalize wr.heap.size = C at *
        obtain ⟨cb, hcb, hcbs, hcbv⟩ := vl.bb
        have ybi : V.cell? ⟨w1.heap.size + 1, idx, none⟩ = some (.pointer (some ⟨PB[idx], 0, none⟩)) := (hcb.cell idx).trans (hcbv idx hiP)
        have dok : (D[idx]).Ok := HD.out.2.2.1 _ (List.getElem_mem _)
        have rBi := vl.bk idx hiP hiD
        have PO := Hid.mk (passOver_none (C + 1 + 1 + 1 + 1) C (C + 1) (C + 1 + 1) (C + 1 + 1 + 1) PB[idx] wl ex _ _ _ _ _ _ _ _ V vS vC vQ rBi hwl0 hwl1 (Int.emod_nonneg _ (by omega)) (by have := Int.emod_lt_of_pos D[idx].tl (show (0 : Int) < 3 by omega); omega))
        have HV := Hid.mk (And.intro vl (And.intro vC vS))
        clear vl vC vQ vS hcb hcbs hcbv rBi dok
        go_wp2_with fail
        refine PO.out.mono ?_
        rintro e w2 ⟨rfl, ho, rB2, lg, rC2, hlg⟩
        have HCM := Hid.mk (HV.out.1.passed hiP hiD HV.out.2.2 HV.out.2.1 (by have := hszV.out; omega) (by have := hszV.out; omega) ho rB2 rC2 hlg)
        clear ho rB2 rC2 hlg HV PO ybi
        go_wp2
        go_loopg [98] n (fun k i W => ∃ j : Nat, j + k = n ∧ i = .int .i64 j ∧ CM wc W w1.heap.size (w1.heap.size + 1) C n idx wl ex D PB lg)
        case atStart => exact ⟨0, by omega, rfl, HCM.out⟩
        case round =>
          clear HCM
          obtain ⟨j, hj, rfl, hcm⟩ := hrel
          have HCM := Hid.mk hcm
          clear hcm
          by_cases hlt2 : j < n
          case neg =>
            have yd : wr.cell? ⟨b, off + idx * 6 + 5, none⟩ = some (.bool D[idx].wk) := by
              rw [(HD.out.2.1.below HCM.out.below).2 idx hiD 5 (by omega)]; rfl
            have AF := Hid.mk (aafter_any C wl ex lg D[idx].wk wr HCM.out.rC (HCM.out.log hiD))
            have hncapi : ((idx : Nat) : Int) < ((n : Nat) : Int) := by omega
            go_wp2_with fail
            refine AF.out.mono ?_
            rintro e w9 ⟨rfl, hb9⟩
            have HB9 : Hid (Below w.heap.size w w9) := by
              have h1 := HD.out.2.2.2
              have h2 := HCM.out.below
              exact (h1.trans (h2.mono h1.size)).trans (hb9.mono (Nat.le_trans h1.size h2.size))
            clear hb9
            go_wp2
            go_ret
            exact ⟨rfl, HB9.out⟩
          case pos =>
            have hjD : j < D.length := by rw [← HD.out.1]; exact hlt2
            have hjP : j < PB.length := by rw [HPL.out]; exact hlt2
            obtain ⟨d, hd⟩ : ∃ d, d = D[j] := ⟨_, rfl⟩
            obtain ⟨p, hpj⟩ : ∃ p, p = PB[j] := ⟨_, rfl⟩
            have dok : d.Ok := by rw [hd]; exact HD.out.2.2.1 _ (List.getElem_mem _)
            have cc : ∀ c, c < 6 → wr.cell? ⟨b, off + j * 6 + c, none⟩ = d.vs[c]? := fun c hc => by
              rw [hd]; exact (HD.out.2.1.below HCM.out.below).2 j hjD c hc
            have e0 := cc 0 (by decide)
            have e1 := cc 1 (by decide)
            have e2 := cc 2 (by decide)
            have e3 := cc 3 (by decide)
            have e4 := cc 4 (by decide)
            have e5 := cc 5 (by decide)
            simp only [BD.vs, Nat.add_zero] at e0 e1 e2 e3 e4 e5
            simp at e0 e1 e2 e3 e4 e5
            have ybj : (wr.alloc (.cells d.vs 25)).cell? ⟨w1.heap.size + 1, j, none⟩ = some (.pointer (some ⟨p, 0, none⟩)) := by
              obtain ⟨cs, a, c⟩ := HCM.out.bb
              rw [hpj]
              exact ((a.alloc _).cell j).trans (c j hjP)
            have HDJ := Hid.mk (And.intro hd hpj)
            clear hd hpj cc
            go_upto_region 23 with fail
            refine wp_world (fun V => CM wc V w1.heap.size (w1.heap.size + 1) C n idx wl ex D PB lg ∧ Row V wr.heap.size 25 d.vs) ?_ ?_
            · exact ⟨HCM.out.ext ((Below.refl _ _).alloc (Nat.le_refl _) _), row_new _ _ _ _ rfl⟩
            clear e0 e1 e2 e3 e4 e5 ybj
            obtain ⟨Bd, hBd⟩ : ∃ Bd, Bd = wr.heap.size := ⟨_, rfl⟩
            rw [← hBd]
            clear hBd HCM
            rintro V ⟨vc, vd⟩
            have hbk := vc.bk j hjP hjD
            rw [← HDJ.out.2, ← HDJ.out.1] at hbk
            have ne : Nonempty (Ext V) := ⟨⟨V, Below.refl _ _⟩⟩
            have y0 := fun u : Ext V => (vd.ext u).cell 0
            have y1 := fun u : Ext V => (vd.ext u).cell 1
            have y2 := fun u : Ext V => (vd.ext u).cell 2
            have y3 := fun u : Ext V => (vd.ext u).cell 3
            have y4 := fun u : Ext V => (vd.ext u).cell 4
            have y5 := fun u : Ext V => (vd.ext u).cell 5
            have z0 := fun u : Ext V => (vc.t0.ext u).cell 0
            have z1 := fun u : Ext V => (vc.t0.ext u).cell 1
            have z2 := fun u : Ext V => (vc.t0.ext u).cell 2
            simp at y0 y1 y2 y3 y4 y5 z0 z1 z2
            obtain ⟨o1, o2, o3, o4, o5, o6, o7, o8, o9, o10⟩ := dok
            have HV := Hid.mk (And.intro vc vd)
            clear vc vd
            by_cases hji : j = idx
            · subst hji
              rw [if_pos rfl] at hbk
              have p1 := fun u : Ext V => (hbk.ext u).cell 1
              have p2 := fun u : Ext V => (hbk.ext u).cell 2
              have p3 := fun u : Ext V => (hbk.ext u).cell 3
              simp at p1 p2 p3
              have HBK := Hid.mk hbk
              clear hbk
              refine wp_region_ext (by kernel_rfl) (by kernel_rfl) ?_
              unfold InExt
              repeat (go_big_quiet_step (fail))
              refine wpQuiet_nil ?_
              rintro _ ⟨u, rfl⟩
              go_upto_region 26 with fail
              refine wp_world (fun V => CM wc V w1.heap.size (w1.heap.size + 1) C n j wl ex D PB lg ∧ Row V p 39 (bkRow (d.sl % 8) (d.inf % 8) (d.ty % 4) (addW wl 5000000000) (addX wl ex 5000000000) true 2)) ?_ ?_
              · exact ⟨HV.out.1.ext u.2, HBK.out.ext u⟩
              clear y0 y1 y2 y3 y4 y5 z0 z1 z2 p1 p2 p3 ne HV HBK
              rintro V2 ⟨vc, vp⟩
              have ne : Nonempty (Ext V2) := ⟨⟨V2, Below.refl _ _⟩⟩
              have z0 := fun u : Ext V2 => (vc.t0.ext u).cell 0
              have z1 := fun u : Ext V2 => (vc.t0.ext u).cell 1
              have z2 := fun u : Ext V2 => (vc.t0.ext u).cell 2
              have p4 := fun u : Ext V2 => (vp.ext u).cell 4
              have p5 := fun u : Ext V2 => (vp.ext u).cell 5
              have p6 := fun u : Ext V2 => (vp.ext u).cell 6
              have p7 := fun u : Ext V2 => (vp.ext u).cell 7
              have p8 := fun u : Ext V2 => (vp.ext u).cell 8
              simp at z0 z1 z2 p4 p5 p6 p7 p8
              have ADD : Hid (∀ u : Ext V2, Calls Yba.prog 10 #[.agg (tmV wl ex), .int .i64 5000000000] u.1 fun e w' => e = .returned (.agg (tmV (addW wl 5000000000) (addX wl ex 5000000000))) ∧ Below u.1.heap.size u.1 w') := fun u => add_any wl ex 5000000000 u.1 hwl0 hwl1 (by omega) (by omega)
              have EQ : Hid (∀ u : Ext V2, Calls Yba.prog 12 #[.agg (tmV (addW wl 5000000000) (addX wl ex 5000000000)), .agg (tmV (addW wl 5000000000) (addX wl ex 5000000000))] u.1 fun e w' => e = .returned (.bool true) ∧ Below u.1.heap.size u.1 w') := fun u => equal_same _ _ u.1 (addW_rng hwl0 hwl1).1 (addW_rng hwl0 hwl1).2
              have HV := Hid.mk vc
              clear vc vp
              generalize addW wl 5000000000 = nw at *
              generalize addX wl ex 5000000000 = nx at *
              refine wp_region_ext (by kernel_rfl) (by kernel_rfl) ?_
              unfold InExt
              repeat (go_big_quiet_step (first | (go_at_call 10; exact quietE _ (ADD.out _)) | (go_at_call 12; exact quietE _ (EQ.out _))))
              refine wpQuiet_nil ?_
              rintro _ ⟨u, rfl⟩
              have HC := Hid.mk (HV.out.ext u.2)
              clear z0 z1 z2 p4 p5 p6 p7 p8 ADD EQ ne HV
              go_wp2
              go_roundg (n - j - 1)
              case measure => omega
              case rel => exact ⟨j + 1, by omega, by simp, HC.out⟩
            · rw [if_neg hji] at hbk
              have hjib : (((j : Nat) : Int) == ((idx : Nat) : Int)) = false := by rw [beq_eq_false_iff_ne]; omega
              have p1 := fun u : Ext V => (hbk.ext u).cell 1
              have p2 := fun u : Ext V => (hbk.ext u).cell 2
              have p3 := fun u : Ext V => (hbk.ext u).cell 3
              simp at p1 p2 p3
              have HBK := Hid.mk hbk
              clear hbk
              refine wp_region_ext (by kernel_rfl) (by kernel_rfl) ?_
              unfold InExt
              repeat (go_big_quiet_step (fail))
              refine wpQuiet_nil ?_
              rintro _ ⟨u, rfl⟩
              go_upto_region 28 with fail
              refine wp_world (fun V => CM wc V w1.heap.size (w1.heap.size + 1) C n idx wl ex D PB lg ∧ Row V p 39 (bkOf wl ex d) ∧ Row V Bd 25 d.vs) ?_ ?_
              · exact ⟨HV.out.1.ext u.2, HBK.out.ext u, HV.out.2.ext u⟩
              clear y0 y1 y2 y3 y4 y5 z0 z1 z2 p1 p2 p3 ne HV HBK
              rintro V2 ⟨vc, vp, vd⟩
              have ne : Nonempty (Ext V2) := ⟨⟨V2, Below.refl _ _⟩⟩
              have z0 := fun u : Ext V2 => (vc.t0.ext u).cell 0
              have z1 := fun u : Ext V2 => (vc.t0.ext u).cell 1
              have z2 := fun u : Ext V2 => (vc.t0.ext u).cell 2
              have p4 := fun u : Ext V2 => (vp.ext u).cell 4
              have p5 := fun u : Ext V2 => (vp.ext u).cell 5
              have p6 := fun u : Ext V2 => (vp.ext u).cell 6
              have p7 := fun u : Ext V2 => (vp.ext u).cell 7
              have p8 := fun u : Ext V2 => (vp.ext u).cell 8
              have y3 := fun u : Ext V2 => (vd.ext u).cell 3
              have y4 := fun u : Ext V2 => (vd.ext u).cell 4
              have y5 := fun u : Ext V2 => (vd.ext u).cell 5
              simp at z0 z1 z2 p4 p5 p6 p7 p8 y3 y4 y5
              have ADD : Hid (∀ u : Ext V2, Calls Yba.prog 10 #[.agg (tmV wl ex), .int .i64 (d.off * 1000000000)] u.1 fun e w' => e = .returned (.agg (tmV (addW wl (d.off * 1000000000)) (addX wl ex (d.off * 1000000000)))) ∧ Below u.1.heap.size u.1 w') := fun u => add_any wl ex (d.off * 1000000000) u.1 hwl0 hwl1 (by omega) (by omega)
              have EQ : Hid (∀ u : Ext V2, Calls Yba.prog 12 #[.agg (tmV (addW wl (d.off * 1000000000)) (addX wl ex (d.off * 1000000000))), .agg (tmV (addW wl (d.off * 1000000000)) (addX wl ex (d.off * 1000000000)))] u.1 fun e w' => e = .returned (.bool true) ∧ Below u.1.heap.size u.1 w') := fun u => equal_same _ _ u.1 (addW_rng hwl0 hwl1).1 (addW_rng hwl0 hwl1).2
              have HV := Hid.mk vc
              clear vc vp vd
              generalize addW wl (d.off * 1000000000) = nw at *
              generalize addX wl ex (d.off * 1000000000) = nx at *
              refine wp_region_ext (by kernel_rfl) (by kernel_rfl) ?_
              unfold InExt
              repeat (go_big_quiet_step (first | (go_at_call 10; exact quietE _ (ADD.out _)) | (go_at_call 12; exact quietE _ (EQ.out _))))
              refine wpQuiet_nil ?_
              rintro _ ⟨u, rfl⟩
              have HC := Hid.mk (HV.out.ext u.2)
              clear z0 z1 z2 p4 p5 p6 p7 p8 y3 y4 y5 ADD EQ ne HV
              go_wp2
              go_roundg (n - j - 1)
              case measure => omega
              case rel => exact ⟨j + 1, by omega, by simp, HC.out⟩
      case pos =>
        have hjD : j < D.length := by rw [← HD.out.1]; exact hlt
        obtain ⟨d, hd⟩ : ∃ d, d = D[j] := ⟨_, rfl⟩
        have dok : d.Ok := by rw [hd]; exact HD.out.2.2.1 _ (List.getElem_mem _)
        have cc : ∀ c, c < 6 → wr.cell? ⟨b, off + j * 6 + c, none⟩ = d.vs[c]? := fun c hc => by
          rw [hd]; exact (HD.out.2.1.below hlb.below).2 j hjD c hc
        have e0 := cc 0 (by decide)
        have e1 := cc 1 (by decide)
        have e2 := cc 2 (by decide)
        have e3 := cc 3 (by decide)
        have e4 := cc 4 (by decide)
        have e5 := cc 5 (by decide)
        simp only [BD.vs, Nat.add_zero] at e0 e1 e2 e3 e4 e5
        simp at e0 e1 e2 e3 e4 e5
        have HLB := Hid.mk hlb
        have HJ := Hid.mk (And.intro hPl hd)
        clear hlb hPl hd cc
        go_upto_region 12 with fail
        refine wp_world (fun V => LB wc V w1.heap.size (w1.heap.size + 1) n wl ex D PB ∧ Row V wr.heap.size 25 d.vs) ?_ ?_
        · exact ⟨HLB.out.ext ((Below.refl _ _).alloc (Nat.le_refl _) _), row_new _ _ _ _ rfl⟩
        clear e0 e1 e2 e3 e4 e5
        obtain ⟨Bd, hBd⟩ : ∃ Bd, Bd = wr.heap.size := ⟨_, rfl⟩
        rw [← hBd]
        clear hBd HLB
        rintro V ⟨vl, vd⟩
        have y0 := vd.cell 0
        have y1 := vd.cell 1
        have y2 := vd.cell 2
        have y3 := vd.cell 3
        have y4 := vd.cell 4
        have y5 := vd.cell 5
        have z0 := vl.t0.cell 0
        have z1 := vl.t0.cell 1
        have z2 := vl.t0.cell 2
        simp at y0 y1 y2 y3 y4 y5 z0 z1 z2
        obtain ⟨o1, o2, o3, o4, o5, o6, o7, o8, o9, o10⟩ := dok
        obtain ⟨cb, hcb, hcbs, _⟩ := vl.bb
        obtain ⟨vb, hvb⟩ : ∃ vb, cb[j]? = some vb := ⟨cb[j]'(by omega), by simp⟩
        have hlb : w1.heap.size + 1 < V.heap.size := hcb.lt
        have hlt0 : w1.heap.size < V.heap.size := vl.t0.lt
        have hlBd : Bd < V.heap.size := vd.lt
        have hBdb : ¬ Bd = w1.heap.size + 1 := vd.ne hcb (by decide)
        have hBdb' : ¬ w1.heap.size + 1 = Bd := fun e => hBdb e.symm
        have ADD : Hid (∀ W, Below V.heap.size V W → Calls Yba.prog 10 #[.agg (tmV wl ex), .int .i64 (d.off * 1000000000)] W fun e w' => e = .returned (.agg (tmV (addW wl (d.off * 1000000000)) (addX wl ex (d.off * 1000000000)))) ∧ Below V.heap.size V w' ∧
            w'.cell? ⟨Bd, 0, none⟩ = some (.int .u8 d.sl) ∧ w'.cell? ⟨Bd, 1, none⟩ = some (.int .u8 d.inf) ∧ w'.cell? ⟨Bd, 2, none⟩ = some (.int .u8 d.ty) ∧ w'.cell? ⟨Bd, 3, none⟩ = some (.int .u8 d.tl) ∧ w'.cell? ⟨Bd, 4, none⟩ = some (.int .i8 d.off) ∧ w'.cell? ⟨Bd, 5, none⟩ = some (.bool d.wk) ∧
            w'.cell? ⟨w1.heap.size, 0, none⟩ = some (.int .u64 wl) ∧ w'.cell? ⟨w1.heap.size, 1, none⟩ = some (.int .i64 ex) ∧ w'.cell? ⟨w1.heap.size, 2, none⟩ = some (.pointer none) ∧
            w'.cell? ⟨w1.heap.size + 1, j, none⟩ = some vb ∧ w'.frozen? ⟨w1.heap.size + 1, j, none⟩ = false ∧ ¬ w'.heap.size = Bd ∧ ¬ w'.heap.size = w1.heap.size ∧ ¬ w'.heap.size = w1.heap.size + 1 ∧ (∀ o, (w'.alloc o).cell? ⟨w1.heap.size + 1, j, none⟩ = some vb) ∧ (∀ o, (w'.alloc o).frozen? ⟨w1.heap.size + 1, j, none⟩ = false)) := by
          intro W hW
          refine (add_any wl ex (d.off * 1000000000) W hwl0 hwl1 (by omega) (by omega)).mono ?_
          rintro e w' ⟨rfl, hb⟩
          have hB : Below V.heap.size V w' := hW.trans (hb.mono hW.size)
          have hs := hB.size
          have rb := hcb.below hB hcb.lt
          refine ⟨rfl, hB, ?_, ?_, ?_, ?_, ?_, ?_, ?_, ?_, ?_, ?_, rb.frozen _, by omega, by omega, by omega, fun o => ((rb.alloc o).cell j).trans hvb, fun o => (rb.alloc o).frozen _⟩
          · rw [hB.cell hlBd]; exact y0
          · rw [hB.cell hlBd]; exact y1
          · rw [hB.cell hlBd]; exact y2
          · rw [hB.cell hlBd]; exact y3
          · rw [hB.cell hlBd]; exact y4
          · rw [hB.cell hlBd]; exact y5
          · rw [hB.cell hlt0]; exact z0
          · rw [hB.cell hlt0]; exact z1
          · rw [hB.cell hlt0]; exact z2
          · rw [rb.cell]; exact hvb
        obtain ⟨nw, hnw⟩ : ∃ nw, addW wl (d.off * 1000000000) = nw := ⟨_, rfl⟩
        obtain ⟨nx, hnx⟩ : ∃ nx, addX wl ex (d.off * 1000000000) = nx := ⟨_, rfl⟩
        rw [hnw, hnx] at ADD
        have HNW := Hid.mk (And.intro hnw hnx)
        have HWR : Hid (IntKind.i64.wrap (IntKind.i64.wrap d.off * 1000000000) = d.off * 1000000000) := by
          refine Hid.mk ?_
          rw [IntKind.wrap_i64, IntKind.wrap_i64]
          omega
        have HV := Hid.mk vl
        clear vl vd hnw hnx hcb hcbs
        go_region_held3 (fun w' => w'.cell? ⟨Bd, 0, none⟩ = some (.int .u8 d.sl) ∧ w'.cell? ⟨Bd, 1, none⟩ = some (.int .u8 d.inf) ∧ w'.cell? ⟨Bd, 2, none⟩ = some (.int .u8 d.ty) ∧ w'.cell? ⟨Bd, 3, none⟩ = some (.int .u8 d.tl) ∧ w'.cell? ⟨Bd, 4, none⟩ = some (.int .i8 d.off) ∧ w'.cell? ⟨Bd, 5, none⟩ = some (.bool d.wk) ∧
            w'.cell? ⟨w1.heap.size, 0, none⟩ = some (.int .u64 wl) ∧ w'.cell? ⟨w1.heap.size, 1, none⟩ = some (.int .i64 ex) ∧ w'.cell? ⟨w1.heap.size, 2, none⟩ = some (.pointer none)) (go_keep)
          (first | (go_at_call 10; rw [HWR.out]; refine (ADD.out _ (Below.refl _ _).drew).mono ?_; rintro e w' ⟨rfl, hbw, k0, k1, k2, k3, k4, k5, k6, k7, k8, k9, k10, k11, k12, k13, k14, k15⟩))
        rename_i hS
        have FIN : Hid (∀ X : Array Value, X = bkOf wl ex d → LB wc ((w'.alloc (.cells X 39)).setCell ⟨w1.heap.size + 1, j, none⟩ (.pointer (some ⟨w'.heap.size, 0, none⟩))) w1.heap.size (w1.heap.size + 1) n wl ex D (PB ++ [w'.heap.size])) := by
          intro X hX
          subst hX
          obtain ⟨h1, h2⟩ := HJ.out
          have hl := (HV.out.ext hbw).ext ((Below.refl _ _).alloc (Nat.le_refl _) (.cells (bkOf wl ex d) 39))
          subst h1
          refine hl.push hlt hjD w'.heap.size (by rw [← h2]; exact row_new _ _ _ _ rfl) ?_ (Nat.le_trans HV.out.below.size hbw.size)
          intro hm
          obtain ⟨i, hi, e⟩ := List.getElem_of_mem hm
          have hr := (HV.out.bk i hi (by omega)).lt
          have := hbw.size
          omega
        have EX : Hid (#[Value.string { data := #[] }, Value.int IntKind.i64 (IntKind.i64.wrap (d.sl.tmod 8)), Value.int IntKind.i64 (IntKind.i64.wrap (d.inf.tmod 8)), Value.int IntKind.i64 (IntKind.i64.wrap (d.ty.tmod 4)), Value.int IntKind.u64 nw, Value.int IntKind.i64 nx, Value.pointer none, Value.bool d.wk,
            Value.int IntKind.i64 (IntKind.i64.wrap (d.tl.tmod 3)), Value.int IntKind.i64 0, Value.pointer none, Value.string { data := #[] }, Value.string { data := #[] }, Value.bool false, Value.int IntKind.i64 0, Value.string { data := #[] }, Value.int IntKind.i64 0, Value.int IntKind.i64 0] = bkOf wl ex d) := by
          refine Hid.mk ?_
          rw [wrap_tmod o1 o2 (by omega) (by omega), wrap_tmod o3 o4 (by omega) (by omega), wrap_tmod o5 o6 (by omega) (by omega), wrap_tmod o7 o8 (by omega) (by omega), ← HNW.out.1, ← HNW.out.2]
          rfl
        clear hS k0 k1 k2 k3 k4 k5 k6 k7 k8 k9 k10 k14 k15
        go_wp2
        go_roundg (n - j - 1)
        case measure => omega
        case rel => exact ⟨j + 1, PB ++ [w'.heap.size], by omega, by simp, by simp [HJ.out.1], FIN.out _ (by first | exact EX.out | (unfold bkOf; rw [HNW.out.1, HNW.out.2]; rfl) | (unfold bkOf; rw [HNW.out.1, HNW.out.2]; simp [wrap_tmod, *]; done))⟩
end Go.Proofs.Ybulkhba
