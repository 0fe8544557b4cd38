import Derived.Test.YbulkhbaPlain2
import Derived.Test.YbulkhbaServe
namespace Go.Proofs.Ybulkhba
open Go.RowKit
set_option linter.unusedVariables false
set_option linter.unusedSimpArgs false

def rsP (K : List Nat) (c : Int) : List Req := (List.range K.length).map (fun i => ({ plainReq i (K.getD i 0) with tk := c } : Req))
def ksP (K : List Nat) : List Int := K.map (fun k : Nat => (k : Int))
def zipP (K : List Nat) (c q0 q1 q2 : Int) : List (Req × Int) := (rsP K c).zip ((ksP K).map fun k => if k = 0 then q0 else if k = 1 then q1 else q2)
def wantRow (F : List Int) (X : Nat → List Int) (r : Nat) : List Int := F.filterMap (fun k => (X k.toNat)[r]?)
def wantAt (F : List Int) (X : Nat → List Int) (r : Nat) : List Int := (List.range r).flatMap (wantRow F X)

theorem Lst.get {w : World} {v : Value} {xs : List Int} (h : Lst w v xs) (j : Nat) (hj : j < xs.length) : ∃ g cap, v = .slice (some ⟨g, 0, none⟩) xs.length cap ∧ w.cell? ⟨g, j, none⟩ = some (.int .i64 xs[j]) := by
  obtain ⟨g, cap, hv⟩ := owns_shape h (by omega)
  subst hv
  refine ⟨g, cap, rfl, ?_⟩
  rw [World.ownsRow.cellAt h j (by omega)]
  simp [hj]
theorem wantRow_len (F : List Int) (X : Nat → List Int) (r : Nat) : (wantRow F X r).length ≤ F.length := List.length_filterMap_le _ _
theorem wantAt_succ (F : List Int) (X : Nat → List Int) (r : Nat) : wantAt F X (r + 1) = wantAt F X r ++ wantRow F X r := by simp [wantAt, List.range_succ]
theorem wantAt_len (F : List Int) (X : Nat → List Int) : ∀ r, (wantAt F X r).length ≤ r * F.length
  | 0 => by simp [wantAt]
  | r + 1 => by
    have h1 := wantAt_len F X r
    have h2 := wantRow_len F X r
    rw [wantAt_succ, List.length_append, Nat.succ_mul]
    omega
theorem wantRow_take (F : List Int) (X : Nat → List Int) (r j : Nat) (hj : j < F.length) : wantRow (F.take (j + 1)) X r = wantRow (F.take j) X r ++ ((X F[j].toNat)[r]?).toList := by
  rw [List.take_succ_eq_append_getElem hj]
  simp only [wantRow, List.filterMap_append, List.filterMap_cons, List.filterMap_nil]
  cases (X F[j].toNat)[r]? <;> rfl
/-- Where the law stands while it lays 'want'. -/
structure Set2 (w2 W : World) (wv : Value) (xs : List Int) : Prop where
  own : Lst W wv xs
  lo : ∀ k, wv.ownBlock = some k → w2.heap.size ≤ k
  below : Below w2.heap.size w2 W
theorem Set2.push {w2 W W' : World} {wv v' : Value} {xs : List Int} {x : Int} (h : Set2 w2 W wv xs) (hown : W'.ownsRow 0 3 1 v' (xs.length + 1) (xs.map (Value.int .i64 ·) ++ [.int .i64 x])) (hg : W.grownBy W' wv.ownBlock) (hn : v'.ownBlock = wv.ownBlock ∨ v'.ownBlock = some W.heap.size) : Set2 w2 W' v' (xs ++ [x]) := by
  refine ⟨by simpa [Lst] using hown, fun k hk => ?_, h.below.trans ((Only.ofGrown (S := wv.ownBlock.toList) hg (by intro j hj; simp [hj])).below h.below.size (fun k hk => h.lo k (by simpa using hk)))⟩
  rcases hn with e | e
  · exact h.lo k (by rw [← e]; exact hk)
  · rw [e] at hk; cases hk; exact h.below.size
theorem Set2.alloc {w2 W : World} {wv : Value} {xs : List Int} (h : Set2 w2 W wv xs) (o : Obj) : Set2 w2 (W.alloc o) wv xs :=
  ⟨h.own.only (S := []) ((Only.refl _ _).alloc o) (by simp), h.lo, h.below.alloc h.below.size o⟩

/-- Where the law stands while it lays the costs. -/
structure Set1 (w W : World) (K : List Nat) (c : Int) (j : Nat) (os : Nat → Value) (S1 : Nat) : Prop where
  below : Below w.heap.size w W
  rs : ∃ cs, Row W (w.heap.size + 1) 83 cs ∧ cs.size = K.length * 6 ∧ ∀ i, i < K.length → ∀ k, k < 6 → cs[i * 6 + k]? = ({ plainReq i (K.getD i 0) with tk := (if i < j then c else 0) } : Req).vs[k]?
  ks : ∃ cs, Row W (w.heap.size + 1 + 1) 3 cs ∧ cs.size = K.length ∧ ∀ i, i < K.length → cs[i]? = some (.int .i64 (K.getD i 0 : Nat))
  ls : Row W S1 109 #[os 0, os 1, os 2]
  own : Own4 W os (plainAt K K.length) (w.heap.size + 4)
theorem Set1.step {w W : World} {K : List Nat} {c : Int} {j : Nat} {os : Nat → Value} {S1 : Nat} (h : Set1 w W K c j os S1) (hj : j < K.length) :
    (∃ v, W.cell? ⟨w.heap.size + 1, j * 6 + 2, none⟩ = some v) ∧ W.frozen? ⟨w.heap.size + 1, j * 6 + 2, none⟩ = false ∧ Set1 w (W.setCell ⟨w.heap.size + 1, j * 6 + 2, none⟩ (.int .i64 c)) K c (j + 1) os S1 := by
  obtain ⟨c1, a1, a2, a3⟩ := h.rs
  obtain ⟨c2, b1, b2, b3⟩ := h.ks
  have hl := a1.ne h.ls (by decide)
  have ho : Only [w.heap.size + 1] W (W.setCell ⟨w.heap.size + 1, j * 6 + 2, none⟩ (.int .i64 c)) := (Only.refl _ _).setCell (by simp) _
  refine ⟨⟨c1[j * 6 + 2]'(by rw [a2]; omega), by rw [a1.cell]; simp⟩, a1.frozen _, h.below.trans (ho.below h.below.size (by simp)), ⟨_, a1.set (j * 6 + 2) _, by simpa using a2, ?_⟩, ⟨c2, b1.only ho (by simp), b2, b3⟩, h.ls.only ho (by simpa using hl.symm), h.own.only ho (by simp)⟩
  intro i hi k hk
  by_cases e : i = j ∧ k = 2
  · obtain ⟨rfl, rfl⟩ := e
    rw [Array.getElem?_setIfInBounds_self_of_lt (by omega)]
    simp
  · rw [Array.getElem?_setIfInBounds_ne (by omega), a3 i hi k hk]
    by_cases e2 : i = j
    · subst e2
      have e3 : k = 0 ∨ k = 1 ∨ k = 3 ∨ k = 4 ∨ k = 5 := by omega
      rcases e3 with rfl | rfl | rfl | rfl | rfl <;> simp
    · by_cases e4 : i < j
      · rw [if_pos e4, if_pos (by omega)]
      · rw [if_neg e4, if_neg (by omega)]
theorem Set1.out {w W : World} {K : List Nat} {c : Int} {os : Nat → Value} {S1 : Nat} (h : Set1 w W K c K.length os S1) : ReqsAt W (w.heap.size + 1) (rsP K c) ∧ IntsAt W (w.heap.size + 1 + 1) (ksP K) := by
  obtain ⟨c1, a1, a2, a3⟩ := h.rs
  obtain ⟨c2, b1, b2, b3⟩ := h.ks
  refine ⟨⟨c1, a1, ?_⟩, ⟨c2, b1, ?_⟩⟩
  · intro j hj k hk
    have hj' : j < K.length := by simpa [rsP] using hj
    rw [a3 j hj' k hk, if_pos hj']
    simp [rsP]
  · intro j hj
    have hj' : j < K.length := by simpa [ksP] using hj
    rw [b3 j hj']
    simp [ksP, hj']

theorem Lst.row {w : World} {v : Value} {xs : List Int} (h : Lst w v xs) : ∀ k, v.ownBlock = some k → ∃ cs, Row w k 3 cs := by
  intro k hk
  rcases h.2 with ⟨e, _⟩ | ⟨g, cap, cur, e, _, hg, _⟩
  · subst e; simp [Value.ownBlock] at hk
  · subst e; simp [Value.ownBlock] at hk; subst hk; exact ⟨cur, hg⟩
/-- Where the law stands while it pops. -/
structure PopSt2 (w W : World) (Q M R n : Nat) (out : List Int) (wv : Value) (wl : List Int) : Prop where
  ex : ∃ rv rh it rot ents, QSt W Q M R n n rv rh it rot ents ∧ Serves out it (rot.map TS.pb) ∧ ∀ k ∈ qBlocks Q M R rv rot, w.heap.size ≤ k
  below : Below w.heap.size w W
  own : Lst W wv wl

theorem PopSt2.only {w W W' : World} {Q M R n : Nat} {out wl : List Int} {wv : Value} (h : PopSt2 w W Q M R n out wv wl) (ho : Only [] W W') : PopSt2 w W' Q M R n out wv wl := by
  obtain ⟨rv, rh, it, rot, ents, g1, g2, g3⟩ := h.ex
  exact ⟨⟨rv, rh, it, rot, ents, g1.only ho (by simp), g2, g3⟩, h.below.trans (ho.below h.below.size (by simp)), h.own.only ho (by simp)⟩
theorem PopSt2.alloc {w W : World} {Q M R n : Nat} {out wl : List Int} {wv : Value} (h : PopSt2 w W Q M R n out wv wl) (o : Obj) : PopSt2 w (W.alloc o) Q M R n out wv wl := h.only ((Only.refl _ _).alloc o)
theorem PopSt2.drew {w W : World} {Q M R n : Nat} {out wl : List Int} {wv : Value} (h : PopSt2 w W Q M R n out wv wl) : PopSt2 w W.drew Q M R n out wv wl := h.only (Only.refl _ _).drew

set_option maxRecDepth 100000 in
set_option maxHeartbeats 6400000 in
theorem rr_walk (a0 : Option Addr) (cap : Nat) (K : List Nat) (a1 : Int) (w : World) (hin : KindsIn w a0 K) (hn : K.length ≤ 1024) (hcap : K.length ≤ cap) (ha0 : 0 ≤ a1) (ha1 : a1 < 256)
    (hk3 : ∀ k ∈ K, k < 3) (hF : ∀ k ∈ plainAt K K.length 3, 0 ≤ k ∧ k < 3) (hW : (wantAt (plainAt K K.length 3) (plainAt K K.length) K.length).length = K.length)
    (hfew : ∀ c q0 q1 q2 j, j ≤ K.length → (buildB ((zipP K c q0 q1 q2).take j)).length ≤ 900)
    (hS : ∀ c, 1 ≤ c → c ≤ 5 → ∀ rot : List TS, rot.map TS.tb = buildB (zipP K c c c c) → Serves (wantAt (plainAt K K.length 3) (plainAt K K.length) K.length) false (rot.map TS.pb)) :
    Calls Yba.prog 6 #[.slice a0 K.length cap, .int .u8 a1] w fun e w' => e = .returned (.bool true) ∧ Below w.heap.size w w' := by
  obtain ⟨n, hnn⟩ : ∃ n, n = K.length := ⟨_, rfl⟩
  obtain ⟨F, hFF⟩ : ∃ F, F = plainAt K n 3 := ⟨_, rfl⟩
  obtain ⟨X, hXX⟩ : ∃ X, X = plainAt K n := ⟨_, rfl⟩
  obtain ⟨c, hc⟩ : ∃ c, a1 % 5 + 1 = c := ⟨_, rfl⟩
  have hc1 : 1 ≤ c := by omega
  have hc5 : c ≤ 5 := by omega
  have hn63 : ((n : Nat) : Int) ≤ 1024 := by omega
  obtain ⟨i3, hi3, hz3, hs3, hb3⟩ := info_parts Yba.info3
  have PLAIN := Hid.mk (plain_any a0 cap K w hin hn hcap)
  rw [← hnn] at hn hcap PLAIN hF hW hS ⊢
  rw [← hFF] at hF hW hS
  rw [← hXX] at hW hS
  have HS := Hid.mk (hS c hc1 hc5)
  have HW := Hid.mk hW
  have HF := Hid.mk hF
  have HN := Hid.mk hnn
  have HFEW := Hid.mk (hfew c c c c)
  have HK3 := Hid.mk hk3
  have HFX := Hid.mk (And.intro hFF hXX)
  clear hin hk3 hF hW hfew hS hnn hFF hXX
  go_enter Yba.func6, Yba.ntmps6
  go_wp2_with fail
  refine PLAIN.out.mono ?_
  rintro e w1 ⟨os, rfl, b1, hrs, hks, hown⟩
  obtain ⟨p0, g0, e0, l0⟩ := (hown.owns 0 (by omega)).shape
  obtain ⟨p1, g1, e1, l1⟩ := (hown.owns 1 (by omega)).shape
  obtain ⟨p2, g2, e2, l2⟩ := (hown.owns 2 (by omega)).shape
  obtain ⟨p3, g3, e3, l3⟩ := (hown.owns 3 (by omega)).shape
  rw [← HFX.out.2] at e0 e1 e2 e3
  rw [e0, e1, e2, e3]
  have HE := Hid.mk (And.intro e0 (And.intro e1 (And.intro e2 e3)))
  have H1 := Hid.mk (And.intro b1 (And.intro hrs (And.intro hks hown)))
  clear e0 e1 e2 e3 l0 l1 l2 l3 b1 hrs hks hown PLAIN
  go_wp2
  go_loopg [11] n (fun k i wr => ∃ j : Nat, j + k = n ∧ i = .int .i64 j ∧ Set1 w wr K c j os w1.heap.size)
  case atStart =>
    refine ⟨0, by omega, rfl, ?_⟩
    obtain ⟨b1, ⟨c1, r1, r2, r3⟩, ⟨c2, k1, k2, k3⟩, hown⟩ := H1.out
    have ho := (Only.refl [] w1).alloc (.cells #[os 0, os 1, os 2] 109)
    rw [HN.out] at r2 r3 k2 k3 hown
    rw [← HE.out.1, ← HE.out.2.1, ← HE.out.2.2.1]
    refine ⟨b1.alloc b1.size _, ⟨c1, r1.alloc _, r2, ?_⟩, ⟨c2, k1.alloc _, k2, k3⟩, row_new _ _ _ _ rfl, hown.only ho (by simp)⟩
    simpa [plainReq] using r3
  case round =>
    obtain ⟨j, hj, rfl, hs⟩ := hrel
    by_cases hlt : j < n
    case pos =>
      obtain ⟨⟨v, y⟩, yf, hs'⟩ := hs.step (by rw [← HN.out]; exact hlt)
      have S := Hid.mk hs'
      clear hs hs'
      go_wp2
      go_roundg (gk - 1)
      case measure => omega
      case rel => exact ⟨j + 1, by omega, by simp, S.out⟩
    have hjn : j = n := by omega
    subst hjn
    have S := Hid.mk hs
    clear hs H1
    have NEW : Hid (Calls Yba.prog 17 #[.slice (some ⟨w.heap.size + 1, 0, none⟩) j j, .slice (some ⟨w.heap.size + 1 + 1, 0, none⟩) j j, .agg #[.int .i64 c, .int .i64 c, .int .i64 c]] wr fun e w' => ∃ Q M R, e = .returned (.pointer (some ⟨Q, 0, none⟩)) ∧ Built wr w' Q M R j (buildB (zipP K c c c c))) := by
      have hS := S.out
      rw [HN.out] at hS
      obtain ⟨h1, h2⟩ := hS.out
      have hl : (rsP K c).length = j := by simp [rsP, HN.out]
      have hl2 : (ksP K).length = j := by simp [ksP, HN.out]
      have h := new_any (w.heap.size + 1) (w.heap.size + 1 + 1) j j (rsP K c) (ksP K) c c c wr h1 h2 (by omega) (by omega) (by omega) (by omega) ?_ ?_ ?_
      · rw [hl] at h; exact h
      · intro k hk
        simp only [ksP, List.mem_map] at hk
        obtain ⟨k', hk', rfl⟩ := hk
        have := HK3.out k' hk'
        omega
      · intro r hr r' hr'
        simp only [rsP, List.mem_map] at hr hr'
        obtain ⟨i, _, rfl⟩ := hr
        obtain ⟨i', _, rfl⟩ := hr'
        rfl
      · intro i hi
        exact HFEW.out i (by rw [hl] at hi; rw [← HN.out]; exact hi)
    go_wp2_with fail
    refine NEW.out.mono ?_
    rintro e w2 ⟨Q, M, R, rfl, hb⟩
    have S2 : Hid (Set1 w w2 K c j os w1.heap.size) := by
      have h := S.out
      have ho : Only [] wr w2 := Only.ofBelow hb.below
      obtain ⟨c1, a1, a2, a3⟩ := h.rs
      obtain ⟨c2, b1, b2, b3⟩ := h.ks
      exact ⟨h.below.trans (hb.below.mono h.below.size), ⟨c1, a1.only ho (by simp), a2, a3⟩, ⟨c2, b1.only ho (by simp), b2, b3⟩, h.ls.only ho (by simp), h.own.only ho (by simp)⟩
    have B2 : Hid (∃ rv rh rot, QSt w2 Q M R j j rv rh false rot (rot.map fun t => (t.nm, t.b)) ∧ rot.map TS.tb = buildB (zipP K c c c c) ∧ ∀ k ∈ qBlocks Q M R rv rot, w.heap.size ≤ k) := by
      obtain ⟨rv, rh, rot, g1, g2, g3⟩ := hb.ex
      exact ⟨rv, rh, rot, g1, g2, fun k hk => Nat.le_trans S.out.below.size (g3 k hk)⟩
    have HFL : Hid (F.length ≤ 2048) := by
      have := plainAt_len K j 3
      show F.length ≤ 2048
      rw [HFX.out.1]
      omega
    have hX3 : X 3 = F := by rw [HFX.out.1, HFX.out.2]
    rw [hX3]
    have HX3 := Hid.mk hX3
    clear hb S NEW HFEW HK3 hX3
    go_wp2
    go_loopg [13, 14] j (fun k wv rr W => ∃ r : Nat, r + k = j ∧ rr = .int .i64 r ∧ Set2 w2 W wv (wantAt F X r))
    case atStart => exact ⟨0, by omega, rfl, World.ownsRow_nil _ _ _ _, by simp [Value.ownBlock], Below.refl _ _⟩
    case round =>
      obtain ⟨r, hr, rfl, hs2⟩ := hrel
      by_cases hlt2 : r < j
      case pos =>
        have T := Hid.mk hs2
        clear hs2
        go_wp2
        go_loopg [13, 15] F.length (fun k wv jj W => ∃ i : Nat, i + k = F.length ∧ jj = .int .i64 i ∧ Set2 w2 W wv (wantAt F X r ++ wantRow (F.take i) X r))
        case atStart => exact ⟨0, by omega, rfl, by simpa [wantRow] using T.out⟩
        case round =>
          obtain ⟨i, hi, rfl, hs3⟩ := hrel
          obtain ⟨ys, hys⟩ : ∃ ys, ys = wantAt F X r ++ wantRow (F.take i) X r := ⟨_, rfl⟩
          rw [← hys] at hs3
          have HYS := Hid.mk hys
          clear hys
          have T3 := Hid.mk hs3
          clear hs3
          by_cases hlt3 : i < F.length
          case neg =>
            go_wp2
            go_roundg (j - r - 1)
            case measure => omega
            case rel =>
              refine ⟨r + 1, by omega, by simp, ?_⟩
              have h := T3.out
              rw [HYS.out, List.take_of_length_le (by omega), ← wantAt_succ] at h
              exact h
          have hi2 : ((i : Nat) : Int) ≤ 2048 := by have := HFL.out; omega
          have ho2 : Only [] w2 wr := Only.ofBelow T3.out.below
          have hOW := S2.out.own.only ho2 (by simp)
          rw [← HN.out, ← HFX.out.2] at hOW
          have hL3 := hOW.owns 3 (by omega)
          rw [HX3.out, HE.out.2.2.2, HX3.out] at hL3
          obtain ⟨gf, cf, ef, yf⟩ := hL3.get i hlt3
          simp only [Value.slice.injEq] at ef
          obtain ⟨rfl, _, rfl⟩ := ef
          obtain ⟨kd, hkd⟩ : ∃ kd, kd = F[i] := ⟨_, rfl⟩
          rw [← hkd] at yf
          have hk0 : 0 ≤ kd ∧ kd < 3 := by rw [hkd]; exact HF.out _ (List.getElem_mem _)
          obtain ⟨k, hk⟩ : ∃ k : Nat, kd = (k : Int) := ⟨kd.toNat, by omega⟩
          subst hk
          have hk3 : k < 3 := by omega
          have hLk := hOW.owns k (by omega)
          obtain ⟨pk, qk, ek, lk⟩ := hLk.shape
          have yb : wr.cell? ⟨w1.heap.size, k, none⟩ = some (os k) := by
            rw [(S2.out.ls.only ho2 (by simp)).cell]
            have e : k = 0 ∨ k = 1 ∨ k = 2 := by omega
            rcases e with h | h | h <;> subst h <;> simp
          have hrow : wantRow (F.take (i + 1)) X r = wantRow (F.take i) X r ++ ((X k)[r]?).toList := by
            rw [wantRow_take F X r i hlt3, ← hkd]; rfl
          rw [ek] at yb hLk
          have HROW := Hid.mk hrow
          have HKD := Hid.mk hkd
          have hcf : F.length ≤ g3 := by
            rcases hL3.2 with ⟨e, _⟩ | ⟨_, _, _, e, _, _, h, _⟩
            · simp at e
            · simp at e; omega
          clear hrow hkd ek hOW hL3
          by_cases hlr : r < (X k).length
          · obtain ⟨gx, cx, ex, yx⟩ := hLk.get r hlr
            simp only [Value.slice.injEq] at ex
            obtain ⟨rfl, _, rfl⟩ := ex
            have hlr' : ((r : Nat) : Int) < ((X k).length : Nat) := by omega
            obtain ⟨xv, hxv⟩ : ∃ xv, xv = (X k)[r] := ⟨_, rfl⟩
            rw [← hxv] at yx
            have HXV := Hid.mk hxv
            clear hxv hLk
            have HLEN : Hid (ys.length ≤ 5000000) := by
              have g1 := wantAt_len F X r
              have g2 := wantRow_len (F.take i) X r
              have g3 := HFL.out
              have g4 : (F.take i).length ≤ F.length := by simp; omega
              have g5 : r * F.length ≤ 1024 * 2048 := Nat.mul_le_mul (by omega) g3
              show ys.length ≤ 5000000
              rw [HYS.out, List.length_append]
              omega
            go_wp2_with (at_builtin; refine wpList_append_own2 rfl (.tmp 75) (.tmp 80) 92 rfl 3 i3 (.int .i64 0) 1 8 Yba.underlying92 hi3 hz3 hs3 hb3 rfl (by decide) _ ys.length (ys.map (Value.int .i64 ·)) rfl ?d0 _ 1 1 [.int .i64 xv] rfl rfl ?d1 ?d2 (by decide) ?d3 ?d4 ?_)
            case d1 => exact one_new (by simp)
            case d2 => exact ints_one
            case d3 => have := HLEN.out; unfold maxLen; omega
            case d4 => have := HLEN.out; exact .inr (by omega)
            case d0 => exact (T3.out.alloc _).own
            intro v' w' hown hgr hnew
            have T4 := Hid.mk ((T3.out.alloc _).push hown hgr (by simpa using hnew))
            clear hown hgr hnew
            go_wp2
            go_roundg (F.length - i - 1)
            case measure => omega
            case rel =>
              refine ⟨i + 1, by omega, by simp, ?_⟩
              rw [HROW.out, List.getElem?_eq_getElem hlr, ← HXV.out, ← List.append_assoc, ← HYS.out]
              exact T4.out
          · have hlr' : ¬ ((r : Nat) : Int) < ((X k).length : Nat) := by omega
            go_wp2
            go_roundg (F.length - i - 1)
            case measure => omega
            case rel =>
              refine ⟨i + 1, by omega, by simp, ?_⟩
              rw [HROW.out, List.getElem?_eq_none (by omega)]
              simpa [HYS.out] using T3.out
      have hrj : r = j := by omega
      subst hrj
      obtain ⟨rv, rh, rot, hq, htb, hbl⟩ := B2.out
      have hq2 := hq.ext hs2.below
      have hsv := HS.out rot htb
      obtain ⟨wl, hwl⟩ : ∃ wl, wl = wantAt F X r := ⟨_, rfl⟩
      rw [← hwl] at hs2 hsv
      have hwn : wl.length = r := by rw [hwl]; exact HW.out
      have hbel : Below w.heap.size w wr := S2.out.below.trans (hs2.below.mono S2.out.below.size)
      have P0 := Hid.mk (And.intro hq2 (And.intro hsv (And.intro hbl (And.intro hbel hs2.own))))
      have HWN := Hid.mk hwn
      clear hq hq2 hsv hbl hbel htb hwl hwn hs2 B2 S2 HS HW
      go_wp2
      go_loopg [17] r (fun k jj W => ∃ j : Nat, j + k = r ∧ jj = .int .i64 j ∧ PopSt2 w W Q M R (r - j) (wl.drop j) u13 wl)
      case atStart => exact ⟨0, by omega, rfl, ⟨rv, rh, false, rot, _, P0.out.1, P0.out.2.1, P0.out.2.2.1⟩, P0.out.2.2.2.1, P0.out.2.2.2.2⟩
      case round =>
        obtain ⟨j, hj, rfl, hps⟩ := hrel
        by_cases hlt4 : j < r
        case neg =>
          have hjr : j = r := by omega
          subst hjr
          obtain ⟨rv', rh', it', rot', ents', g1, _, _⟩ := hps.ex
          have PE := Hid.mk (pop_empty Q M R wr (by simpa using g1.rQ))
          have HB := Hid.mk hps.below
          clear hps g1 P0
          go_wp2_with fail
          refine PE.out.mono ?_
          rintro e w5 ⟨rfl, hb5⟩
          go_wp2
          go_ret
          exact ⟨rfl, (HB.out.trans (hb5.mono HB.out.size)).alloc (Nat.le_trans HB.out.size hb5.size) _⟩
        have hjw : j < wl.length := by rw [HWN.out]; exact hlt4
        obtain ⟨rv', rh', it', rot', ents', g1, g2, g3⟩ := hps.ex
        rw [List.drop_eq_getElem_cons hjw] at g2
        obtain ⟨gw, cw, ew, yw⟩ := hps.own.get j hjw
        obtain ⟨xv, hxv⟩ : ∃ xv, xv = wl[j] := ⟨_, rfl⟩
        rw [← hxv] at g2 yw
        have POP : Hid (Calls Yba.prog 18 #[.pointer (some ⟨Q, 0, none⟩)] wr fun e w' => ∃ q : Req, e = .returned (.tuple #[.agg q.vs, .bool true]) ∧ q.id = xv ∧ PopSt2 w w' Q M R (r - (j + 1)) (wl.drop (j + 1)) u13 wl) := by
          refine (pop_serves Q M R rh' (r - j) rv' rot' it' ents' wr xv _ g1 g2 (by omega) (by omega)).mono ?_
          rintro e w' ⟨q, rfl, hq1, rv2, rh2, rot2, it2, ents2, f1, f2, f3, f4⟩
          refine ⟨q, rfl, hq1, ⟨rv2, rh2, it2, rot2, ents2, ?_, f4, ?_⟩, hps.below.trans (f2.below hps.below.size g3), hps.own.only f2 ?_⟩
          · have e : ((r - j : Nat) : Int) - 1 = ((r - (j + 1) : Nat) : Int) := by omega
            rw [e] at f1
            exact f1
          · intro k hk
            rcases f3 k hk with h | h
            · exact g3 k h
            · have := hps.below.size; omega
          · intro k hk
            obtain ⟨cs, hr⟩ := hps.own.row k hk
            exact g1.not_mine hr (by decide) (by decide) (by decide) (by decide) (by decide)
        rw [HWN.out] at ew
        subst ew
        have hcw : r ≤ cw := by
          have h := hps.own
          unfold Lst at h
          rw [HWN.out] at h
          exact owns_cap h
        clear g1 g2 g3 hps P0 yw
        go_wp2_with fail
        refine POP.out.mono ?_
        rintro e w5 ⟨q, rfl, hqid, hp⟩
        have yw : w5.cell? ⟨gw, j, none⟩ = some (.int .i64 xv) := by
          obtain ⟨g', c', e', y'⟩ := hp.own.get j hjw
          simp only [Value.slice.injEq, Option.some.injEq, Addr.mk.injEq] at e'
          rw [hxv, e'.1.1]; exact y'
        have hgw : gw < w5.heap.size := hp.own.lt gw rfl
        have P5 := Hid.mk hp
        clear hp hxv POP
        go_wp2
        refine wp_world (fun V => PopSt2 w V Q M R (r - (j + 1)) (wl.drop (j + 1)) (.slice (some ⟨gw, 0, none⟩) r cw) wl ∧ V.cell? ⟨w5.heap.size, 0, none⟩ = some (.int .i64 xv) ∧ V.cell? ⟨gw, j, none⟩ = some (.int .i64 xv)) ?_ ?_
        · refine ⟨P5.out.alloc _, ?_, ?_⟩
          · exact (row_new w5 83 _ _ rfl).cell 0
          · rw [World.cell?_alloc_lt _ _ _ hgw]; exact yw
        rintro V ⟨pv, y0, yw'⟩
        have P6 := Hid.mk pv
        clear pv P5 yw
        go_region
        go_wp2
        go_roundg (r - j - 1)
        case measure => omega
        case rel => exact ⟨j + 1, by omega, by simp, P6.out.drew⟩
end Go.Proofs.Ybulkhba
