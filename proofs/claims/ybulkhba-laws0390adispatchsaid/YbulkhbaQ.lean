import Derived.Test.YbulkhbaPop
import Derived.Test.YbulkhbaRotPush
namespace Go.Proofs.Ybulkhba
open Go.RowKit
set_option linter.unusedVariables false
set_option linter.unusedSimpArgs false

def Apart (s t : TS) : Prop := s.b ≠ t.b ∧ ∀ k, s.iv.ownBlock = some k → t.iv.ownBlock ≠ some k
theorem Apart.symm {s t : TS} (h : Apart s t) : Apart t s := ⟨fun e => h.1 e.symm, fun k hk hk' => h.2 k hk' hk⟩

/-- THE QUEUE. -/
structure QSt (W : World) (Q M R : Nat) (n m : Int) (rv : Value) (rh : Nat) (it : Bool) (rot : List TS) (ents : List (ByteArray × Nat)) : Prop where
  rQ : Row W Q 107 (fairRow M R n)
  rR : Row W R 131 (rotRow rv rh it m)
  line : LineP W rv rh (rot.map TS.ptr)
  tls : ∀ t ∈ rot, TLine W R t
  mp : MapIs W M ents
  pw : rot.Pairwise Apart

def qBlocks (Q M R : Nat) (rv : Value) (rot : List TS) : List Nat := Q :: M :: R :: (rv.ownBlock.toList ++ rot.flatMap TS.fp)

theorem QSt.only {S : List Nat} {W W' : World} {Q M R : Nat} {n m : Int} {rv : Value} {rh : Nat} {it : Bool} {rot : List TS} {ents : List (ByteArray × Nat)}
    (h : QSt W Q M R n m rv rh it rot ents) (ho : Only S W W') (hS : ∀ k ∈ qBlocks Q M R rv rot, k ∉ S) : QSt W' Q M R n m rv rh it rot ents := by
  refine ⟨h.rQ.only ho (hS _ (by simp [qBlocks])), h.rR.only ho (hS _ (by simp [qBlocks])), h.line.only ho (fun k hk => hS _ (by simp [qBlocks, hk])), fun t ht => (h.tls t ht).only ho (fun k hk => hS k ?_), h.mp.only ho (hS _ (by simp [qBlocks])), h.pw⟩
  simp only [qBlocks, List.mem_cons, List.mem_append, List.mem_flatMap]
  exact .inr (.inr (.inr (.inr ⟨t, ht, hk⟩)))
theorem QSt.lt {W : World} {Q M R : Nat} {n m : Int} {rv : Value} {rh : Nat} {it : Bool} {rot : List TS} {ents : List (ByteArray × Nat)}
    (h : QSt W Q M R n m rv rh it rot ents) : ∀ k ∈ qBlocks Q M R rv rot, k < W.heap.size := by
  intro k hk
  simp only [qBlocks, List.mem_cons, List.mem_append, List.mem_flatMap, Option.mem_toList] at hk
  rcases hk with rfl | rfl | rfl | hk | ⟨t, ht, hk⟩
  · exact h.rQ.lt
  · exact h.mp.lt
  · exact h.rR.lt
  · exact h.line.lt k hk
  · exact (h.tls t ht).lt k hk
/-- A block of another type is none of the queue's. -/
theorem QSt.not_mine {W : World} {Q M R : Nat} {n m : Int} {rv : Value} {rh : Nat} {it : Bool} {rot : List TS} {ents : List (ByteArray × Nat)}
    (h : QSt W Q M R n m rv rh it rot ents) {b : Nat} {ty : TypeId} {cs : Array Value} (r : Row W b ty cs) (h1 : ty ≠ 107) (h2 : ty ≠ 131) (h3 : ty ≠ 132) (h4 : ty ≠ 140) (h5 : ty ≠ 117) : b ∉ qBlocks Q M R rv rot := by
  intro hk
  simp only [qBlocks, List.mem_cons, List.mem_append, List.mem_flatMap, Option.mem_toList] at hk
  rcases hk with rfl | rfl | rfl | hk | ⟨t, ht, hk⟩
  · exact absurd rfl (r.ne h.rQ h1)
  · exact h.mp.ne r rfl
  · exact absurd rfl (r.ne h.rR h2)
  · exact h.line.ne r h3 hk
  · simp only [TS.fp, List.mem_cons, Option.mem_toList] at hk
    rcases hk with rfl | hk
    · exact absurd rfl (r.ne (h.tls t ht).1 h4)
    · exact (h.tls t ht).2.1.ne r h5 hk

/-- One tenant's footprint is none of another's, nor of the rest's. -/
theorem fp_apart {W : World} {R : Nat} {s t : TS} (hs : TLine W R s) (ht : TLine W R t) (ha : Apart s t) : ∀ k ∈ s.fp, k ∉ t.fp := by
  intro k hk hk'
  simp only [TS.fp, List.mem_cons, Option.mem_toList] at hk hk'
  rcases hk with rfl | hk
  · rcases hk' with e | hk'
    · exact ha.1 e
    · exact ht.2.1.ne hs.1 (by decide) hk'
  · rcases hk' with rfl | hk'
    · exact hs.2.1.ne ht.1 (by decide) hk
    · exact ha.2 k hk hk'

theorem QSt.rest {W : World} {Q M R : Nat} {n m : Int} {rv : Value} {rh : Nat} {it : Bool} {t : TS} {ts : List TS} {ents : List (ByteArray × Nat)}
    (h : QSt W Q M R n m rv rh it (t :: ts) ents) {W' : World} (ho : Only (Q :: M :: R :: (rv.ownBlock.toList ++ t.fp)) W W') : ∀ s ∈ ts, TLine W' R s := by
  intro s hs
  have hT := h.tls t (by simp)
  have hS := h.tls s (by simp [hs])
  have ha : Apart s t := ((List.pairwise_cons.1 h.pw).1 s hs).symm
  refine hS.only ho fun k hk => ?_
  have hne : ∀ {b : Nat} {ty : TypeId} {cs : Array Value}, Row W b ty cs → ty ≠ 140 → ty ≠ 117 → k ≠ b := by
    intro b ty cs r h1 h2 e
    subst e
    simp only [TS.fp, List.mem_cons, Option.mem_toList] at hk
    rcases hk with rfl | hk
    · exact absurd rfl (r.ne hS.1 h1)
    · exact hS.2.1.ne r h2 hk
  have hM : k ≠ M := by
    intro e
    subst e
    simp only [TS.fp, List.mem_cons, Option.mem_toList] at hk
    rcases hk with e | hk
    · exact h.mp.ne hS.1 e
    · exact h.mp.neA hS.2.1 hk
  have hV : rv.ownBlock ≠ some k := by
    intro e
    simp only [TS.fp, List.mem_cons, Option.mem_toList] at hk
    rcases hk with rfl | hk
    · exact h.line.ne hS.1 (by decide) e
    · exact h.line.neA hS.2.1 k e hk
  simp only [List.mem_cons, List.mem_append, Option.mem_toList, not_or]
  exact ⟨hne h.rQ (by decide) (by decide), hM, hne h.rR (by decide) (by decide), hV, fp_apart hS hT ha k hk⟩

theorem Apart.move {s t t' : TS} (h : Apart s t) (hb : t'.b = t.b) (hi : t'.iv.ownBlock = t.iv.ownBlock) : Apart s t' := ⟨by rw [hb]; exact h.1, by rw [hi]; exact h.2⟩

/-- (*fair).Pop ON THE WHOLE QUEUE, where the front tenant's head fits. -/
theorem pop_q (Q M R rh wt : Nat) (rv : Value) (t : TS) (ts : List TS) (it : Bool) (x : Arr) (A : List Arr) (ents : List (ByteArray × Nat)) (w : World) (d' : Int)
    (hq : QSt w Q M R wt wt rv rh it (t :: ts) ents) (hA : t.A = x :: A)
    (hwt : 0 < wt) (hwt2 : wt ≤ 1000000) (hts : ts.length ≤ 1000) (hq0 : 0 ≤ t.q) (hq1 : t.q ≤ 1000000) (hd0 : 0 ≤ t.d) (hd1 : t.d ≤ 1000000) (hx0 : 0 ≤ x.r.tk) (hx1 : x.r.tk ≤ 1000000)
    (hd : (it = true ∧ d' = t.d) ∨ (it = false ∧ d' = t.d + t.q)) (hfit : x.r.tk ≤ d') :
    Calls Yba.prog 18 #[.pointer (some ⟨Q, 0, none⟩)] w fun e w' => e = .returned (.tuple #[.agg x.r.vs, .bool true]) ∧
      ∃ rv' rh' rot' it' ents' t', QSt w' Q M R ((wt : Int) - 1) ((wt : Int) - 1) rv' rh' it' rot' ents' ∧ Only (qBlocks Q M R rv (t :: ts)) w w' ∧ (∀ k ∈ qBlocks Q M R rv' rot', k ∈ qBlocks Q M R rv (t :: ts) ∨ w.heap.size ≤ k) ∧
        t'.A = A ∧ t'.d = d' - x.r.tk ∧ t'.q = t.q ∧ t'.nm = t.nm ∧ PopNext t t' ts x A (d' - x.r.tk) ents rot' it' ents' := by
  refine (pop_fits Q M R rh wt rv t ts it x A ents w d' hq.rQ hq.rR hq.line (hq.tls t (by simp)) hA hq.mp hwt hwt2 hts hq0 hq1 hd0 hd1 hx0 hx1 hd hfit).mono ?_
  rintro e w' ⟨rfl, rv', rh', iv', hd', rot', it', ents', ho, g1, g2, g3, g4, g5, hob, hnew, hnext⟩
  have hrest := hq.rest ho
  have hpw := List.pairwise_cons.1 hq.pw
  have hpt : ∀ s ∈ ts, Apart s { t with iv := iv', hd := hd', A := A, d := d' - x.r.tk } := fun s hs => (hpw.1 s hs).symm.move rfl hob
  have hall : (∀ s ∈ rot', TLine w' R s) ∧ rot'.Pairwise Apart ∧ ∀ s ∈ rot', s ∈ ts ∨ s = { t with iv := iv', hd := hd', A := A, d := d' - x.r.tk } := by
    rcases hnext with ⟨_, rfl, _, _⟩ | ⟨y, A', _, _, ⟨_, rfl, _⟩ | ⟨_, rfl, _⟩⟩
    · exact ⟨hrest, hpw.2, fun s hs => .inl hs⟩
    · refine ⟨fun s hs => ?_, List.pairwise_cons.2 ⟨fun s hs => (hpt s hs).symm, hpw.2⟩, fun s hs => ?_⟩
      · rcases List.mem_cons.1 hs with rfl | hs
        · exact g4
        · exact hrest s hs
      · rcases List.mem_cons.1 hs with h | h
        · exact .inr h
        · exact .inl h
    · refine ⟨fun s hs => ?_, List.pairwise_append.2 ⟨hpw.2, List.pairwise_singleton _ _, fun s hs s' hs' => ?_⟩, fun s hs => ?_⟩
      · rcases List.mem_append.1 hs with hs | hs
        · exact hrest s hs
        · rw [List.mem_singleton.1 hs]; exact g4
      · rw [List.mem_singleton.1 hs']; exact hpt s hs
      · rcases List.mem_append.1 hs with h | h
        · exact .inl h
        · exact .inr (List.mem_singleton.1 h)
  refine ⟨rfl, rv', rh', rot', it', ents', { t with iv := iv', hd := hd', A := A, d := d' - x.r.tk }, ⟨g1, g2, g3, hall.1, g5, hall.2.1⟩, ho.mono ?_, ?_, rfl, rfl, rfl, rfl, hnext⟩
  · intro j hj
    simp only [qBlocks, List.mem_cons, List.mem_append, List.flatMap_cons] at hj ⊢
    rcases hj with h | h | h | h | h <;> simp [h]
  · intro k hk
    simp only [qBlocks, List.mem_cons, List.mem_append, List.mem_flatMap, Option.mem_toList] at hk ⊢
    rcases hk with rfl | rfl | rfl | hk | ⟨s, hs, hk⟩
    · simp
    · simp
    · simp
    · rcases hnew k hk with h | h
      · simp [h]
      · exact .inr h
    · rcases hall.2.2 s hs with h | h
      · exact .inl (.inr (.inr (.inr (.inr ⟨s, .inr h, hk⟩))))
      · subst h
        refine .inl (.inr (.inr (.inr (.inr ⟨t, .inl rfl, ?_⟩))))
        simp only [TS.fp, List.mem_cons, Option.mem_toList] at hk ⊢
        rw [hob] at hk
        exact hk

/-- What is neither the rotation's nor t's is none that t's push writes. -/
theorem QSt.off {W : World} {Q M R : Nat} {n m : Int} {rv : Value} {rh : Nat} {it : Bool} {rot : List TS} {ents : List (ByteArray × Nat)}
    (h : QSt W Q M R n m rv rh it rot ents) {t : TS} (hT : TLine W R t) {s : TS} (hs : s ∈ rot) (ha : Apart s t) {W' : World} (ho : Only (R :: (rv.ownBlock.toList ++ t.fp)) W W') : TLine W' R s := by
  have hS := h.tls s hs
  refine hS.only ho fun k hk => ?_
  have hR : k ≠ R := by
    intro e
    subst e
    simp only [TS.fp, List.mem_cons, Option.mem_toList] at hk
    rcases hk with e | hk
    · exact absurd e (h.rR.ne hS.1 (by decide))
    · exact hS.2.1.ne h.rR (by decide) hk
  have hV : rv.ownBlock ≠ some k := by
    intro e
    simp only [TS.fp, List.mem_cons, Option.mem_toList] at hk
    rcases hk with rfl | hk
    · exact h.line.ne hS.1 (by decide) e
    · exact h.line.neA hS.2.1 k e hk
  simp only [List.mem_cons, List.mem_append, Option.mem_toList, not_or]
  exact ⟨hR, hV, fp_apart hS hT ha k hk⟩
theorem QSt.offQM {W : World} {Q M R : Nat} {n m : Int} {rv : Value} {rh : Nat} {it : Bool} {rot : List TS} {ents : List (ByteArray × Nat)}
    (h : QSt W Q M R n m rv rh it rot ents) {t : TS} (hT : TLine W R t) {W' : World} (ho : Only (R :: (rv.ownBlock.toList ++ t.fp)) W W') : Row W' Q 107 (fairRow M R n) ∧ MapIs W' M ents := by
  constructor
  · refine h.rQ.only ho ?_
    simp only [List.mem_cons, List.mem_append, Option.mem_toList, not_or, TS.fp]
    exact ⟨h.rQ.ne h.rR (by decide), fun e => h.line.ne h.rQ (by decide) e, h.rQ.ne hT.1 (by decide), fun e => hT.2.1.ne h.rQ (by decide) e⟩
  · refine h.mp.only ho ?_
    simp only [List.mem_cons, List.mem_append, Option.mem_toList, not_or, TS.fp]
    exact ⟨h.mp.ne h.rR, h.mp.neP h.line, h.mp.ne hT.1, h.mp.neA hT.2.1⟩

/-- rotation.push ONTO A LINE THAT WAITS ALREADY. -/
theorem pushOld (Q M R rh nr : Nat) (n : Int) (rv : Value) (it : Bool) (pre post : List TS) (t : TS) (r : Req) (ents : List (ByteArray × Nat)) (w : World)
    (hq : QSt w Q M R n nr rv rh it (pre ++ t :: post) ents) (hA0 : t.A ≠ []) (hh : t.hd = 0) (hps : (pre ++ t :: post).length ≤ 1000) (hA : t.A.length ≤ 10000) (hn : t.n ≤ 10000) (hnr : nr ≤ 10000)
    (hrk : ∀ y, t.A.head? = some y → rankI y.r.pr y.r.dl y.r.hd r.pr r.dl r.hd = 0) :
    Calls Yba.prog 35 #[.pointer (some ⟨R, 0, none⟩), .pointer (some ⟨t.b, 0, none⟩), .agg r.vs] w fun e w' => e = .returned (.tuple #[]) ∧ Only (qBlocks Q M R rv (pre ++ t :: post)) w w' ∧
      ∃ rv' rh' iv', QSt w' Q M R n ((nr : Int) + 1) rv' rh' it (pre ++ { t with iv := iv', A := t.A ++ [⟨r, t.n⟩], n := t.n + 1 } :: post) ents ∧
        ∀ k ∈ qBlocks Q M R rv' (pre ++ { t with iv := iv', A := t.A ++ [⟨r, t.n⟩], n := t.n + 1 } :: post), k ∈ qBlocks Q M R rv (pre ++ t :: post) ∨ w.heap.size ≤ k := by
  have hT := hq.tls t (by simp)
  refine (rotPush_s R rh rv it nr _ t r w hq.rR hq.line hT hh (by simpa using hps) (ptrs_oneCell _) hA hn hnr hrk).mono ?_
  rintro e w' ⟨rfl, ho, rv', rh', iv', g1, g2, g3, n1, n2⟩
  rw [if_neg hA0] at g2
  have hpw := List.pairwise_append.1 hq.pw
  have hpc := List.pairwise_cons.1 hpw.2.1
  have a1 : ∀ s ∈ pre, Apart s t := fun s hs => hpw.2.2 s hs t (by simp)
  have a2 : ∀ s ∈ post, Apart s t := fun s hs => (hpc.1 s hs).symm
  have hlt := hq.lt
  have mv : ∀ s, (s ∈ pre ∨ s ∈ post) → Apart s t → Apart s { t with iv := iv', A := t.A ++ [⟨r, t.n⟩], n := t.n + 1 } := by
    intro s hs ha
    refine ⟨ha.1, fun k hk hk' => ?_⟩
    rcases n2 k hk' with h | h
    · exact ha.2 k hk h
    · have := hlt k (by
        simp only [qBlocks, List.mem_cons, List.mem_append, List.mem_flatMap]
        refine .inr (.inr (.inr (.inr ⟨s, ?_, by simp [TS.fp, hk]⟩)))
        rcases hs with h | h <;> simp [h])
      omega
  obtain ⟨gq, gm⟩ := hq.offQM hT ho
  refine ⟨rfl, ho.mono ?_, rv', rh', iv', ⟨gq, g1, by simpa [TS.ptr] using g2, ?_, gm, ?_⟩, ?_⟩
  · intro j hj
    simp only [qBlocks, List.mem_cons, List.mem_append, List.flatMap_append, List.flatMap_cons] at hj ⊢
    rcases hj with h | h | h <;> simp [h]
  · intro s hs
    rcases List.mem_append.1 hs with hs | hs
    · exact hq.off hT (by simp [hs]) (a1 s hs) ho
    · rcases List.mem_cons.1 hs with rfl | hs
      · exact g3
      · exact hq.off hT (by simp [hs]) (a2 s hs) ho
  · refine List.pairwise_append.2 ⟨hpw.1, List.pairwise_cons.2 ⟨fun s hs => (mv s (.inr hs) (a2 s hs)).symm, hpc.2⟩, fun s hs s' hs' => ?_⟩
    rcases List.mem_cons.1 hs' with rfl | hs'
    · exact mv s (.inl hs) (a1 s hs)
    · exact hpw.2.2 s hs s' (by simp [hs'])
  · intro k hk
    simp only [qBlocks, List.mem_cons, List.mem_append, List.flatMap_append, List.flatMap_cons, Option.mem_toList, TS.fp] at hk ⊢
    rcases hk with h | h | h | h | h | (h | h) | h
    · simp [h]
    · simp [h]
    · simp [h]
    · rcases n1 k h with h' | h'
      · simp [h']
      · exact .inr h'
    · simp [h]
    · simp [h]
    · rcases n2 k h with h' | h'
      · simp [h']
      · exact .inr h'
    · simp [h]

/-- rotation.push ONTO A NEW LINE. -/
theorem pushNew (Q M R rh nr : Nat) (n : Int) (rv : Value) (it : Bool) (rot : List TS) (t : TS) (r : Req) (ents : List (ByteArray × Nat)) (w : World)
    (hq : QSt w Q M R n nr rv rh it rot ents) (hT : TLine w R t) (hap : ∀ s ∈ rot, Apart s t) (hA0 : t.A = []) (hh : t.hd = 0) (hps : rot.length ≤ 999) (hn : t.n ≤ 10000) (hnr : nr ≤ 10000) :
    Calls Yba.prog 35 #[.pointer (some ⟨R, 0, none⟩), .pointer (some ⟨t.b, 0, none⟩), .agg r.vs] w fun e w' => e = .returned (.tuple #[]) ∧ Only (qBlocks Q M R rv (rot ++ [t])) w w' ∧
      ∃ rv' rh' iv', QSt w' Q M R n ((nr : Int) + 1) rv' rh' it (rot ++ [{ t with iv := iv', A := [⟨r, t.n⟩], n := t.n + 1 }]) ents ∧
        ∀ k ∈ qBlocks Q M R rv' (rot ++ [{ t with iv := iv', A := [⟨r, t.n⟩], n := t.n + 1 }]), k ∈ qBlocks Q M R rv (rot ++ [t]) ∨ w.heap.size ≤ k := by
  refine (rotPush_s R rh rv it nr _ t r w hq.rR hq.line hT hh (by simp; omega) (ptrs_oneCell _) (by rw [hA0]; simp) hn hnr (by rw [hA0]; simp)).mono ?_
  rintro e w' ⟨rfl, ho, rv', rh', iv', g1, g2, g3, n1, n2⟩
  rw [if_pos hA0] at g2
  rw [hA0, List.nil_append] at g3
  have hlt := hq.lt
  have mv : ∀ s ∈ rot, Apart s { t with iv := iv', A := [⟨r, t.n⟩], n := t.n + 1 } := by
    intro s hs
    refine ⟨(hap s hs).1, fun k hk hk' => ?_⟩
    rcases n2 k hk' with h | h
    · exact (hap s hs).2 k hk h
    · have := hlt k (by
        simp only [qBlocks, List.mem_cons, List.mem_append, List.mem_flatMap]
        exact .inr (.inr (.inr (.inr ⟨s, hs, by simp [TS.fp, hk]⟩))))
      omega
  obtain ⟨gq, gm⟩ := hq.offQM hT ho
  refine ⟨rfl, ho.mono ?_, rv', rh', iv', ⟨gq, g1, by simpa [TS.ptr] using g2, ?_, gm, ?_⟩, ?_⟩
  · intro j hj
    simp only [qBlocks, List.mem_cons, List.mem_append, List.flatMap_append, List.flatMap_cons, List.flatMap_nil, List.append_nil] at hj ⊢
    rcases hj with h | h | h <;> simp [h]
  · intro s hs
    rcases List.mem_append.1 hs with hs | hs
    · exact hq.off hT hs (hap s hs) ho
    · rw [List.mem_singleton.1 hs]; exact g3
  · exact List.pairwise_append.2 ⟨hq.pw, List.pairwise_singleton _ _, fun s hs s' hs' => by rw [List.mem_singleton.1 hs']; exact mv s hs⟩
  · intro k hk
    simp only [qBlocks, List.mem_cons, List.mem_append, List.flatMap_append, List.flatMap_cons, List.flatMap_nil, List.append_nil, Option.mem_toList, TS.fp] at hk ⊢
    rcases hk with h | h | h | h | h | (h | h)
    · simp [h]
    · simp [h]
    · simp [h]
    · rcases n1 k h with h' | h'
      · simp [h']
      · exact .inr h'
    · simp [h]
    · simp [h]
    · rcases n2 k h with h' | h'
      · simp [h']
      · exact .inr h'
end Go.Proofs.Ybulkhba
