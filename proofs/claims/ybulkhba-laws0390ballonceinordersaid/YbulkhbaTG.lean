import Derived.Test.YbulkhbaOInv
namespace Go.Proofs.Ybulkhba
open Go.RowKit
set_option linter.unusedVariables false
set_option linter.unusedSimpArgs false

/-- A tenant's line, in general: heap and tail. -/
structure TG where
  b : Nat
  ev : Value
  H : List Arr
  iv : Value
  hd : Nat
  A : List Arr
  n : Nat
  q : Int
  d : Int
  nm : ByteArray
def TG.ptr (t : TG) : Value := .pointer (some ⟨t.b, 0, none⟩)
def TG.fp (t : TG) : List Nat := t.b :: (t.ev.ownBlock.toList ++ t.iv.ownBlock.toList)
abbrev TG.cells (t : TG) (R : Nat) : Array Value := #[t.ev, t.iv, .int .i64 t.hd, .int .u64 t.n, .pointer (some ⟨R, 0, none⟩), .int .i64 t.q, .int .i64 t.d]
structure TLineG (w : World) (R : Nat) (t : TG) : Prop where
  row : Row w t.b 140 (t.cells R)
  ord : OrdL w t.ev t.H t.iv t.hd t.A
theorem TLineG.ivb {w : World} {R : Nat} {t : TG} (h : TLineG w R t) : t.iv.ownBlock ≠ some t.b := h.ord.tail.ne h.row (by decide)
theorem TLineG.evb {w : World} {R : Nat} {t : TG} (h : TLineG w R t) : t.ev.ownBlock ≠ some t.b := h.ord.heap.ne h.row (by decide)
theorem TLineG.only {S : List Nat} {w w' : World} {R : Nat} {t : TG} (h : TLineG w R t) (ho : Only S w w') (hS : ∀ k ∈ t.fp, k ∉ S) : TLineG w' R t :=
  ⟨h.row.only ho (hS _ (by simp [TG.fp])), h.ord.only ho (fun k hk => hS k (by
    simp only [TG.fp, List.mem_cons, List.mem_append, Option.mem_toList]
    exact .inr hk))⟩
/-- Each block of a tenant is a row of type 140 or 117. -/
theorem LineA.rowOf {w : World} {iv : Value} {hd : Nat} {A : List Arr} (h : LineA w iv hd A) : ∀ k, iv.ownBlock = some k → ∃ cs, Row w k 117 cs := by
  intro k hk
  obtain ⟨_, _, _, _, _, _, _, hs⟩ := h.shape
  obtain ⟨_, _, cur, _, hg, _⟩ := hs k hk
  exact ⟨cur, hg⟩
theorem LineP.rowOf {w : World} {rv : Value} {rh : Nat} {ps : List Value} (h : LineP w rv rh ps) : ∀ k, rv.ownBlock = some k → ∃ cs, Row w k 132 cs := by
  intro k hk
  obtain ⟨_, _, _, _, _, _, _, hs⟩ := h.shape
  obtain ⟨_, _, cur, _, hg, _⟩ := hs k hk
  exact ⟨cur, hg⟩
theorem TLineG.rowOf {w : World} {R : Nat} {t : TG} (h : TLineG w R t) : ∀ k ∈ t.fp, ∃ ty cs, Row w k ty cs ∧ (ty = 140 ∨ ty = 117) := by
  intro k hk
  simp only [TG.fp, List.mem_cons, List.mem_append, Option.mem_toList] at hk
  rcases hk with rfl | hk | hk
  · exact ⟨140, _, h.row, .inl rfl⟩
  · obtain ⟨cs, r⟩ := h.ord.heap.row k hk
    exact ⟨117, cs, r, .inr rfl⟩
  · obtain ⟨cs, r⟩ := h.ord.tail.rowOf k hk
    exact ⟨117, cs, r, .inr rfl⟩
theorem TLineG.lt {w : World} {R : Nat} {t : TG} (h : TLineG w R t) : ∀ k ∈ t.fp, k < w.heap.size := by
  intro k hk
  obtain ⟨ty, cs, r, _⟩ := h.rowOf k hk
  exact r.lt
/-- A row of another type is none of the tenant's. -/
theorem TLineG.not_mine {w : World} {R : Nat} {t : TG} (h : TLineG w R t) {b : Nat} {ty : TypeId} {cs : Array Value} (r : Row w b ty cs) (h1 : ty ≠ 140) (h2 : ty ≠ 117) : b ∉ t.fp := by
  intro hk
  obtain ⟨ty', cs', r', e⟩ := h.rowOf b hk
  rcases e with rfl | rfl
  · exact absurd rfl (r.ne r' h1)
  · exact absurd rfl (r.ne r' h2)
theorem TLineG.not_map {w : World} {R M : Nat} {t : TG} {ents : List (ByteArray × Nat)} (h : TLineG w R t) (m : MapIs w M ents) : M ∉ t.fp := by
  intro hk
  obtain ⟨ty', cs', r', _⟩ := h.rowOf M hk
  exact m.ne r' rfl
theorem ptrs_oneG (ts : List TG) : ∀ u ∈ ts.map TG.ptr, u.oneCell' = true := by
  intro u hu
  simp only [List.mem_map] at hu
  obtain ⟨t, _, rfl⟩ := hu
  rfl

def ApartG (s t : TG) : Prop := ∀ k ∈ s.fp, k ∉ t.fp
theorem ApartG.symm {s t : TG} (h : ApartG s t) : ApartG t s := fun k hk hk' => h k hk' hk

/-- THE QUEUE, in general. -/
structure QG (W : World) (Q M R : Nat) (n m : Int) (rv : Value) (rh : Nat) (it : Bool) (rot : List TG) (ents : List (ByteArray × Nat)) : Prop where
  rQ : Row W Q 107 (fairRow M R n)
  rR : Row W R 131 (rotRow rv rh it m)
  line : LineP W rv rh (rot.map TG.ptr)
  tls : ∀ t ∈ rot, TLineG W R t
  mp : MapIs W M ents
  pw : rot.Pairwise ApartG
def qBlocksG (Q M R : Nat) (rv : Value) (rot : List TG) : List Nat := Q :: M :: R :: (rv.ownBlock.toList ++ rot.flatMap TG.fp)
section
variable {W W' : World} {Q M R : Nat} {n m : Int} {rv : Value} {rh : Nat} {it : Bool} {rot : List TG} {ents : List (ByteArray × Nat)}
theorem QG.only {S : List Nat} (h : QG W Q M R n m rv rh it rot ents) (ho : Only S W W') (hS : ∀ k ∈ qBlocksG Q M R rv rot, k ∉ S) : QG W' Q M R n m rv rh it rot ents := by
  refine ⟨h.rQ.only ho (hS _ (by simp [qBlocksG])), h.rR.only ho (hS _ (by simp [qBlocksG])), h.line.only ho (fun k hk => hS _ (by simp [qBlocksG, hk])), fun t ht => (h.tls t ht).only ho (fun k hk => hS k ?_), h.mp.only ho (hS _ (by simp [qBlocksG])), h.pw⟩
  simp only [qBlocksG, List.mem_cons, List.mem_append, List.mem_flatMap]
  exact .inr (.inr (.inr (.inr ⟨t, ht, hk⟩)))
theorem QG.same (h : QG W Q M R n m rv rh it rot ents) (ho : Only [] W W') : QG W' Q M R n m rv rh it rot ents := h.only ho (by simp)
theorem QG.ext (h : QG W Q M R n m rv rh it rot ents) (hb : Below W.heap.size W W') : QG W' Q M R n m rv rh it rot ents := h.same (Only.ofBelow hb)
theorem QG.lt (h : QG W Q M R n m rv rh it rot ents) : ∀ k ∈ qBlocksG Q M R rv rot, k < W.heap.size := by
  intro k hk
  simp only [qBlocksG, List.mem_cons, List.mem_append, List.mem_flatMap, Option.mem_toList] at hk
  rcases hk with rfl | rfl | rfl | hk | ⟨t, ht, hk⟩
  · exact h.rQ.lt
  · exact h.mp.lt
  · exact h.rR.lt
  · exact h.line.lt k hk
  · exact (h.tls t ht).lt k hk
theorem QG.not_mine (h : QG W Q M R n m rv rh it rot ents) {b : Nat} {ty : TypeId} {cs : Array Value} (r : Row W b ty cs) (h1 : ty ≠ 107) (h2 : ty ≠ 131) (h3 : ty ≠ 132) (h4 : ty ≠ 140) (h5 : ty ≠ 117) : b ∉ qBlocksG Q M R rv rot := by
  intro hk
  simp only [qBlocksG, List.mem_cons, List.mem_append, List.mem_flatMap, Option.mem_toList] at hk
  rcases hk with rfl | rfl | rfl | hk | ⟨t, ht, hk⟩
  · exact absurd rfl (r.ne h.rQ h1)
  · exact h.mp.ne r rfl
  · exact absurd rfl (r.ne h.rR h2)
  · exact h.line.ne r h3 hk
  · exact (h.tls t ht).not_mine r h4 h5 hk
/-- A tenant's blocks are none of the queue's own. -/
theorem QG.tenant (h : QG W Q M R n m rv rh it rot ents) {t : TG} (hT : TLineG W R t) : ∀ k ∈ t.fp, k ≠ Q ∧ k ≠ M ∧ k ≠ R ∧ rv.ownBlock ≠ some k := by
  intro k hk
  refine ⟨?_, ?_, ?_, ?_⟩
  · rintro rfl; exact hT.not_mine h.rQ (by decide) (by decide) hk
  · rintro rfl; exact hT.not_map h.mp hk
  · rintro rfl; exact hT.not_mine h.rR (by decide) (by decide) hk
  · intro e
    obtain ⟨cs, r⟩ := h.line.rowOf k e
    exact hT.not_mine r (by decide) (by decide) hk
/-- A cell of the queue's head is written. -/
theorem QG.setN (h : QG W Q M R n m rv rh it rot ents) (v : Int) : QG (W.setCell ⟨Q, 6, none⟩ (.int .i64 v)) Q M R v m rv rh it rot ents := by
  have ho : Only [Q] W (W.setCell ⟨Q, 6, none⟩ (.int .i64 v)) := (Only.refl _ _).setCell (by simp) _
  refine ⟨by simpa using h.rQ.set 6 (.int .i64 v), h.rR.only ho (by simpa using h.rR.ne h.rQ (by decide)), h.line.only ho ?_, fun t ht => (h.tls t ht).only ho ?_, h.mp.only ho (by simpa using h.mp.ne h.rQ), h.pw⟩
  · intro k hk; simp; rintro rfl; exact h.line.ne h.rQ (by decide) hk
  · intro k hk; simpa using (h.tenant (h.tls t ht) k hk).1
/-- A cell of the rotation is written. -/
theorem QG.setRot (h : QG W Q M R n m rv rh it rot ents) (i : Nat) (v : Value) (it' : Bool) (m' : Int) (hv : (rotRow rv rh it m).setIfInBounds i v = rotRow rv rh it' m') : QG (W.setCell ⟨R, i, none⟩ v) Q M R n m' rv rh it' rot ents := by
  have ho : Only [R] W (W.setCell ⟨R, i, none⟩ v) := (Only.refl _ _).setCell (by simp) _
  refine ⟨h.rQ.only ho (by simpa using h.rQ.ne h.rR (by decide)), by rw [← hv]; exact h.rR.set i v, h.line.only ho ?_, fun t ht => (h.tls t ht).only ho ?_, h.mp.only ho (by simpa using h.mp.ne h.rR), h.pw⟩
  · intro k hk; simp; rintro rfl; exact h.line.ne h.rR (by decide) hk
  · intro k hk; simpa using (h.tenant (h.tls t ht) k hk).2.2.1
/-- One tenant's blocks are written: it alone turns. -/
theorem QG.tenantTurn {pre post : List TG} {t : TG} (h : QG W Q M R n m rv rh it (pre ++ t :: post) ents) (ho : Only t.fp W W') (t' : TG) (hb : t'.b = t.b) (hT : TLineG W' R t') (hn : ∀ k ∈ t'.fp, k ∈ t.fp ∨ W.heap.size ≤ k) :
    QG W' Q M R n m rv rh it (pre ++ t' :: post) ents := by
  have hTt := h.tls t (by simp)
  have hten := h.tenant hTt
  have hpw := List.pairwise_append.1 h.pw
  have hpc := List.pairwise_cons.1 hpw.2.1
  have hq : Q ∉ t.fp := fun hk => (hten Q hk).1 rfl
  have hm : M ∉ t.fp := fun hk => (hten M hk).2.1 rfl
  have hr : R ∉ t.fp := fun hk => (hten R hk).2.2.1 rfl
  have mv : ∀ s, TLineG W R s → ApartG s t → ApartG s t' := by
    intro s hs ha k hk hk'
    rcases hn k hk' with g | g
    · exact ha k hk g
    · have := hs.lt k hk; omega
  refine ⟨h.rQ.only ho hq, h.rR.only ho hr, ?_, ?_, h.mp.only ho hm, ?_⟩
  · have e : (pre ++ t' :: post).map TG.ptr = (pre ++ t :: post).map TG.ptr := by simp [TG.ptr, hb]
    rw [e]
    exact h.line.only ho (fun k hk hm => (hten k hm).2.2.2 hk)
  · intro s hs
    rcases List.mem_append.1 hs with g | g
    · exact (h.tls s (by simp [g])).only ho (hpw.2.2 s g t (by simp))
    · rcases List.mem_cons.1 g with rfl | g
      · exact hT
      · exact (h.tls s (by simp [g])).only ho (hpc.1 s g).symm
  · refine List.pairwise_append.2 ⟨hpw.1, List.pairwise_cons.2 ⟨fun s hs => (mv s (h.tls s (by simp [hs])) (hpc.1 s hs).symm).symm, hpc.2⟩, fun s hs s' hs' => ?_⟩
    rcases List.mem_cons.1 hs' with rfl | hs'
    · exact mv s (h.tls s (by simp [hs])) (hpw.2.2 s hs t (by simp))
    · exact hpw.2.2 s hs s' (by simp [hs'])
end
section
variable {W W' : World} {Q M R : Nat} {n m : Int} {rv : Value} {rh : Nat} {it : Bool} {rot : List TG} {ents : List (ByteArray × Nat)}
/-- A tenant's deficit is written. -/
theorem QG.setDef {pre post : List TG} {t : TG} (h : QG W Q M R n m rv rh it (pre ++ t :: post) ents) (v : Int) : QG (W.setCell ⟨t.b, 6, none⟩ (.int .i64 v)) Q M R n m rv rh it (pre ++ { t with d := v } :: post) ents := by
  have hT := h.tls t (by simp)
  have ho : Only [t.b] W (W.setCell ⟨t.b, 6, none⟩ (.int .i64 v)) := (Only.refl _ _).setCell (by simp) _
  refine h.tenantTurn (ho.mono (by simp [TG.fp])) _ rfl ⟨by simpa using hT.row.set 6 (.int .i64 v), hT.ord.only ho ?_⟩ (fun k hk => .inl hk)
  intro k hk
  simp
  rintro rfl
  rcases hk with e | e
  · exact hT.evb e
  · exact hT.ivb e
/-- The rotation's line has turned. -/
theorem QG.turned (h : QG W Q M R n m rv rh it rot ents) (ho : Only (R :: rv.ownBlock.toList) W W') (rv' : Value) (rh' : Nat) (it' : Bool) (rot' : List TG) (hr : Row W' R 131 (rotRow rv' rh' it' m)) (hl : LineP W' rv' rh' (rot'.map TG.ptr)) (hsub : ∀ t ∈ rot', t ∈ rot) (hpw : rot'.Pairwise ApartG) :
    QG W' Q M R n m rv' rh' it' rot' ents := by
  have hne : ∀ {b : Nat} {ty : TypeId} {cs : Array Value}, Row W b ty cs → ty ≠ 131 → ty ≠ 132 → b ∉ R :: rv.ownBlock.toList := by
    intro b ty cs r h1 h2 hk
    simp only [List.mem_cons, Option.mem_toList] at hk
    rcases hk with rfl | hk
    · exact absurd rfl (r.ne h.rR h1)
    · exact h.line.ne r h2 hk
  refine ⟨h.rQ.only ho (hne h.rQ (by decide) (by decide)), hr, hl, fun t ht => (h.tls t (hsub t ht)).only ho ?_, h.mp.only ho ?_, hpw⟩
  · intro k hk
    obtain ⟨_, _, h3, h4⟩ := h.tenant (h.tls t (hsub t ht)) k hk
    simp only [List.mem_cons, Option.mem_toList, not_or]
    exact ⟨h3, h4⟩
  · simp only [List.mem_cons, Option.mem_toList, not_or]
    exact ⟨h.mp.ne h.rR, h.mp.neP h.line⟩
theorem QG.mapped {ents' : List (ByteArray × Nat)} (h : QG W Q M R n m rv rh it rot ents) (ho : Only [M] W W') (hm : MapIs W' M ents') : QG W' Q M R n m rv rh it rot ents' := by
  refine ⟨h.rQ.only ho (by simpa using (h.mp.ne h.rQ).symm), h.rR.only ho (by simpa using (h.mp.ne h.rR).symm), h.line.only ho ?_, fun t ht => (h.tls t ht).only ho ?_, hm, h.pw⟩
  · intro k hk; simp; rintro rfl; exact h.mp.neP h.line hk
  · intro k hk; simpa using (h.tenant (h.tls t ht) k hk).2.1
end

set_option maxRecDepth 100000 in
set_option maxHeartbeats 800000 in
/-- (*rotation).endTurn on the whole queue. -/
theorem endTurn_g (Q M R rh : Nat) (n m : Int) (rv : Value) (it : Bool) (t : TG) (ts : List TG) (ents : List (ByteArray × Nat)) (w : World) (h : QG w Q M R n m rv rh it (t :: ts) ents) (hts : ts.length ≤ 1000) :
    Calls Yba.prog 43 #[.pointer (some ⟨R, 0, none⟩)] w fun e w' => e = .returned (.tuple #[]) ∧ Only (R :: rv.ownBlock.toList) w w' ∧
      ∃ rv' rh', QG w' Q M R n m rv' rh' false (ts ++ [t]) ents ∧ (∀ k, rv'.ownBlock = some k → rv.ownBlock = some k ∨ w.heap.size ≤ k) := by
  have hne : rv.ownBlock ≠ some R := h.line.ne h.rR (by decide)
  have hpw := List.pairwise_cons.1 h.pw
  let f : TG → TS := fun t => ⟨t.b, t.iv, t.hd, t.A, t.n, t.q, t.d, t.nm⟩
  have hm : ∀ l : List TG, (l.map f).map TS.ptr = l.map TG.ptr := fun l => by simp [f, TS.ptr, TG.ptr]
  refine (endTurn_any R rh rv (f t) (ts.map f) _ _ _ w h.rR ?_ hne (by simpa using hts)).mono ?_
  · rw [hm]; exact h.line
  rintro e w' ⟨rfl, ho, rv', rh', g1, g2, g3, g4⟩
  refine ⟨rfl, ho, rv', rh', h.turned ho rv' rh' false (ts ++ [t]) g1 ?_ (by intro s hs; simp at hs ⊢; rcases hs with e | e <;> simp [e]) (List.pairwise_append.2 ⟨hpw.2, List.pairwise_singleton _ _, fun s hs s' hs' => by rw [List.mem_singleton.1 hs']; exact (hpw.1 s hs).symm⟩), g4⟩
  have e : (ts.map f ++ [f t]) = (ts ++ [t]).map f := by simp
  rw [e, hm] at g2
  exact g2
end Go.Proofs.Ybulkhba
