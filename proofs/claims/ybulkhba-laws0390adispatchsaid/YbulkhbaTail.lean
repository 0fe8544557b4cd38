import Derived.Test.YbulkhbaBase
import Derived.StillTail
namespace Go.Proofs.Ybulkhba
open Go.RowKit

/-! ### A REGION THAT DRAWS ITS ORDER: THE FIRST n OPERATIONS ARE QUIET IN A CLASS OF WORLDS; THE REST WAITS FOR ALL OF THEM AND STANDS IN ONE ORDER. The head alone is a region whose orders are one by the library's 'wpAnyQ_lex'; here: what holds of the head alone holds of the whole region's orders till the head is through. -/
section
variable {P : Program} {C : World → Prop}

theorem wpAny_more {md : Region.Mode} {ops : Array Oper} {Q : Exit → Act → World → Prop} : ∀ (f : Nat) (listed : Array Bool) (a : Act) (w : World), wpAny P md ops Q f listed a w → wpAny P md ops Q (f + 1) listed a w
  | 0, listed, a, w, h => ⟨fun _ => h.2, fun i hi => by rw [h.1] at hi; cases hi⟩
  | f + 1, listed, a, w, h => ⟨h.1, fun i hi => wpOp_mono (fun a' w' h' => wpAny_more f _ a' w' h') (h.2 i hi)⟩
theorem wpAny_by {md : Region.Mode} {ops : Array Oper} {Q : Exit → Act → World → Prop} {g : Nat} {listed : Array Bool} {a : Act} {w : World} (h : wpAny P md ops Q g listed a w) : ∀ f, wpAny P md ops Q (f + g) listed a w
  | 0 => by rw [Nat.zero_add]; exact h
  | f + 1 => by rw [show f + 1 + g = (f + g) + 1 by omega]; exact wpAny_more _ _ _ _ (wpAny_by h f)

/-- The head's operations look at the head alone: each edge leads back, each guard lies in the head. -/
def headOk (ops : Array Oper) (n : Nat) : Bool :=
  (List.range n).all fun i => match ops[i]? with
    | some o => (o.after.all fun e => !Region.binds .any e || decide (e.on < i)) && (match o.guard with | some (g, _) => decide (g < n) | none => true)
    | none => true

def tailOk (l : List Oper) (n : Nat) : Bool :=
  Region.noSelect (l.take n).toArray && decide (n < l.length) && Region.sinkB .any l.toArray n && Region.chainB .any l.toArray n && headOk l.toArray n &&
  Region.lexFrom .any (l.take n).toArray n 0 (Array.replicate l.length false) && Region.seqB .any l.toArray (l.length - n) n (Array.replicate n true ++ Array.replicate (l.length - n) false)

variable {l : List Oper} {n : Nat}

theorem head_get {i : Nat} (hi : i < n) : (l.take n).toArray[i]? = l.toArray[i]? := by simp [hi]

theorem head_ready {i : Nat} (hi : i < n) (listed : Array Bool) : i ∈ Region.ready .any l.toArray listed ↔ i ∈ Region.ready .any (l.take n).toArray listed := by
  rw [mem_ready, mem_ready, head_get hi]

theorem ready_lt {i : Nat} {listed : Array Bool} (h : i ∈ Region.ready .any (l.take n).toArray listed) : i < n := by
  obtain ⟨_, o, ho, _⟩ := mem_ready.1 h
  have := (Array.getElem?_eq_some_iff.1 ho).1
  simp at this
  omega

theorem head_wanted (hk : headOk l.toArray n = true) {i : Nat} (hi : i < n) {o : Oper} (ho : l.toArray[i]? = some o) (a : Act) :
    Region.wanted o (yielded l.toArray a.tmps) = Region.wanted o (yielded (l.take n).toArray a.tmps) := by
  have h1 := List.all_eq_true.1 hk i (List.mem_range.2 hi)
  simp only [ho, Bool.and_eq_true] at h1
  unfold Region.wanted
  cases hg : o.guard with
  | none => rfl
  | some gw =>
    obtain ⟨g, want⟩ := gw
    have h2 := h1.2
    simp only [hg, decide_eq_true_eq] at h2
    simp only [yielded, head_get h2]

theorem head_op (hk : headOk l.toArray n = true) {i : Nat} (hi : i < n) {K : Act → World → Prop} {Q : Exit → Act → World → Prop} {a : Act} {w : World}
    (h : wpOp P (l.take n).toArray Q i K a w) : wpOp P l.toArray Q i K a w := by
  unfold wpOp at *
  rw [head_get hi] at h
  cases ho : l.toArray[i]? with
  | none => simpa only [ho] using h
  | some o => simp only [ho] at h ⊢; rw [head_wanted hk hi ho]; exact h

/-- While one of the head is not listed, one of the head may come up. -/
theorem head_some (hk : headOk l.toArray n = true) (hn : n < l.length) {listed : Array Bool} (hsz : listed.size = l.length) :
    ∀ (d i : Nat), i = d → i < n → listed.getD i false = false → Region.ready .any (l.take n).toArray listed ≠ [] := by
  intro d
  induction d using Nat.strongRecOn with
  | _ d ih =>
    intro i hd hi hun h0
    have hlt : i < l.toArray.size := by simp; omega
    have ho : l.toArray[i]? = some l.toArray[i] := Array.getElem?_eq_getElem hlt
    have h1 := List.all_eq_true.1 hk i (List.mem_range.2 hi)
    simp only [ho, Bool.and_eq_true] at h1
    by_cases hall : ∀ e ∈ l.toArray[i].after, Region.binds .any e = true → listed.getD e.on false = true
    · have : i ∈ Region.ready .any (l.take n).toArray listed := by
        rw [← head_ready hi, mem_ready]
        exact ⟨getD_in (by omega) hun, _, ho, hall⟩
      rw [h0] at this
      cases this
    · have hex : ∃ e, e ∈ l.toArray[i].after ∧ Region.binds .any e = true ∧ listed.getD e.on false = false := by
        apply Classical.byContradiction
        intro hno
        apply hall
        intro e he hb
        cases hl : listed.getD e.on false with
        | true => rfl
        | false => exact absurd ⟨e, he, hb, hl⟩ hno
      obtain ⟨e, he, hb, hl⟩ := hex
      have h2 := Array.all_eq_true_iff_forall_mem.1 h1.1 e he
      simp only [hb, Bool.not_true, Bool.false_or, decide_eq_true_eq] at h2
      exact ih e.on (by omega) e.on rfl (by omega) hl h0

theorem listed_is (hn : n < l.length) {listed : Array Bool} (inv : HeadInv .any l.toArray n listed) (hall : ∀ i, i < n → listed.getD i false = true) : listed = Array.replicate n true ++ Array.replicate (l.length - n) false := by
  have hsz : listed.size = l.length := by simpa using inv.size
  refine Array.ext (by simp; omega) fun i h1 h2 => ?_
  by_cases hi : i < n
  · have := hall i hi
    simp [h1] at this
    simp [hi, this]
  · have := inv.tail i (by omega) (by simpa using hsz ▸ h1)
    simp [h1] at this
    simp [Array.getElem_append, hi, this]

theorem head_through (hk : headOk l.toArray n = true) (hs : Region.sinkB .any l.toArray n = true) (hc : Region.chainB .any l.toArray n = true) (hn : n < l.length) {Qh : Act → Prop} {Q : Exit → Act → World → Prop} {g : Nat}
    (hdone : ∀ (listed : Array Bool) (a : Act) (w : World), listed = Array.replicate n true ++ Array.replicate (l.length - n) false → C w → Qh a → wpAny P .any l.toArray Q g listed a w) :
    ∀ (f : Nat) (listed : Array Bool) (a : Act) (w : World), HeadInv .any l.toArray n listed → C w → wpAnyQ P .any (l.take n).toArray C Qh f listed a → wpAny P .any l.toArray Q (f + g) listed a w := by
  intro f
  induction f with
  | zero =>
    intro listed a w inv hw h
    have hsz : listed.size = l.length := by simpa using inv.size
    refine wpAny_by (hdone listed a w (listed_is hn inv fun i hi => ?_) hw h.2) 0
    cases hl : listed.getD i false with
    | true => rfl
    | false => exact absurd h.1 (head_some hk hn hsz i i rfl hi hl)
  | succ f ih =>
    intro listed a w inv hw h
    have hsz : listed.size = l.length := by simpa using inv.size
    by_cases hall : ∀ i, i < n → listed.getD i false = true
    · have h0 : Region.ready .any (l.take n).toArray listed = [] := by
        cases hr : Region.ready .any (l.take n).toArray listed with
        | nil => rfl
        | cons x xs =>
          have hx : x ∈ Region.ready .any (l.take n).toArray listed := by rw [hr]; exact List.mem_cons_self
          have h1 := (mem_ready.1 hx).1
          have h2 := hall x (ready_lt hx)
          rw [getD_both h1] at h2
          cases h2
      exact wpAny_by (hdone listed a w (listed_is hn inv hall) hw (h.1 h0)) (f + 1)
    · have hex : ∃ i, i < n ∧ listed.getD i false = false := by
        apply Classical.byContradiction
        intro hno
        apply hall
        intro i hi
        cases hl : listed.getD i false with
        | true => rfl
        | false => exact absurd ⟨i, hi, hl⟩ hno
      obtain ⟨i, hi, hl⟩ := hex
      have hne := head_some hk hn hsz i i rfl hi hl
      rw [show f + 1 + g = (f + g) + 1 by omega]
      refine ⟨fun h0 => ?_, fun j hj => ?_⟩
      · refine absurd ?_ hne
        cases hr : Region.ready .any (l.take n).toArray listed with
        | nil => rfl
        | cons x xs =>
          have hx : x ∈ Region.ready .any (l.take n).toArray listed := by rw [hr]; exact List.mem_cons_self
          rw [← head_ready (ready_lt hx), h0] at hx
          cases hx
      · have hjn : j < n := by
          rcases Nat.lt_or_ge j n with h' | h'
          · exact h'
          · exact absurd hj (tail_waits hs hc (by simpa using hn) inv _ i rfl hi (getD_in (by omega) hl) j h')
        exact head_op hk hjn (wpOp_of_qOp hw (fun a' w' hw' h' => ih _ a' w' (inv.set hj hjn) hw' h') (h.2 j ((head_ready hjn listed).1 hj)))

theorem wp_region_head_tail {id : Nat} {Q : Exit → Act → World → Prop} {a : Act} {w : World} (n : Nat) (hm : P.follows .mixedOrders = true) (hB : tailOk l n = true) (hC : C { w with drawn := w.drawn + 1 })
    (h : wpQuiet P (l.take n).toArray C (fun a' => ∀ w', C w' → wpList P l.toArray Q (l.drop n) a' w') (l.take n) a) : (Code.region id l.toArray true).wp P Q a w := by
  simp only [tailOk, Bool.and_eq_true, decide_eq_true_eq] at hB
  obtain ⟨⟨⟨⟨⟨⟨hsel, hn⟩, hs⟩, hc⟩, hk⟩, hlex⟩, hseq⟩ := hB
  have htl : (l.take n).length = n := by simp; omega
  have hdl : (l.drop n).length = l.length - n := by simp
  have inv0 : HeadInv .any l.toArray n (Array.replicate l.length false) :=
    ⟨by simp, fun j oj _ hl => (by rw [getD_replicate_false] at hl; cases hl), fun t _ ht => getD_in (by simpa using ht) (getD_replicate_false _ _)⟩
  have H := wpAnyQ_lex (P := P) (C := C) (md := .any) hsel (l.take n) 0 (Array.replicate l.length false) a (by simp) (by rw [htl]; exact hlex) h
  refine wp_region_any hm ?_
  have := head_through (P := P) (C := C) (Q := Q) (g := l.length - n) hk hs hc hn (fun listed a' w' hl hw' hq => by
    have := wpAny_of_seq (P := P) (md := .any) (Q' := Q) (l.drop n) n listed a' w' (fun j => by simp [List.getElem?_drop]) (by rw [hdl, hl]; exact hseq) (hq w' hw')
    rwa [hdl] at this) _ _ _ _ inv0 hC H
  rw [htl, show n + (l.length - n) = l.toArray.size by simp; omega] at this
  simpa using this
end

/-- The head quiet in the class of the worlds above w, then a tail in its order. -/
theorem wp_region_ext_tail {P : Program} {id : Nat} {Q : Exit → Act → World → Prop} {a : Act} {w : World} {l : List Oper} (n : Nat) (hm : P.follows .mixedOrders = true) (hB : tailOk l n = true)
    (h : wpQuiet P (l.take n).toArray (InExt w) (fun a' => ∀ w', InExt w w' → wpList P l.toArray Q (l.drop n) a' w') (l.take n) a) : (Code.region id l.toArray true).wp P Q a w :=
  wp_region_head_tail (C := InExt w) n hm hB (inExt_drawn w) h
/-- The same in the class of the worlds that are w behind some draws. -/
theorem wp_region_drawn_tail {P : Program} {id : Nat} {Q : Exit → Act → World → Prop} {a : Act} {w : World} {l : List Oper} (n : Nat) (hm : P.follows .mixedOrders = true) (hB : tailOk l n = true)
    (h : wpQuiet P (l.take n).toArray (fun w' => ∃ k, w' = w.drewN k) (fun a' => ∀ w', (∃ k, w' = w.drewN k) → wpList P l.toArray Q (l.drop n) a' w') (l.take n) a) : (Code.region id l.toArray true).wp P Q a w :=
  wp_region_head_tail (C := fun w' => ∃ k, w' = w.drewN k) n hm hB ⟨1, rfl⟩ h

/-! ### ROWS BEHIND STORES, AND 'ONLY': ALL BUT THE BLOCKS OF A LIST IS AS IT WAS -/
theorem Row.set {w : World} {b : Nat} {t : TypeId} {cs : Array Value} (h : Row w b t cs) (i : Nat) (v : Value) : Row (w.setCell ⟨b, i, none⟩ v) b t (cs.setIfInBounds i v) := by
  have h' : w.heap[b]? = some (.cells cs t (0, 0)) := h
  show (w.heap.modify b _)[b]? = _
  rw [Array.getElem?_modify, if_pos rfl, h']
  rfl
theorem Row.setOther {w : World} {b : Nat} {t : TypeId} {cs : Array Value} (h : Row w b t cs) {b' : Nat} (hne : b ≠ b') (i : Nat) (v : Value) : Row (w.setCell ⟨b', i, none⟩ v) b t cs :=
  (Below.heap_setCell w ⟨b', i, none⟩ v b hne).trans h
theorem Row.drewN {w : World} {b : Nat} {t : TypeId} {cs : Array Value} (h : Row w b t cs) (k : Nat) : Row (w.drewN k) b t cs := h
theorem Row.drew {w : World} {b : Nat} {t : TypeId} {cs : Array Value} (h : Row w b t cs) : Row w.drew b t cs := h
theorem Row.ne {w : World} {b b' : Nat} {t t' : TypeId} {cs cs' : Array Value} (h : Row w b t cs) (h' : Row w b' t' cs') (ht : t ≠ t') : b ≠ b' := by
  rintro rfl
  have e := (show w.heap[b]? = _ from h).symm.trans h'
  simp at e
  exact ht e.2
theorem Row.inj {w : World} {b : Nat} {t t' : TypeId} {cs cs' : Array Value} (h : Row w b t cs) (h' : Row w b t' cs') : cs = cs' := by
  have e := (show w.heap[b]? = _ from h).symm.trans h'
  simp at e
  exact e.1

structure Only (S : List Nat) (w w' : World) : Prop where
  os : w'.os = w.os
  tape : w'.tape = w.tape
  output : w'.output = w.output
  size : w.heap.size ≤ w'.heap.size
  block : ∀ k, k < w.heap.size → k ∉ S → w'.heap[k]? = w.heap[k]?
theorem Only.refl (S : List Nat) (w : World) : Only S w w := ⟨rfl, rfl, rfl, Nat.le_refl _, fun _ _ _ => rfl⟩
theorem Only.trans {S : List Nat} {a b c : World} (h : Only S a b) (k : Only S b c) : Only S a c :=
  ⟨k.os.trans h.os, k.tape.trans h.tape, k.output.trans h.output, Nat.le_trans h.size k.size, fun j hj hn => (k.block j (Nat.lt_of_lt_of_le hj h.size) hn).trans (h.block j hj hn)⟩
/-- The later step may write new blocks too. -/
theorem Only.then {S T : List Nat} {a b c : World} (h : Only S a b) (k : Only T b c) (hT : ∀ j ∈ T, j ∈ S ∨ a.heap.size ≤ j) : Only S a c :=
  ⟨k.os.trans h.os, k.tape.trans h.tape, k.output.trans h.output, Nat.le_trans h.size k.size, fun j hj hn => (k.block j (Nat.lt_of_lt_of_le hj h.size) (fun hm => by rcases hT j hm with h' | h'; exact hn h'; omega)).trans (h.block j hj hn)⟩
theorem Only.mono {S T : List Nat} {a b : World} (h : Only S a b) (hT : ∀ j ∈ S, j ∈ T) : Only T a b :=
  ⟨h.os, h.tape, h.output, h.size, fun j hj hn => h.block j hj (fun hm => hn (hT j hm))⟩
theorem Only.drewN {S : List Nat} {a b : World} (h : Only S a b) (k : Nat) : Only S a (b.drewN k) := ⟨h.os, h.tape, h.output, h.size, h.block⟩
theorem Only.drew {S : List Nat} {a b : World} (h : Only S a b) : Only S a b.drew := ⟨h.os, h.tape, h.output, h.size, h.block⟩
theorem Only.alloc {S : List Nat} {a b : World} (h : Only S a b) (o : Obj) : Only S a (b.alloc o) :=
  ⟨h.os, h.tape, h.output, Nat.le_trans h.size (by simp), fun j hj hn => (Below.heap_alloc b o j (Nat.lt_of_lt_of_le hj h.size)).trans (h.block j hj hn)⟩
theorem Only.setCell {S : List Nat} {a b : World} (h : Only S a b) {p : Addr} (hp : p.block ∈ S ∨ a.heap.size ≤ p.block) (v : Value) : Only S a (b.setCell p v) :=
  ⟨h.os, h.tape, h.output, by simpa using h.size, fun j hj hn => (Below.heap_setCell b p v j (fun e => by subst e; rcases hp with h' | h'; exact hn h'; omega)).trans (h.block j hj hn)⟩
theorem Only.below {S : List Nat} {a b : World} (h : Only S a b) {B : Nat} (hB : B ≤ a.heap.size) (hS : ∀ j ∈ S, B ≤ j) : Below B a b :=
  ⟨h.os, h.tape, h.output, h.size, fun j hj => h.block j (by omega) (fun hm => by have := hS j hm; omega)⟩
theorem Only.ofBelow {S : List Nat} {a b : World} (h : Below a.heap.size a b) : Only S a b := ⟨h.os, h.tape, h.output, h.size, fun j hj _ => h.block j hj⟩
theorem Only.ofGrown {S : List Nat} {a b : World} {row : Option Nat} (h : a.grownBy b row) (hS : ∀ j, row = some j → j ∈ S ∨ a.heap.size ≤ j) : Only S a b :=
  ⟨h.os, h.tape, h.output, h.size, fun j hj hn => h.block j hj (fun e => by rcases hS j e.symm with h' | h'; exact hn h'; omega)⟩
theorem Row.only {S : List Nat} {a b : World} {k : Nat} {t : TypeId} {cs : Array Value} (h : Row a k t cs) (ho : Only S a b) (hk : k ∉ S) : Row b k t cs := (ho.block k h.lt hk).trans h
end Go.Proofs.Ybulkhba
