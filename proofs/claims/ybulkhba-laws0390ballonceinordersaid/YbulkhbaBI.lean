import Derived.Test.YbulkhbaRotPushG
import Derived.Test.YbulkhbaPopGSt
import Derived.MapKept
namespace Go.Proofs.Ybulkhba
open Go.RowKit
set_option linter.unusedVariables false
set_option linter.unusedSimpArgs false

def TG.els (t : TG) : List Arr := t.H ++ t.A
def elsOf (rot : List TG) : List Arr := rot.flatMap TG.els
/-- What a tenant holds: a heap and a run, all of its name, numbered as their IDs go. -/
structure TI (t : TG) : Prop where
  inv : OInv t.H t.A t.n
  ne : t.els ≠ []
  nm : ∀ a ∈ t.els, a.r.tn = t.nm
  sq : ∀ a ∈ t.els, ∀ b ∈ t.els, a.sq < b.sq → a.r.id < b.r.id
  q0 : 1 ≤ t.q
  q1 : t.q ≤ 8
/-- THE BUILDING's WORD, j requests in. -/
structure BI (rs : List Req) (j : Nat) (rot : List TG) : Prop where
  perm : ((elsOf rot).map Arr.r).Perm (rs.take j)
  ti : ∀ t ∈ rot, TI t
  z : ∀ t ∈ rot, t.hd = 0 ∧ t.d = 0 ∧ t.n ≤ j
  names : rot.Pairwise (fun s t => s.nm ≠ t.nm)
theorem elsOf_cons (t : TG) (ts : List TG) : elsOf (t :: ts) = t.els ++ elsOf ts := by simp [elsOf]
theorem elsOf_append (a b : List TG) : elsOf (a ++ b) = elsOf a ++ elsOf b := by simp [elsOf]
theorem BI.nil (rs : List Req) : BI rs 0 [] := ⟨by simp [elsOf], by simp, by simp, List.Pairwise.nil⟩
theorem els_len {rot : List TG} {t : TG} (h : t ∈ rot) : t.els.length ≤ (elsOf rot).length := by
  induction rot with
  | nil => simp at h
  | cons s rot ih =>
    rw [elsOf_cons, List.length_append]
    rcases List.mem_cons.1 h with rfl | h
    · omega
    · have := ih h; omega
theorem BI.len {rs : List Req} {j : Nat} {rot : List TG} (h : BI rs j rot) {t : TG} (ht : t ∈ rot) : t.H.length ≤ j ∧ t.A.length ≤ j := by
  have h1 := els_len ht
  have h2 := h.perm.length_eq
  rw [List.length_map, List.length_take] at h2
  unfold TG.els at h1
  rw [List.length_append] at h1
  omega
theorem BI.mem {rs : List Req} {j : Nat} {rot : List TG} (h : BI rs j rot) {t : TG} (ht : t ∈ rot) {a : Arr} (ha : a ∈ t.els) : a.r ∈ rs.take j := by
  refine h.perm.mem_iff.1 (List.mem_map_of_mem ?_)
  exact List.mem_flatMap.2 ⟨t, ht, ha⟩
theorem oPush_nil (r : Req) (n : Nat) : oPush [] [] r n = ([], [⟨r, n⟩]) := rfl
section
variable {rs : List Req} {j : Nat}
theorem id_lt (hid : ∀ i (h : i < rs.length), rs[i].id = i) {r : Req} (h : r ∈ rs.take j) : r.id < j := by
  obtain ⟨i, hi, rfl⟩ := List.getElem_of_mem h
  rw [List.length_take] at hi
  rw [List.getElem_take, hid i (by omega)]
  omega
/-- Onto a line that stands. -/
theorem BI.old {pre post : List TG} {t : TG} (h : BI rs j (pre ++ t :: post)) (hid : ∀ i (h : i < rs.length), rs[i].id = i) (hj : j < rs.length) (r : Req) (hr : r = rs[j]) (hn : r.tn = t.nm) (ev iv : Value) :
    BI rs (j + 1) (pre ++ t.push r ev iv :: post) := by
  have ht : t ∈ pre ++ t :: post := by simp
  have ti := h.ti t ht
  obtain ⟨o1, o2⟩ := ti.inv.push r
  have hels : (t.push r ev iv).els.Perm (⟨r, t.n⟩ :: t.els) := o2
  have hmem : ∀ a, a ∈ (t.push r ev iv).els ↔ a = ⟨r, t.n⟩ ∨ a ∈ t.els := fun a => hels.mem_iff.trans List.mem_cons
  have hrid : r.id = j := by rw [hr]; exact hid j hj
  refine ⟨?_, ?_, ?_, ?_⟩
  · rw [List.take_succ_eq_append_getElem hj, ← hr]
    refine List.Perm.trans ?_ (h.perm.append_right [r])
    rw [elsOf_append, elsOf_cons, elsOf_append, elsOf_cons]
    simp only [List.map_append]
    have h1 := (hels.map Arr.r)
    rw [List.map_cons] at h1
    refine List.Perm.trans ((h1.append_right _).append_left _) ?_
    rw [List.append_assoc]
    refine List.Perm.trans List.perm_middle (List.perm_append_singleton _ _).symm |>.trans ?_
    simp
  · intro s hs
    rcases List.mem_append.1 hs with g | g
    · exact h.ti s (by simp [g])
    · rcases List.mem_cons.1 g with rfl | g
      · refine ⟨o1, ?_, ?_, ?_, ti.q0, ti.q1⟩
        · intro e
          have := (hmem ⟨r, t.n⟩).2 (.inl rfl)
          rw [e] at this
          simp at this
        · intro a ha
          rcases (hmem a).1 ha with rfl | g
          · exact hn
          · exact ti.nm a g
        · intro a ha b hb hlt
          rcases (hmem a).1 ha with rfl | g <;> rcases (hmem b).1 hb with rfl | g'
          · omega
          · have := ti.inv.low b g'
            exact absurd hlt (by show ¬ ((t.n : Int) < b.sq); omega)
          · have := id_lt hid (h.mem ht g)
            show a.r.id < r.id
            omega
          · exact ti.sq a g b g' hlt
      · exact h.ti s (by simp [g])
  · intro s hs
    have up : ∀ s ∈ pre ++ t :: post, s.hd = 0 ∧ s.d = 0 ∧ s.n ≤ j + 1 := fun s hs => by
      obtain ⟨a, b, c⟩ := h.z s hs
      exact ⟨a, b, by omega⟩
    rcases List.mem_append.1 hs with g | g
    · exact up s (by simp [g])
    · rcases List.mem_cons.1 g with rfl | g
      · obtain ⟨a, b, c⟩ := h.z t ht
        exact ⟨a, b, by show t.n + 1 ≤ j + 1; omega⟩
      · exact up s (by simp [g])
  · obtain ⟨p1, p2, p3⟩ := List.pairwise_append.1 h.names
    obtain ⟨p4, p5⟩ := List.pairwise_cons.1 p2
    refine List.pairwise_append.2 ⟨p1, List.pairwise_cons.2 ⟨fun s hs => p4 s hs, p5⟩, fun s hs s' hs' => ?_⟩
    rcases List.mem_cons.1 hs' with rfl | g
    · exact p3 s hs t (by simp)
    · exact p3 s hs s' (by simp [g])
/-- Onto a new line. -/
theorem BI.new {rot : List TG} (h : BI rs j rot) (hj : j < rs.length) (r : Req) (hr : r = rs[j]) (hn : ∀ t ∈ rot, r.tn ≠ t.nm) (t : TG) (hH : t.H = []) (hA : t.A = []) (hz : t.hd = 0 ∧ t.d = 0 ∧ t.n = 0) (hq0 : 1 ≤ t.q) (hq1 : t.q ≤ 8) (hnm : t.nm = r.tn) (ev iv : Value) :
    BI rs (j + 1) (rot ++ [t.push r ev iv]) := by
  have hels : (t.push r ev iv).els = [⟨r, 0⟩] := by
    simp [TG.els, TG.push, hH, hA, oPush_nil, hz.2.2]
  refine ⟨?_, ?_, ?_, ?_⟩
  · rw [List.take_succ_eq_append_getElem hj, ← hr, elsOf_append, List.map_append]
    refine List.Perm.append h.perm ?_
    rw [show elsOf [t.push r ev iv] = (t.push r ev iv).els by simp [elsOf], hels]
    exact List.Perm.refl _
  · intro s hs
    rcases List.mem_append.1 hs with g | g
    · exact h.ti s g
    · rw [List.mem_singleton.1 g]
      have o := (OInv.nil.push r).1
      refine ⟨?_, by rw [hels]; simp, ?_, ?_, hq0, hq1⟩
      · have e : (t.push r ev iv).H = (oPush [] [] r 0).1 ∧ (t.push r ev iv).A = (oPush [] [] r 0).2 ∧ (t.push r ev iv).n = 0 + 1 := by
          simp [TG.push, hH, hA, hz.2.2]
        rw [e.1, e.2.1, e.2.2]
        exact o
      · intro a ha
        rw [hels, List.mem_singleton] at ha
        subst ha
        exact hnm.symm
      · intro a ha b hb hlt
        rw [hels, List.mem_singleton] at ha hb
        subst ha hb
        exact absurd hlt (Int.lt_irrefl _)
  · intro s hs
    rcases List.mem_append.1 hs with g | g
    · obtain ⟨a, b, c⟩ := h.z s g
      exact ⟨a, b, by omega⟩
    · rw [List.mem_singleton.1 g]
      exact ⟨hz.1, hz.2.1, by show t.n + 1 ≤ j + 1; omega⟩
  · refine List.pairwise_append.2 ⟨h.names, List.pairwise_singleton _ _, fun s hs s' hs' => ?_⟩
    rw [List.mem_singleton.1 hs']
    show s.nm ≠ t.nm
    rw [hnm]
    exact fun e => hn s hs e.symm
end
theorem names_few {α : Type} [BEq α] [LawfulBEq α] {ns : List α} (m : List α) (hn : ns.Nodup) (hs : ∀ x ∈ ns, x ∈ m) : ns.length ≤ m.length := by
  induction ns generalizing m with
  | nil => simp
  | cons x ns ih =>
    obtain ⟨h1, h2⟩ := List.nodup_cons.1 hn
    have hx := hs x (by simp)
    have h3 := ih (m.erase x) h2 (fun y hy => (List.mem_erase_of_ne (fun e => h1 (by rw [← e]; exact hy))).2 (hs y (by simp [hy])))
    rw [List.length_erase_of_mem hx] at h3
    have := List.length_pos_of_mem hx
    simp
    omega
theorem BI.few {rs : List Req} {j : Nat} {rot : List TG} (h : BI rs j rot) (m : List ByteArray) (hm : ∀ r ∈ rs, r.tn ∈ m) : rot.length ≤ m.length := by
  have h1 : (rot.map TG.nm).Nodup := by
    rw [List.nodup_iff_pairwise_ne, List.pairwise_map]
    exact h.names
  have : LawfulBEq ByteArray := { rfl := fun {_} => (Go.MapKept.bytes_beq _ _).2 rfl, eq_of_beq := fun h => (Go.MapKept.bytes_beq _ _).1 h }
  have h2 := names_few m h1 (fun x hx => by
    obtain ⟨t, ht, rfl⟩ := List.mem_map.1 hx
    obtain ⟨a, ha⟩ := List.exists_mem_of_ne_nil _ (h.ti t ht).ne
    have e : a.r.tn = t.nm := (h.ti t ht).nm a ha
    rw [← e]
    exact hm _ (List.mem_of_mem_take (h.mem ht ha)))
  simpa using h2
theorem BI.tok {rs : List Req} {j : Nat} {rot : List TG} (h : BI rs j rot) (hj : j ≤ 5000) (hk : ∀ r ∈ rs, 0 ≤ r.tk ∧ r.tk ≤ 255) : ∀ t ∈ rot, TOk 255 t := by
  intro t ht
  have ti := h.ti t ht
  obtain ⟨l1, l2⟩ := h.len ht
  have z := h.z t ht
  exact ⟨ti.ne, by omega, by omega, fun a ha => hk _ (List.mem_of_mem_take (h.mem ht ha)), ti.q0, ti.q1, by omega, by omega⟩
/-! ### THE LOOK-UP AND THE LINES -/
theorem look_noneG {s : ByteArray} : ∀ {rot : List TG} {i : Nat}, look s (rot.map fun t => (t.nm, t.b)) i = none → ∀ t ∈ rot, s ≠ t.nm
  | [], _, _ => by simp
  | u :: rot, i, h => by
    simp only [List.map_cons, look] at h
    split at h
    · cases h
    · rename_i hu
      intro t ht
      rcases List.mem_cons.1 ht with rfl | ht
      · exact fun e => hu ((Go.MapKept.bytes_beq _ _).2 e)
      · exact look_noneG h t ht
theorem look_someG {s : ByteArray} : ∀ {rot : List TG} {i : Nat} {p : Nat × Value}, look s (rot.map fun t => (t.nm, t.b)) i = some p →
    ∃ pre t post, rot = pre ++ t :: post ∧ s = t.nm ∧ p.2 = t.ptr
  | [], _, _, h => by simp [look] at h
  | u :: rot, i, p, h => by
    simp only [List.map_cons, look] at h
    split at h
    · rename_i hu
      cases h
      exact ⟨[], u, rot, rfl, (Go.MapKept.bytes_beq _ _).1 hu, rfl⟩
    · rename_i hu
      obtain ⟨pre, t, post, rfl, h2, h3⟩ := look_someG h
      exact ⟨u :: pre, t, post, rfl, h2, h3⟩
end Go.Proofs.Ybulkhba
