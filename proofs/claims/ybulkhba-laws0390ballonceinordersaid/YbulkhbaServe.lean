import Derived.Test.YbulkhbaBuild
namespace Go.Proofs.Ybulkhba
open Go.RowKit
set_option linter.unusedVariables false
set_option linter.unusedSimpArgs false

/-! ### WHO IS SERVED, IN WHICH ORDER: plain data -/
structure PB where
  A : List Arr
  q : Int
  d : Int
def TS.pb (t : TS) : PB := ⟨t.A, t.q, t.d⟩
/-- The queue in state (it, L) serves the requests of these IDs, one behind the other, and each front fits. -/
def Serves : List Int → Bool → List PB → Prop
  | [], _, _ => True
  | x :: out, it, L => ∃ p L' a A d', L = p :: L' ∧ p.A = a :: A ∧ a.r.id = x ∧ 0 ≤ p.q ∧ p.q ≤ 1000000 ∧ 0 ≤ p.d ∧ p.d ≤ 1000000 ∧ 0 ≤ a.r.tk ∧ a.r.tk ≤ 1000000 ∧ L'.length ≤ 1000 ∧
      ((it = true ∧ d' = p.d) ∨ (it = false ∧ d' = p.d + p.q)) ∧ a.r.tk ≤ d' ∧
      (A = [] → Serves out false L') ∧ (∀ y A', A = y :: A' → y.r.tk ≤ d' - a.r.tk → Serves out true (⟨A, p.q, d' - a.r.tk⟩ :: L')) ∧
      (∀ y A', A = y :: A' → d' - a.r.tk < y.r.tk → Serves out false (L' ++ [⟨A, p.q, d' - a.r.tk⟩]))

theorem pop_serves (Q M R rh wt : Nat) (rv : Value) (rot : List TS) (it : Bool) (ents : List (ByteArray × Nat)) (w : World) (x : Int) (out : List Int)
    (hq : QSt w Q M R wt wt rv rh it rot ents) (hs : Serves (x :: out) it (rot.map TS.pb)) (hwt : 0 < wt) (hwt2 : wt ≤ 1000000) :
    Calls Yba.prog 18 #[.pointer (some ⟨Q, 0, none⟩)] w fun e w' => ∃ r : Req, e = .returned (.tuple #[.agg r.vs, .bool true]) ∧ r.id = x ∧
      ∃ rv' rh' rot' it' ents', QSt w' Q M R ((wt : Int) - 1) ((wt : Int) - 1) rv' rh' it' rot' ents' ∧ Only (qBlocks Q M R rv rot) w w' ∧ (∀ k ∈ qBlocks Q M R rv' rot', k ∈ qBlocks Q M R rv rot ∨ w.heap.size ≤ k) ∧ Serves out it' (rot'.map TS.pb) := by
  obtain ⟨p, L', a, A, d', hL, hpA, hx, h1, h2, h3, h4, h5, h6, h7, h8, h9, s1, s2, s3⟩ := hs
  cases rot with
  | nil => simp at hL
  | cons t ts =>
    simp only [List.map_cons, List.cons.injEq] at hL
    obtain ⟨rfl, rfl⟩ := hL
    have hA : t.A = a :: A := hpA
    refine (pop_q Q M R rh wt rv t ts it a A ents w d' hq hA hwt hwt2 (by simpa using h7) h1 h2 h3 h4 h5 h6 h8 h9).mono ?_
    rintro e w' ⟨rfl, rv', rh', rot', it', ents', t', g1, g2, g3, g4, g5, g6, g7, g8⟩
    refine ⟨a.r, rfl, hx, rv', rh', rot', it', ents', g1, g2, g3, ?_⟩
    have ht' : t'.pb = ⟨A, t.q, d' - a.r.tk⟩ := by simp [TS.pb, g4, g5, g6]
    rcases g8 with ⟨e1, rfl, rfl, _⟩ | ⟨y, A', e1, _, ⟨e2, rfl, rfl⟩ | ⟨e2, rfl, rfl⟩⟩
    · exact s1 e1
    · rw [List.map_cons, ht']; exact s2 y A' e1 e2
    · rw [List.map_append, List.map_cons, List.map_nil, ht']; exact s3 y A' e1 e2
end Go.Proofs.Ybulkhba
