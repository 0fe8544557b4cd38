import Derived.Test.YbulkhbaRows
import Derived.WalkKit
import Derived.WalkSpells
import Derived.WalkLawsBesides
import Derived.StillTactics
import Derived.Deep.QuietTactic
import Derived.BigQuiet
namespace Go.Proofs.Ybulkhba
open Go.RowKit

theorem Hid.mk {p : Prop} (h : p) : Hid p := h

/-- THE WORLDS IN WHICH ALL THAT LAY IN w LIES AS IT LAY. -/
def Ext (w : World) : Type := { z : World // Below w.heap.size w z }
def InExt (w : World) (z : World) : Prop := ∃ u : Ext w, z = u.1
theorem inExt_self (w : World) : InExt w w := ⟨⟨w, Below.refl _ _⟩, rfl⟩
theorem inExt_mk {w z : World} (h : Below w.heap.size w z) : InExt w z := ⟨⟨z, h⟩, rfl⟩
theorem Ext.cell {w : World} {a : Addr} {v : Value} (h : w.cell? a = some v) (u : Ext w) : u.1.cell? a = some v := by
  have hb : a.block < w.heap.size := by
    rcases Nat.lt_or_ge a.block w.heap.size with h' | h'
    · exact h'
    · simp [World.cell?, Array.getElem?_eq_none h'] at h
  exact (u.2.cell hb).trans h

/-- THE WORLD IS FORGOTTEN BUT FOR WHAT 'I' SAYS OF IT. -/
theorem wp_world {P : Program} {c : Code} {Q : Exit → Act → World → Prop} {a : Act} {w : World} (I : World → Prop) (hI : I w) (h : ∀ W, I W → Code.wp P c Q a W) : Code.wp P c Q a w := h w hI

/-- The world behind the draw is of the class. -/
theorem inExt_drawn (w : World) : InExt w { w with drawn := w.drawn + 1 } := ⟨⟨w.drew, (Below.refl _ _).drew⟩, rfl⟩
/-- The whole region quiet, in the class of the worlds above w. -/
theorem wp_region_ext {P : Program} {id : Nat} {Q : Exit → Act → World → Prop} {a : Act} {w : World} {l : List Oper} (hm : P.follows .mixedOrders = true) (hB : Region.lexB .any l.toArray = true)
    (h : wpQuiet P l.toArray (InExt w) (fun a' => ∀ w', InExt w w' → Q .normal a' w') l a) : (Code.region id l.toArray true).wp P Q a w :=
  wp_region_quiet (C := InExt w) hm hB (inExt_drawn w) (by simpa using h)
/-- A callee that only grows the world, met in a world of the class. -/
theorem quietE {P : Program} {f : FuncId} {args : Array Value} {w : World} (u : Ext w) {v : Value}
    (h : Calls P f args u.1 fun e w' => e = .returned v ∧ Below u.1.heap.size u.1 w') : Calls P f args u.1 fun e w'' => e = .returned v ∧ InExt w w'' :=
  h.mono fun _ _ h => ⟨h.1, inExt_mk (u.2.trans (h.2.mono u.2.size))⟩
/-- Block b of w is the row of cells 'cs' of type t, none of it frozen. -/
def Row (w : World) (b : Nat) (t : TypeId) (cs : Array Value) : Prop := w.heap[b]? = some (.cells cs t (0, 0))
theorem Row.cell {w : World} {b : Nat} {t : TypeId} {cs : Array Value} (h : Row w b t cs) (i : Nat) : w.cell? ⟨b, i, none⟩ = cs[i]? := by
  simp [World.cell?, show w.heap[b]? = _ from h]
theorem Row.frozen {w : World} {b : Nat} {t : TypeId} {cs : Array Value} (h : Row w b t cs) (i : Nat) : w.frozen? ⟨b, i, none⟩ = false := by
  simp [World.frozen?, show w.heap[b]? = _ from h]
theorem Row.lt {w : World} {b : Nat} {t : TypeId} {cs : Array Value} (h : Row w b t cs) : b < w.heap.size := by
  rcases Nat.lt_or_ge b w.heap.size with h' | h'
  · exact h'
  · simp [Row, Array.getElem?_eq_none h'] at h
theorem Row.below {w w' : World} {b : Nat} {t : TypeId} {cs : Array Value} (h : Row w b t cs) {B : Nat} (hb : Below B w w') (hB : b < B) : Row w' b t cs := (hb.block b hB).trans h
theorem Row.ext {w : World} {b : Nat} {t : TypeId} {cs : Array Value} (h : Row w b t cs) (u : Ext w) : Row u.1 b t cs := h.below u.2 h.lt
theorem Row.alloc {w : World} {b : Nat} {t : TypeId} {cs : Array Value} (h : Row w b t cs) (o : Obj) : Row (w.alloc o) b t cs := (Below.heap_alloc w o b h.lt).trans h
theorem row_new (w : World) (t : TypeId) (cs : Array Value) (n : Nat) (hn : n = w.heap.size) : Row (w.alloc (.cells cs t)) n t cs := by
  subst hn; show (w.heap.push _)[w.heap.size]? = _; simp
end Go.Proofs.Ybulkhba
