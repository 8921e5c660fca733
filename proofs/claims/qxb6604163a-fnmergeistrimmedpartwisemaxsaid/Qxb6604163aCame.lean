/-
  A slice that came in, cloned; a region at a class of worlds; a new variable.
-/
import Derived.Test.Qxb6604163aMerge
import Derived.Deep.DrawnRows
import Derived.Deep.RegionWith
import Derived.Deep.RegionHeld3
namespace Go.Proofs.Qxb6604163a.Lbl
open Go.RowKit
set_option linter.unusedVariables false

/-- A slice that came in: nil, or its n elements are F. -/
def Came (w : World) (a : Option Addr) (n cap : Nat) (F : Nat → Int) : Prop := (a = none ∧ n = 0 ∧ cap = 0) ∨ ∃ x, a = some x ∧ ∀ i, i < n → w.cell? (x.add i) = some (.int .u64 (F i))
theorem Came.below {w w' : World} {a : Option Addr} {n cap : Nat} {F : Nat → Int} (h : Came w a n cap F) (hb : Below w.heap.size w w') : Came w' a n cap F := by
  rcases h with h | ⟨x, rfl, hx⟩
  · exact .inl h
  · exact .inr ⟨x, rfl, fun i hi => by rw [hb.cell (block_lt_of_cell (hx i hi))]; exact hx i hi⟩
theorem clone_came (a : Option Addr) (n cap : Nat) (F : Nat → Int) (hn : n ≤ 1048576) (w : World) (h : Came w a n cap F) :
    Calls Try.prog 8 #[.slice a n cap] w fun e w' => (∃ a' c', e = .returned (.slice a' n c') ∧ LS w' a' n F) ∧ Below w.heap.size w w' := by
  rcases h with ⟨rfl, rfl, rfl⟩ | ⟨x, rfl, hx⟩
  · exact (clone_nil w).mono fun e w' ⟨he, hw⟩ => ⟨⟨none, 0, he, .inl rfl⟩, hw ▸ Below.refl _ _⟩
  · exact (clone_any x n cap F hn w hx).mono fun e w' ⟨he, hr, hb⟩ => ⟨⟨_, n, he, .inr ⟨_, rfl, hr⟩⟩, hb⟩

/-- A region that draws its order, at a class of worlds: its loads give one value in every world of the class, its calls stay in it: ONE walk, in the order of the text. -/
theorem region_class {P : Program} {id : Nat} {Q : Exit → Act → World → Prop} {a : Act} {w : World} {l : List Oper} (C : World → Prop) (hm : P.follows .mixedOrders = true) (hB : Region.lexB .any l.toArray = true) (hC : C w.drew)
    (h : wpQuiet P l.toArray C (fun a' => ∀ w', C w' → Q .normal a' w') l a) : (Code.region id l.toArray true).wp P Q a w :=
  wp_region_quiet (C := C) hm hB hC (by simpa using h)
/-- A new variable of type Label. -/
theorem var_new (w : World) (v : Value) : ∃ W, w.alloc (.cells #[v] 31) = W ∧ Below w.heap.size w W ∧ W.heap.size = w.heap.size + 1 ∧ W.cell? ⟨w.heap.size, 0, none⟩ = some v :=
  ⟨_, rfl, (Below.refl _ _).alloc (Nat.le_refl _) _, by simp, by rw [World.cell?_alloc_at _ _ _ _ rfl]; rfl⟩

end Go.Proofs.Qxb6604163a.Lbl
