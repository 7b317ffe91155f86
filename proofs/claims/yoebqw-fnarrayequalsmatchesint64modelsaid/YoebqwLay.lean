/-
  WHAT LIES IN MEMORY, said once for all walks of this seat: a slice of int64 ('IRow'), a tengo array of Ints ('ArrI'); both stay where nothing old is written.
-/
import Derived.WalkKit
import Derived.WalkSpells
import Derived.WalkSmall
import Derived.Deep.OwnRows
import Derived.Deep.Draws
namespace Go.Proofs.Yoebqw.Lay
open Go.RowKit

/-- The slice at 'a' holds the numbers xs (nothing is said of 'a' where xs is empty). -/
def IRow (w : World) (a : Option Addr) (xs : List Int) : Prop :=
  ∀ i, i < xs.length → ∃ b off, a = some ⟨b, off, none⟩ ∧ w.cell? ⟨b, off + i, none⟩ = some (.int .i64 (xs.getD i 0))

/-- Block p holds one cell, a slice header over block g, whose cell i is a *Int (type 36) that leads to a cell that holds xs[i]. -/
def ArrI (w : World) (p : Nat) (xs : List Int) : Prop :=
  ∃ g, w.cell? ⟨p, 0, none⟩ = some (.slice (some ⟨g, 0, none⟩) xs.length xs.length) ∧
    ∀ i, i < xs.length → ∃ q, w.cell? ⟨g, i, none⟩ = some (.iface 36 (.pointer (some ⟨q, 0, none⟩))) ∧ w.cell? ⟨q, 0, none⟩ = some (.int .i64 (xs.getD i 0))

theorem IRow.later {w w' : World} {a : Option Addr} {xs : List Int} (h : IRow w a xs) (hb : Below w.heap.size w w') : IRow w' a xs := fun i hi => by
  obtain ⟨b, off, ha, hc⟩ := h i hi
  exact ⟨b, off, ha, cell_later hb hc⟩

theorem ArrI.later {w w' : World} {p : Nat} {xs : List Int} (h : ArrI w p xs) (hb : Below w.heap.size w w') : ArrI w' p xs := by
  obtain ⟨g, h1, h2⟩ := h
  refine ⟨g, cell_later hb h1, fun i hi => ?_⟩
  obtain ⟨q, hc, hq⟩ := h2 i hi
  exact ⟨q, cell_later hb hc, cell_later hb hq⟩

theorem below_draws (w : World) (n : Nat) : Below w.heap.size w (w.drewN n) := below_drewN (Below.refl _ _) n

end Go.Proofs.Yoebqw.Lay
