/-
  'mkIntsB2', function 7.
-/
import Derived.Test.YoebqwRows
import Derived.Test.YoebqwLay
import Derived.WalkLawsBesides
namespace Go.Proofs.Yoebqw.W7
open Go.RowKit Go.Proofs.Yoebqw.Lay

theorem info40 : (Ebqg.prog.info? 40).map (fun i => (i.zero, i.size, i.bytes)) = some (some .nilIface, 1, 16) := by kernel_rfl

/-- What the new row holds when k of its cells are laid: round j makes block B + 1 + j. -/
def part (B k : Nat) (j : Nat) : Value := if j < k then .iface 36 (.pointer (some ⟨B + 1 + j, 0, none⟩)) else .nilIface

/-- What stands behind k rounds. -/
structure Made (w wr : World) (xs : List Int) (k : Nat) : Prop where
  size : wr.heap.size = w.heap.size + 1 + k
  row : wr.rowIs w.heap.size 40 xs.length (part w.heap.size k)
  cells : ∀ j, j < k → wr.cell? ⟨w.heap.size + 1 + j, 0, none⟩ = some (.int .i64 (xs.getD j 0))
  below : Below w.heap.size w wr

theorem Made.step {w wr : World} {xs : List Int} {k : Nat} {v : Int} (h : Made w wr xs k) (hv : v = xs.getD k 0) :
    Made w ((wr.setCell ⟨w.heap.size, k, none⟩ (.iface 36 (.pointer (some ⟨wr.heap.size, 0, none⟩)))).alloc (.cells #[.int .i64 v] 38)) xs (k + 1) := by
  obtain ⟨h1, h2, h3, h4⟩ := h
  have hs : (wr.setCell ⟨w.heap.size, k, none⟩ (.iface 36 (.pointer (some ⟨wr.heap.size, 0, none⟩)))).heap.size = w.heap.size + 1 + k := by simp [World.setCell, h1]
  refine ⟨by simp [h1]; omega, ?_, fun j hj => ?_, (h4.setCell (Nat.le_refl _) _).alloc (by rw [hs]; omega) _⟩
  · refine ((h2.set k _).alloc _).congr fun j _ => ?_
    unfold part
    by_cases e : j = k
    · subst e; simp [h1]
    · by_cases hj : j < k
      · simp [e, hj, Nat.lt_succ_of_lt hj]
      · have : ¬ j < k + 1 := by omega
        simp [e, hj, this]
  · by_cases e : j = k
    · subst e
      rw [World.cell?_alloc_at _ _ _ _ hs.symm]
      simp [hv]
    · have hlt : j < k := by omega
      have hne : (⟨w.heap.size, k, none⟩ : Addr) ≠ ⟨w.heap.size + 1 + j, 0, none⟩ := fun e => by have := congrArg Addr.block e; simp only at this; omega
      rw [World.cell?_alloc_past _ _ _ (by rw [hs]; omega), World.cell?_setCell_other (h := hne)]
      exact h3 j hlt

theorem Made.done {w wr : World} {xs : List Int} (h : Made w wr xs xs.length) :
    ArrI (wr.alloc (.cells #[.slice (some ⟨w.heap.size, 0, none⟩) xs.length xs.length] 33)) wr.heap.size xs ∧ Below w.heap.size w (wr.alloc (.cells #[.slice (some ⟨w.heap.size, 0, none⟩) xs.length xs.length] 33)) := by
  obtain ⟨h1, h2, h3, h4⟩ := h
  have hb : Below wr.heap.size wr (wr.alloc (.cells #[.slice (some ⟨w.heap.size, 0, none⟩) xs.length xs.length] 33)) := (Below.refl _ _).alloc (Nat.le_refl _) _
  refine ⟨⟨w.heap.size, by simp, fun i hi => ⟨w.heap.size + 1 + i, cell_later hb ?_, cell_later hb (h3 i hi)⟩⟩, h4.alloc (by omega) _⟩
  rw [h2.cell hi]
  simp [part, hi]

set_option maxHeartbeats 1000000 in
theorem mk (a : Option Addr) (c : Nat) (xs : List Int) (w : World) (hx : Hid (IRow w a xs)) (hn : xs.length ≤ 65536) :
    Calls Ebqg.prog 7 #[.slice a xs.length c] w fun e w' => ∃ p, e = .returned (.pointer (some ⟨p, 0, none⟩)) ∧ ArrI w' p xs ∧ Below w.heap.size w w' := by
  have hmk := fun w => run_make_row' (P := Ebqg.prog) 31 40 .nilIface 16 Ebqg.underlying31 info40 rfl .i64 .i64 xs.length (by omega) (by omega) w
  go_enter Ebqg.func7, Ebqg.ntmps7
  go_wp2
  go_loopw [4] (fun i wr => ∃ k : Nat, k ≤ xs.length ∧ i = .int .i64 k ∧ Made w wr xs k) (fun i _ => xs.length - (intOf i).toNat)
  case atStart =>
    refine ⟨0, Nat.zero_le _, rfl, by simp, ?_, fun j hj => absurd hj (Nat.not_lt_zero _), (Below.refl _ _).alloc (Nat.le_refl _) _⟩
    exact (World.rowIs_made w .nilIface xs.length 40).congr fun j _ => by simp [part]
  case round =>
    obtain ⟨k, hk, rfl, hr⟩ := hrel
    by_cases hlt : k < xs.length
    · obtain ⟨bx, ox, rfl, hcx⟩ := hx.out k hlt
      have hcw := cell_later hr.below hcx
      have hct := hr.row.cell hlt
      have hcf := hr.row.frozen k
      have hsz : w.heap.size < wr.heap.size := by have := hr.size; omega
      clear hcx
      go_wp2
      have S := hr.step (v := xs[k]) (List.getElem_eq_getD 0)
      go_roundw
      case rel => exact ⟨k + 1, by omega, by go_num, S⟩
      case measure => simp [intOf]; omega
    · obtain rfl : k = xs.length := by omega
      go_wp2
      go_ret
      exact ⟨_, rfl, hr.done⟩
end Go.Proofs.Yoebqw.W7
