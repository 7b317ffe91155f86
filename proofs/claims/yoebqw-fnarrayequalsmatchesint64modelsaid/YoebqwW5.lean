/-
  'cloneIntsB2', function 5.
-/
import Derived.Test.YoebqwRows
import Derived.Test.YoebqwLay
import Derived.WalkLawsBesides
namespace Go.Proofs.Yoebqw.W5
open Go.RowKit Go.Proofs.Yoebqw.Lay

theorem info2 : (Ebqg.prog.info? 2).map (fun i => (i.zero, i.size, i.bytes)) = some (some (.int .i64 0), 1, 8) := by kernel_rfl

/-- What the copy holds when k of its cells are laid. -/
def part (xs : List Int) (k : Nat) (j : Nat) : Value := .int .i64 (if j < k then xs.getD j 0 else 0)

theorem part_step {w w' : World} {B n k : Nat} {xs : List Int} {v : Int} (hr : w'.rowIs B 2 n (part xs k)) (hv : v = xs.getD k 0) (hb : Below B w w') :
    (w'.setCell ⟨B, k, none⟩ (.int .i64 v)).rowIs B 2 n (part xs (k + 1)) ∧ Below B w (w'.setCell ⟨B, k, none⟩ (.int .i64 v)) := by
  refine ⟨(hr.set k _).congr fun j _ => ?_, hb.setCell (Nat.le_refl _) _⟩
  unfold part
  by_cases e : j = k
  · subst e; simp [hv]
  · by_cases h : j < k
    · simp [e, h, Nat.lt_succ_of_lt h]
    · have : ¬ j < k + 1 := by omega
      simp [e, h, this]

theorem part_done {w' : World} {B : Nat} {xs : List Int} (hr : w'.rowIs B 2 xs.length (part xs xs.length)) : IRow w' (some ⟨B, 0, none⟩) xs := fun i hi => by
  refine ⟨B, 0, rfl, ?_⟩
  have := hr.cell hi
  simp only [part, hi, if_true] at this
  simpa using this

set_option maxHeartbeats 1000000 in
theorem clone (x : Addr) (c : Nat) (xs : List Int) (w : World) (hx : Hid (IRow w (some x) xs)) (hn : xs.length ≤ 65536) :
    Calls Ebqg.prog 5 #[.slice (some x) xs.length c] w fun e w' => ∃ a c', e = .returned (.slice a xs.length c') ∧ IRow w' a xs ∧ Below w.heap.size w w' := by
  have q22 : ∀ (w : World) (a : Option Addr) (n c n' c' : Nat), (binOp .eql 22 (.slice a n c) (.slice none n' c')).run Ebqg.prog w = .ok (.bool a.isNone) w := fun w a n c n' c' => Lib.run_eql_slice_nil w _ _ a n c n' c' Ebqg.underlying22
  have hmk := fun w => run_make_row' (P := Ebqg.prog) 22 2 (.int .i64 0) 8 Ebqg.underlying22 info2 rfl .i64 .i64 xs.length (by omega) (by omega) w
  go_enter Ebqg.func5, Ebqg.ntmps5
  go_wp2
  go_loopw [4] (fun i wr => ∃ k : Nat, k ≤ xs.length ∧ i = .int .i64 k ∧ Hid (wr.rowIs w.heap.size 2 xs.length (part xs k)) ∧ Hid (Below w.heap.size w wr)) (fun i _ => xs.length - (intOf i).toNat)
  case atStart =>
    refine ⟨0, Nat.zero_le _, rfl, ?_, (Below.refl _ _).alloc (Nat.le_refl _) _⟩
    exact (World.rowIs_made w (.int .i64 0) xs.length 2).congr fun j _ => by simp [part]
  case round =>
    obtain ⟨k, hk, rfl, hr, hb⟩ := hrel
    by_cases hlt : k < xs.length
    · obtain ⟨bx, ox, hax, hcx⟩ := hx.out k hlt
      obtain rfl : x = ⟨bx, ox, none⟩ := by simpa using hax
      clear hax
      have hcw := cell_later hb.out hcx
      have hct := hr.out.cell hlt
      have hcf := hr.out.frozen k
      clear hcx
      have R := part_step (v := xs[k]) hr.out (List.getElem_eq_getD 0) hb.out
      have R1 : Hid (World.rowIs _ _ _ _ _) := R.1
      have R2 : Hid (Below _ _ _) := R.2
      clear R
      go_wp2
      go_roundw
      case rel => exact ⟨k + 1, by omega, by go_num, R1, R2⟩
      case measure => simp [intOf]; omega
    · obtain rfl : k = xs.length := by omega
      have D := part_done hr.out
      go_wp2
      go_ret
      exact ⟨_, _, rfl, D, hb.out⟩

theorem clone_nil (w : World) :
    Calls Ebqg.prog 5 #[.slice none 0 0] w fun e w' => e = .returned (.slice none 0 0) ∧ w' = w := by
  have q22 : ∀ (w : World) (a : Option Addr) (n c n' c' : Nat), (binOp .eql 22 (.slice a n c) (.slice none n' c')).run Ebqg.prog w = .ok (.bool a.isNone) w := fun w a n c n' c' => Lib.run_eql_slice_nil w _ _ a n c n' c' Ebqg.underlying22
  go_enter Ebqg.func5, Ebqg.ntmps5
  go_wp2
  go_ret
  exact ⟨rfl, rfl⟩
end Go.Proofs.Yoebqw.W5
