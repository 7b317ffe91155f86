/-
  'holdsIntsB2', function 9, where it answers true.
-/
import Derived.Test.YoebqwW29
import Derived.Deep.RegionHeld3
namespace Go.Proofs.Yoebqw.W9
open Go.RowKit Go.Proofs.Yoebqw.Lay Go.Proofs.Yoebqw.W29

theorem notNil (v : Value) (w : World) : (binOp .eql 40 (.iface 36 v) .nilIface).run Ebqg.prog w = .ok (.bool false) w := by kernel_rfl

theorem later_at {w wr : World} {g i : Nat} {v : Int} (h : Below w.heap.size w wr) (hc : ∃ q, w.cell? ⟨g, i, none⟩ = some (.iface 36 (.pointer (some ⟨q, 0, none⟩))) ∧ w.cell? ⟨q, 0, none⟩ = some (.int .i64 v)) :
    ∃ q, wr.cell? ⟨g, i, none⟩ = some (.iface 36 (.pointer (some ⟨q, 0, none⟩))) ∧ wr.cell? ⟨q, 0, none⟩ = some (.int .i64 v) := by
  obtain ⟨q, h1, h2⟩ := hc
  exact ⟨q, cell_later h h1, cell_later h h2⟩

/-- The call of a round: x's element against a new Int of the same number. -/
theorem meets {wr : World} {q k : Nat} {xs : List Int} (hk : k < xs.length) (hcq : wr.cell? ⟨q, 0, none⟩ = some (.int .i64 (xs.getD k 0))) :
    Hid (Calls Ebqg.prog 29 #[.pointer (some ⟨q, 0, none⟩), .iface 36 (.pointer (some ⟨wr.heap.size, 0, none⟩))] (wr.alloc (.cells #[.int .i64 xs[k]] 38)).drew fun e w' =>
      e = .returned (.bool true) ∧ ∃ n, w' = (wr.alloc (.cells #[.int .i64 xs[k]] 38)).drewN n) := by
  have hb : Below wr.heap.size wr (wr.alloc (.cells #[.int .i64 xs[k]] 38)) := (Below.refl _ _).alloc (Nat.le_refl _) _
  have h1 : (wr.alloc (.cells #[.int .i64 xs[k]] 38)).drew.cell? ⟨q, 0, none⟩ = some (.int .i64 (xs.getD k 0)) := cell_later hb.drew hcq
  have h2 : (wr.alloc (.cells #[.int .i64 xs[k]] 38)).drew.cell? ⟨wr.heap.size, 0, none⟩ = some (.int .i64 (xs[k])) := World.cell?_alloc_new wr #[.int .i64 xs[k]] 38 0
  refine (intEq q wr.heap.size _ _ _ h1 h2).mono ?_
  rintro e w' ⟨rfl, n, rfl⟩
  exact ⟨by rw [List.getElem_eq_getD (h := hk) 0]; simp, 1 + n, World.drewN_drew _ _⟩

set_option maxHeartbeats 2000000 in
theorem holds (p : Nat) (a : Option Addr) (c : Nat) (xs : List Int) (w : World) (hp : Hid (ArrI w p xs)) (hx : Hid (IRow w a xs)) (_hn : xs.length ≤ 65536) :
    Calls Ebqg.prog 9 #[.pointer (some ⟨p, 0, none⟩), .slice a xs.length c] w fun e w' => e = .returned (.bool true) ∧ Below w.heap.size w w' := by
  obtain ⟨g, hpc, hps⟩ := hp.out
  have HP : Hid (∀ i, i < xs.length → ∃ q, w.cell? ⟨g, i, none⟩ = some (.iface 36 (.pointer (some ⟨q, 0, none⟩))) ∧ w.cell? ⟨q, 0, none⟩ = some (.int .i64 (xs.getD i 0))) := hps
  clear hps
  have hna := nilAhead36
  have hme := method36
  have hnn := notNil
  have hl' : ((xs.length : Int) != (xs.length : Int)) = false := by simp
  go_enter Ebqg.func9, Ebqg.ntmps9
  go_wp2
  go_loopw [5] (fun i wr => ∃ k : Nat, k ≤ xs.length ∧ i = .int .i64 k ∧ Hid (Below w.heap.size w wr)) (fun i _ => xs.length - (intOf i).toNat)
  case atStart => exact ⟨0, Nat.zero_le _, rfl, Below.refl _ _⟩
  case round =>
    obtain ⟨k, hk, rfl, hb⟩ := hrel
    by_cases hlt : k < xs.length
    · obtain ⟨q, hcg, hcq⟩ := later_at hb.out (HP.out k hlt)
      obtain ⟨bx, ox, rfl, hcx⟩ := hx.out k hlt
      have hcp := cell_later hb.out hpc
      have hcw := cell_later hb.out hcx
      clear hcx
      go_wp2
      have h0 : (0 : Int) ≤ (k : Int) := by omega
      have h1 : (k : Int) < (xs.length : Int) := by omega
      have HC := meets hlt hcq
      have hqne := World.new_ne wr _ hcq
      have hbne := World.new_ne wr _ hcw
      go_region_held3 (fun w' => w'.cell? ⟨bx, ox + k, none⟩ = some (.int .i64 (xs.getD k 0)) ∧ w'.cell? ⟨q, 0, none⟩ = some (.int .i64 (xs.getD k 0))) (go_keep)
        (first | (go_at_call 29; refine HC.out.mono ?_; rintro e w' ⟨rfl, nq, rfl⟩))
      all_goals go_wp2
      all_goals
        go_roundw
        case rel => exact ⟨k + 1, by omega, by go_num, below_drewN (hb.out.alloc hb.out.size _) _⟩
        case measure => simp [intOf]; omega
    · go_wp2
      go_ret
      exact ⟨rfl, hb.out⟩
end Go.Proofs.Yoebqw.W9
