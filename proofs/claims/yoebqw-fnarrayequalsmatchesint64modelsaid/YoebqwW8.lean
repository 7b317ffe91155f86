/-
  '(*Array).Equals', function 8, at a *Array (type 25) and at an *ImmutableArray (type 28), both of Ints.
-/
import Derived.Test.YoebqwW29
import Derived.Test.YoebqwW6
namespace Go.Proofs.Yoebqw.W8
open Go.RowKit Go.Proofs.Yoebqw.Lay Go.Proofs.Yoebqw.W4 Go.Proofs.Yoebqw.W6 Go.Proofs.Yoebqw.W29

theorem assert25 (v : Value) (w : World) : (Instr.typeAssert (.iface 25 v) 40 25 true).run Ebqg.prog w = .ok (.tuple #[v, .bool true]) w := by kernel_rfl
theorem assert28 (v : Value) (w : World) : (Instr.typeAssert (.iface 28 v) 40 28 true).run Ebqg.prog w = .ok (.tuple #[v, .bool true]) w := by kernel_rfl
theorem assert28not (v : Value) (w : World) : (Instr.typeAssert (.iface 28 v) 40 25 true).run Ebqg.prog w = .ok (.tuple #[.pointer none, .bool false]) w := by kernel_rfl

theorem draws_at {w wr : World} {g i : Nat} {v : Int} (h : ∃ n, wr = w.drewN n) (hc : ∃ q, w.cell? ⟨g, i, none⟩ = some (.iface 36 (.pointer (some ⟨q, 0, none⟩))) ∧ w.cell? ⟨q, 0, none⟩ = some (.int .i64 v)) :
    ∃ q, wr.cell? ⟨g, i, none⟩ = some (.iface 36 (.pointer (some ⟨q, 0, none⟩))) ∧ wr.cell? ⟨q, 0, none⟩ = some (.int .i64 v) := by
  obtain ⟨n, rfl⟩ := h
  exact hc
theorem draws_on {w wr : World} (h : ∃ n, wr = w.drewN n) (m : Nat) : ∃ n, wr.drewN m = w.drewN n := by
  obtain ⟨n, rfl⟩ := h
  exact ⟨n + m, World.drewN_drewN _ _ _⟩

theorem stop_not {xs ys : List Int} {k : Nat} (h1 : k < xs.length) (h2 : k < ys.length) (h : (!xs[k] == ys[k]) = true) : same xs ys = false := stop_at h1 h2 h
theorem step_not {xs ys : List Int} {k : Nat} (h1 : k < xs.length) (h2 : k < ys.length) (h : (!xs[k] == ys[k]) = false) (hs : ∀ j, j < k → xs.getD j 0 = ys.getD j 0) :
    ∀ j, j < k + 1 → xs.getD j 0 = ys.getD j 0 := step_at h1 h2 h hs

set_option maxHeartbeats 1000000 in
theorem arrEq25 (p q : Nat) (xs ys : List Int) (w : World) (hx : Hid (ArrI w p xs)) (hy : Hid (ArrI w q ys)) (_hn : xs.length ≤ 65536) :
    Calls Ebqg.prog 8 #[.pointer (some ⟨p, 0, none⟩), .iface 25 (.pointer (some ⟨q, 0, none⟩))] w fun e w' => e = .returned (.bool (same xs ys)) ∧ ∃ n, w' = w.drewN n := by
  obtain ⟨gx, hpx, hxs⟩ := hx.out
  obtain ⟨gy, hpy, hys⟩ := hy.out
  have HX : Hid (∀ i, i < xs.length → ∃ q, w.cell? ⟨gx, i, none⟩ = some (.iface 36 (.pointer (some ⟨q, 0, none⟩))) ∧ w.cell? ⟨q, 0, none⟩ = some (.int .i64 (xs.getD i 0))) := hxs
  have HY : Hid (∀ i, i < ys.length → ∃ q, w.cell? ⟨gy, i, none⟩ = some (.iface 36 (.pointer (some ⟨q, 0, none⟩))) ∧ w.cell? ⟨q, 0, none⟩ = some (.int .i64 (ys.getD i 0))) := hys
  clear hxs hys
  have h25 := assert25
  have hna := nilAhead36
  have hme := method36
  by_cases hl : xs.length = ys.length
  · have hl' : ((xs.length : Int) != (ys.length : Int)) = false := by simp [hl]
    have HL : Hid (xs.length = ys.length) := hl
    have hle : xs.length ≤ ys.length := by omega
    clear hl
    go_enter Ebqg.func8, Ebqg.ntmps8
    go_wp2
    go_loopw [39] (fun i wr => ∃ k : Nat, k ≤ xs.length ∧ i = .int .i64 k ∧ Hid (∃ n, wr = w.drewN n) ∧ Hid (∀ j, j < k → xs.getD j 0 = ys.getD j 0)) (fun i _ => xs.length - (intOf i).toNat)
    case atStart => exact ⟨0, Nat.zero_le _, rfl, ⟨0, rfl⟩, fun j hj => absurd hj (Nat.not_lt_zero _)⟩
    case round =>
      obtain ⟨k, hk, rfl, hw, hs⟩ := hrel
      by_cases hlt : k < xs.length
      · have hlt2 : k < ys.length := by omega
        obtain ⟨qx, hcx, hvx⟩ := draws_at hw.out (HX.out k hlt)
        obtain ⟨qy, hcy, hvy⟩ := draws_at hw.out (HY.out k hlt2)
        go_wp2
        go_quiet ((go_at_call 29; exact Calls.quiet_of (intEq qx qy _ _ _ (by exact hvx) (by exact hvy))))
        go_wp2
        · have h := stop_not hlt hlt2 (by assumption)
          go_ret
          exact ⟨by rw [h]; rfl, draws_on hw.out nq⟩
        · have h := step_not hlt hlt2 (by assumption) hs.out
          go_roundw
          case rel => exact ⟨k + 1, by omega, by go_num, draws_on hw.out nq, h⟩
          case measure => simp [intOf]; omega
      · go_wp2
        go_ret
        exact ⟨by rw [same_all xs ys HL.out fun j hj => hs.out j (by omega)]; rfl, hw.out⟩
  · have hl' : ((xs.length : Int) != (ys.length : Int)) = true := by simp; omega
    rw [same_len xs ys hl]
    clear hl
    go_enter Ebqg.func8, Ebqg.ntmps8
    go_wp2
    go_ret
    exact ⟨rfl, 0, rfl⟩

set_option maxHeartbeats 1000000 in
theorem arrEq28 (p q : Nat) (xs ys : List Int) (w : World) (hx : Hid (ArrI w p xs)) (hy : Hid (ArrI w q ys)) (_hn : xs.length ≤ 65536) :
    Calls Ebqg.prog 8 #[.pointer (some ⟨p, 0, none⟩), .iface 28 (.pointer (some ⟨q, 0, none⟩))] w fun e w' => e = .returned (.bool (same xs ys)) ∧ ∃ n, w' = w.drewN n := by
  obtain ⟨gx, hpx, hxs⟩ := hx.out
  obtain ⟨gy, hpy, hys⟩ := hy.out
  have HX : Hid (∀ i, i < xs.length → ∃ q, w.cell? ⟨gx, i, none⟩ = some (.iface 36 (.pointer (some ⟨q, 0, none⟩))) ∧ w.cell? ⟨q, 0, none⟩ = some (.int .i64 (xs.getD i 0))) := hxs
  have HY : Hid (∀ i, i < ys.length → ∃ q, w.cell? ⟨gy, i, none⟩ = some (.iface 36 (.pointer (some ⟨q, 0, none⟩))) ∧ w.cell? ⟨q, 0, none⟩ = some (.int .i64 (ys.getD i 0))) := hys
  clear hxs hys
  have h28 := assert28
  have h28n := assert28not
  have hna := nilAhead36
  have hme := method36
  by_cases hl : xs.length = ys.length
  · have hl' : ((xs.length : Int) != (ys.length : Int)) = false := by simp [hl]
    have HL : Hid (xs.length = ys.length) := hl
    have hle : xs.length ≤ ys.length := by omega
    clear hl
    go_enter Ebqg.func8, Ebqg.ntmps8
    go_wp2
    go_loopw [39] (fun i wr => ∃ k : Nat, k ≤ xs.length ∧ i = .int .i64 k ∧ Hid (∃ n, wr = w.drewN n) ∧ Hid (∀ j, j < k → xs.getD j 0 = ys.getD j 0)) (fun i _ => xs.length - (intOf i).toNat)
    case atStart => exact ⟨0, Nat.zero_le _, rfl, ⟨0, rfl⟩, fun j hj => absurd hj (Nat.not_lt_zero _)⟩
    case round =>
      obtain ⟨k, hk, rfl, hw, hs⟩ := hrel
      by_cases hlt : k < xs.length
      · have hlt2 : k < ys.length := by omega
        obtain ⟨qx, hcx, hvx⟩ := draws_at hw.out (HX.out k hlt)
        obtain ⟨qy, hcy, hvy⟩ := draws_at hw.out (HY.out k hlt2)
        go_wp2
        go_quiet ((go_at_call 29; exact Calls.quiet_of (intEq qx qy _ _ _ (by exact hvx) (by exact hvy))))
        go_wp2
        · have h := stop_not hlt hlt2 (by assumption)
          go_ret
          exact ⟨by rw [h]; rfl, draws_on hw.out nq⟩
        · have h := step_not hlt hlt2 (by assumption) hs.out
          go_roundw
          case rel => exact ⟨k + 1, by omega, by go_num, draws_on hw.out nq, h⟩
          case measure => simp [intOf]; omega
      · go_wp2
        go_ret
        exact ⟨by rw [same_all xs ys HL.out fun j hj => hs.out j (by omega)]; rfl, hw.out⟩
  · have hl' : ((xs.length : Int) != (ys.length : Int)) = true := by simp; omega
    rw [same_len xs ys hl]
    clear hl
    go_enter Ebqg.func8, Ebqg.ntmps8
    go_wp2
    go_ret
    exact ⟨rfl, 0, rfl⟩

end Go.Proofs.Yoebqw.W8
