/-
  'eqModelB2', function 6.
-/
import Derived.Test.YoebqwW4
namespace Go.Proofs.Yoebqw.W6
open Go.RowKit Go.Proofs.Yoebqw.Lay Go.Proofs.Yoebqw.W4

theorem stop_at {xs ys : List Int} {k : Nat} (h1 : k < xs.length) (h2 : k < ys.length) (h : (xs[k] != ys[k]) = true) : same xs ys = false := by
  refine same_at xs ys k ?_
  rw [← List.getElem_eq_getD (h := h1) 0, ← List.getElem_eq_getD (h := h2) 0]
  simpa using h
theorem step_at {xs ys : List Int} {k : Nat} (h1 : k < xs.length) (h2 : k < ys.length) (h : (xs[k] != ys[k]) = false) (hs : ∀ j, j < k → xs.getD j 0 = ys.getD j 0) :
    ∀ j, j < k + 1 → xs.getD j 0 = ys.getD j 0 := fun j hj => by
  by_cases e : j = k
  · subst e
    rw [← List.getElem_eq_getD (h := h1) 0, ← List.getElem_eq_getD (h := h2) 0]
    simpa using h
  · exact hs j (by omega)

set_option maxHeartbeats 1000000 in
theorem eqModel (a b : Option Addr) (c d : Nat) (xs ys : List Int) (w : World) (hx : Hid (IRow w a xs)) (hy : Hid (IRow w b ys)) (_hn : xs.length ≤ 65536) :
    Calls Ebqg.prog 6 #[.slice a xs.length c, .slice b ys.length d] w fun e w' => e = .returned (.bool (same xs ys)) ∧ ∃ n, w' = w.drewN n := by
  by_cases hl : xs.length = ys.length
  · have hl' : ((xs.length : Int) != (ys.length : Int)) = false := by simp [hl]
    have HL : Hid (xs.length = ys.length) := hl
    have hle : xs.length ≤ ys.length := by omega
    clear hl
    go_enter Ebqg.func6, Ebqg.ntmps6
    go_wp2
    go_loopw [5] (fun i wr => ∃ k n : Nat, k ≤ xs.length ∧ i = .int .i64 k ∧ wr = w.drewN n ∧ Hid (∀ j, j < k → xs.getD j 0 = ys.getD j 0)) (fun i _ => xs.length - (intOf i).toNat)
    case atStart => exact ⟨0, 0, Nat.zero_le _, rfl, rfl, fun j hj => absurd hj (Nat.not_lt_zero _)⟩
    case round =>
      obtain ⟨k, n, hk, rfl, rfl, hs⟩ := hrel
      by_cases hlt : k < xs.length
      · obtain ⟨bx, ox, rfl, hcx⟩ := hx.out k hlt
        obtain ⟨b2, oy, rfl, hcy⟩ := hy.out k (by omega)
        have hlt2 : k < ys.length := by omega
        go_wp2
        go_quiet (fail)
        go_wp2
        · have h := stop_at hlt hlt2 (by assumption)
          go_ret
          exact ⟨by rw [h]; rfl, n + nq, World.drewN_drewN _ _ _⟩
        · have h := step_at hlt hlt2 (by assumption) hs.out
          go_roundw
          case rel => exact ⟨k + 1, n + nq, by omega, by go_num, rfl, h⟩
          case measure => simp [intOf]; omega
      · go_wp2
        go_ret
        exact ⟨by rw [same_all xs ys HL.out fun j hj => hs.out j (by omega)]; rfl, _, rfl⟩
  · have hl' : ((xs.length : Int) != (ys.length : Int)) = true := by simp; omega
    rw [same_len xs ys hl]
    clear hl
    go_enter Ebqg.func6, Ebqg.ntmps6
    go_wp2
    go_ret
    exact ⟨rfl, 0, rfl⟩

end Go.Proofs.Yoebqw.W6
