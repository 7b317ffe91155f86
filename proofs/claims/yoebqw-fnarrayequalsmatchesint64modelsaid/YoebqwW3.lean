/-
  The law, function 3, out of its callees' contracts.
-/
import Derived.Test.YoebqwW5
import Derived.Test.YoebqwW7
import Derived.Test.YoebqwW8
import Derived.Test.YoebqwW9
namespace Go.Proofs.Yoebqw.W3
open Go.RowKit Go.Proofs.Yoebqw.Lay Go.Proofs.Yoebqw.W4

theorem cloneAny (a : Option Addr) (c : Nat) (xs : List Int) (w : World) (hnil : a = none → xs.length = 0 ∧ c = 0) (hx : Hid (IRow w a xs)) (hn : xs.length ≤ 65536) :
    Calls Ebqg.prog 5 #[.slice a xs.length c] w fun e w' => ∃ a' c', e = .returned (.slice a' xs.length c') ∧ Hid (IRow w' a' xs) ∧ Hid (Below w.heap.size w w') := by
  cases a with
  | none =>
    obtain ⟨h1, h2⟩ := hnil rfl
    rw [h1, h2]
    refine (W5.clone_nil w).mono ?_
    rintro e w' ⟨rfl, rfl⟩
    exact ⟨none, 0, rfl, hx, Below.refl _ _⟩
  | some x =>
    refine (W5.clone x c xs w hx hn).mono ?_
    rintro e w' ⟨a', c', rfl, h1, h2⟩
    exact ⟨a', c', rfl, h1, h2⟩

theorem same_symm (xs ys : List Int) : same ys xs = same xs ys := by
  unfold same
  by_cases h : xs = ys
  · subst h; rfl
  · rw [decide_eq_false h, decide_eq_false fun e => h e.symm]
theorem same_self (xs : List Int) : same xs xs = true := by simp [same]

/-- 'Below' step by step. -/
theorem onward {w0 w w' : World} (h : Hid (Below w0.heap.size w0 w)) (h' : Below w.heap.size w w') : Hid (Below w0.heap.size w0 w') := Below.trans h.out (h'.mono (Below.size h.out))

theorem arrEq (p q : Nat) (xs ys : List Int) (w : World) (hx : Hid (ArrI w p xs)) (hy : Hid (ArrI w q ys)) (hn : xs.length ≤ 65536) (r : Bool) (hr : Hid (same xs ys = r)) :
    Calls Ebqg.prog 8 #[.pointer (some ⟨p, 0, none⟩), .iface 25 (.pointer (some ⟨q, 0, none⟩))] w fun e w' => e = .returned (.bool r) ∧ Hid (Below w.heap.size w w') := by
  refine (W8.arrEq25 p q xs ys w hx hy hn).mono ?_
  rintro e w' ⟨rfl, n, rfl⟩
  exact ⟨by rw [hr.out], below_draws _ _⟩
theorem immEq (p q : Nat) (xs ys : List Int) (w : World) (hx : Hid (ArrI w p xs)) (hy : Hid (ArrI w q ys)) (hn : xs.length ≤ 65536) (r : Bool) (hr : Hid (same xs ys = r)) :
    Calls Ebqg.prog 8 #[.pointer (some ⟨p, 0, none⟩), .iface 28 (.pointer (some ⟨q, 0, none⟩))] w fun e w' => e = .returned (.bool r) ∧ Hid (Below w.heap.size w w') := by
  refine (W8.arrEq28 p q xs ys w hx hy hn).mono ?_
  rintro e w' ⟨rfl, n, rfl⟩
  exact ⟨by rw [hr.out], below_draws _ _⟩
theorem model (a b : Option Addr) (c d : Nat) (xs ys : List Int) (w : World) (hx : Hid (IRow w a xs)) (hy : Hid (IRow w b ys)) (hn : xs.length ≤ 65536) (r : Bool) (hr : Hid (same xs ys = r)) :
    Calls Ebqg.prog 6 #[.slice a xs.length c, .slice b ys.length d] w fun e w' => e = .returned (.bool r) ∧ Hid (Below w.heap.size w w') := by
  refine (W6.eqModel a b c d xs ys w hx hy hn).mono ?_
  rintro e w' ⟨rfl, n, rfl⟩
  exact ⟨by rw [hr.out], below_draws _ _⟩
theorem make (a : Option Addr) (c : Nat) (xs : List Int) (w : World) (hx : Hid (IRow w a xs)) (hn : xs.length ≤ 65536) :
    Calls Ebqg.prog 7 #[.slice a xs.length c] w fun e w' => ∃ p, e = .returned (.pointer (some ⟨p, 0, none⟩)) ∧ Hid (ArrI w' p xs) ∧ Hid (Below w.heap.size w w') := W7.mk a c xs w hx hn
theorem holds (p : Nat) (a : Option Addr) (c : Nat) (xs : List Int) (w : World) (hp : Hid (ArrI w p xs)) (hx : Hid (IRow w a xs)) (hn : xs.length ≤ 65536) :
    Calls Ebqg.prog 9 #[.pointer (some ⟨p, 0, none⟩), .slice a xs.length c] w fun e w' => e = .returned (.bool true) ∧ Hid (Below w.heap.size w w') := W9.holds p a c xs w hp hx hn

theorem laterI {w w' : World} {a : Option Addr} {xs : List Int} (h : Hid (IRow w a xs)) (hb : Hid (Below w.heap.size w w')) : Hid (IRow w' a xs) := IRow.later h hb
theorem laterA {w w' : World} {p : Nat} {xs : List Int} (h : Hid (ArrI w p xs)) (hb : Hid (Below w.heap.size w w')) : Hid (ArrI w' p xs) := ArrI.later h hb

/-- An immutable array over the same row. -/
theorem frozenTwin {w : World} {q g : Nat} {ys : List Int} (h : Hid (ArrI w q ys)) (hq : w.cell? ⟨q, 0, none⟩ = some (.slice (some ⟨g, 0, none⟩) ys.length ys.length)) :
    Hid (ArrI (w.alloc (.cells #[.slice (some ⟨g, 0, none⟩) ys.length ys.length] 34)) w.heap.size ys) ∧ Hid (Below w.heap.size w (w.alloc (.cells #[.slice (some ⟨g, 0, none⟩) ys.length ys.length] 34))) := by
  have hb : Below w.heap.size w (w.alloc (.cells #[.slice (some ⟨g, 0, none⟩) ys.length ys.length] 34)) := (Below.refl _ _).alloc (Nat.le_refl _) _
  obtain ⟨g', h1, h2⟩ := h.out
  rw [hq] at h1
  obtain rfl : g = g' := by simpa using h1
  refine ⟨⟨g, by simp, fun i hi => ?_⟩, hb⟩
  obtain ⟨p, hc, hp⟩ := h2 i hi
  exact ⟨p, cell_later hb hc, cell_later hb hp⟩

set_option maxHeartbeats 2000000 in
theorem small (a b : Option Addr) (c d : Nat) (xs ys : List Int) (w : World) (hnx : Hid (a = none → xs.length = 0 ∧ c = 0)) (hny : Hid (b = none → ys.length = 0 ∧ d = 0))
    (hx : Hid (IRow w a xs)) (hy : Hid (IRow w b ys)) (hn : xs.length ≤ 65536) (hm : ys.length ≤ 65536) :
    Calls Ebqg.prog 3 #[.slice a xs.length c, .slice b ys.length d] w fun e w' => e = .returned (.bool true) ∧ Below w.heap.size w w' := by
  obtain ⟨r, hr⟩ : ∃ r, Hid (same xs ys = r) := ⟨_, rfl⟩
  have hr' : Hid (same ys xs = r) := (same_symm xs ys).trans hr
  have hr1 : Hid (same xs xs = true) := same_self xs
  go_enter Ebqg.func3, Ebqg.ntmps3
  go_wp2_with fail
  refine (bytes_any _ _ _ _ _ _ _ (by unfold maxLen; omega) (by unfold maxLen; omega)).mono ?_
  rintro e w0 ⟨t, rfl, rfl⟩
  cases t with
  | false =>
    go_wp2
    go_ret
    exact ⟨rfl, Below.refl _ _⟩
  | true =>
    go_wp2_with fail
    refine (cloneAny a c xs _ hnx.out hx hn).mono ?_
    rintro e w1 ⟨a1, c1, rfl, hx1, hb1⟩
    have t1 := hb1
    have hy1 := laterI hy hb1
    go_wp2_with fail
    refine (cloneAny b d ys _ hny.out hy1 hm).mono ?_
    rintro e w2 ⟨a2, c2, rfl, hy2, hb2⟩
    have t2 := onward t1 hb2.out
    have hx2 := laterI hx1 hb2
    go_wp2_with fail
    refine (model a1 a2 c1 c2 xs ys _ hx2 hy2 hn r hr).mono ?_
    rintro e w3 ⟨rfl, hb3⟩
    have t3 := onward t2 hb3.out
    have hx3 := laterI hx2 hb3
    have hy3 := laterI hy2 hb3
    go_wp2_with fail
    refine (make a1 c1 xs _ hx3 hn).mono ?_
    rintro e w4 ⟨p, rfl, hp4, hb4⟩
    have t4 := onward t3 hb4.out
    have hx4 := laterI hx3 hb4
    have hy4 := laterI hy3 hb4
    go_wp2_with fail
    refine (make a2 c2 ys _ hy4 hm).mono ?_
    rintro e w5 ⟨q, rfl, hq5, hb5⟩
    have t5 := onward t4 hb5.out
    have hx5 := laterI hx4 hb5
    have hy5 := laterI hy4 hb5
    have hp5 := laterA hp4 hb5
    clear hx hy hx1 hy1 hx2 hy2 hx3 hy3 hx4 hy4 hp4 hb1 hb2 hb3 hb4 hb5 t1 t2 t3 t4
    go_wp2_with fail
    refine (arrEq p q xs ys _ hp5 hq5 hn r hr).mono ?_
    rintro e w6 ⟨rfl, hb6⟩
    have t6 := onward t5 hb6.out
    have hx6 := laterI hx5 hb6
    have hy6 := laterI hy5 hb6
    have hp6 := laterA hp5 hb6
    have hq6 := laterA hq5 hb6
    clear hx5 hy5 hp5 hq5 t5 hb6
    go_wp2_with fail
    refine (arrEq q p ys xs _ hq6 hp6 hm r hr').mono ?_
    rintro e w7 ⟨rfl, hb7⟩
    have t7 := onward t6 hb7.out
    have hx7 := laterI hx6 hb7
    have hy7 := laterI hy6 hb7
    have hp7 := laterA hp6 hb7
    have hq7 := laterA hq6 hb7
    clear hx6 hy6 hp6 hq6 t6 hb7
    obtain ⟨g, hg, _⟩ := hq7.out
    obtain ⟨hi8, hb8⟩ := frozenTwin hq7 hg
    have t8 := onward t7 hb8.out
    have hx8 := laterI hx7 hb8
    have hy8 := laterI hy7 hb8
    have hp8 := laterA hp7 hb8
    have hq8 := laterA hq7 hb8
    clear hx7 hy7 hp7 hq7 t7 hb8
    go_wp2_with fail
    refine (immEq p _ xs ys _ hp8 hi8 hn r hr).mono ?_
    rintro e w9 ⟨rfl, hb9⟩
    have t9 := onward t8 hb9.out
    have hx9 := laterI hx8 hb9
    have hy9 := laterI hy8 hb9
    have hp9 := laterA hp8 hb9
    have hq9 := laterA hq8 hb9
    clear hx8 hy8 hp8 hq8 t8 hb9 hi8 hg
    go_wp2_with fail
    refine (arrEq p p xs xs _ hp9 hp9 hn true hr1).mono ?_
    rintro e w10 ⟨rfl, hb10⟩
    have t10 := onward t9 hb10.out
    have hx10 := laterI hx9 hb10
    have hy10 := laterI hy9 hb10
    have hp10 := laterA hp9 hb10
    have hq10 := laterA hq9 hb10
    clear hx9 hy9 hp9 hq9 t9 hb10
    go_wp2_with fail
    refine (holds p a1 c1 xs _ hp10 hx10 hn).mono ?_
    rintro e w11 ⟨rfl, hb11⟩
    have t11 := onward t10 hb11.out
    have hy11 := laterI hy10 hb11
    have hq11 := laterA hq10 hb11
    clear hx10 hy10 hp10 hq10 t10 hb11
    go_wp2_with fail
    refine (holds q a2 c2 ys _ hq11 hy11 hm).mono ?_
    rintro e w12 ⟨rfl, hb12⟩
    have t12 := onward t11 hb12.out
    go_wp2
    go_ret
    exact ⟨rfl, t12.out⟩
end Go.Proofs.Yoebqw.W3
