/-
  'zzBytes_..', function 4 (it looks at two lengths and answers a bool); 'eqModelB2', function 6.
-/
import Derived.Test.YoebqwRows
import Derived.Test.YoebqwLay
import Derived.BigQuiet
import Derived.WalkLawsBesides
namespace Go.Proofs.Yoebqw.W4
open Go.RowKit Go.Proofs.Yoebqw.Lay

set_option maxHeartbeats 400000 in
theorem bytes_any (a b : Option Addr) (n m c d : Nat) (w : World) (hn : n ≤ maxLen) (hm : m ≤ maxLen) :
    Calls Ebqg.prog 4 #[.slice a n c, .slice b m d] w fun e w' => ∃ r, e = .returned (.bool r) ∧ w' = w := by
  unfold maxLen at hn hm
  go_enter Ebqg.func4, Ebqg.ntmps4
  go_wp2
  all_goals (go_ret; exact ⟨_, rfl, rfl⟩)

/-- What eqModelB2 answers. -/
def same (xs ys : List Int) : Bool := decide (xs = ys)

theorem same_len (xs ys : List Int) (h : xs.length ≠ ys.length) : same xs ys = false := by
  unfold same; exact decide_eq_false fun e => h (by rw [e])
theorem same_at (xs ys : List Int) (k : Nat) (h : xs.getD k 0 ≠ ys.getD k 0) : same xs ys = false := by
  unfold same; exact decide_eq_false fun e => h (by rw [e])
theorem same_all (xs ys : List Int) (h : xs.length = ys.length) (hk : ∀ j, j < xs.length → xs.getD j 0 = ys.getD j 0) : same xs ys = true := by
  unfold same
  refine decide_eq_true (List.ext_getElem h fun i h1 h2 => ?_)
  have := hk i h1
  rw [← List.getElem_eq_getD (h := h1) 0, ← List.getElem_eq_getD (h := h2) 0] at this
  exact this

end Go.Proofs.Yoebqw.W4
