/-
  '(*Int).Equals', function 29, at another *Int.
-/
import Derived.Test.YoebqwRows
import Derived.Test.YoebqwLay
import Derived.BigQuiet
import Derived.WalkLawsBesides
namespace Go.Proofs.Yoebqw.W29
open Go.RowKit

theorem assert36 (v : Value) (w : World) : (Instr.typeAssert (.iface 36 v) 40 36 true).run Ebqg.prog w = .ok (.tuple #[v, .bool true]) w := by kernel_rfl

/-- The method 'Equals' behind an interface value that holds a *Int: function 29; no nil receiver ahead. -/
theorem nilAhead36 (a : Addr) (w : World) : (nilAhead 172 36 (.pointer (some a)) "Equals").run Ebqg.prog w = .ok (some false) w := by kernel_rfl
theorem method36 (a : Addr) (w : World) : (method 172 36 (.pointer (some a)) "Equals").run Ebqg.prog w = .ok (29, .pointer (some a)) w := by kernel_rfl

set_option maxHeartbeats 400000 in
theorem intEq (p q : Nat) (x y : Int) (w : World) (hp : w.cell? ⟨p, 0, none⟩ = some (.int .i64 x)) (hq : w.cell? ⟨q, 0, none⟩ = some (.int .i64 y)) :
    Calls Ebqg.prog 29 #[.pointer (some ⟨p, 0, none⟩), .iface 36 (.pointer (some ⟨q, 0, none⟩))] w fun e w' => e = .returned (.bool (x == y)) ∧ ∃ n, w' = w.drewN n := by
  have ha := assert36
  go_enter Ebqg.func29, Ebqg.ntmps29
  go_wp2
  go_quiet (fail)
  go_wp2
  go_ret
  exact ⟨rfl, _, rfl⟩
end Go.Proofs.Yoebqw.W29
