/-
  THE WALK of 'FnSettersLastWriteWins' where some length is above 4096.
-/
import Derived.Test.YoeecwCalls
import Derived.Deep.DeepCutAuto
namespace Go.Proofs.Yoeecw
open Go.RowKit

set_option maxRecDepth 100000 in
set_option maxHeartbeats 400000 in
/-- Some length is above 4096: nothing is tried, and the answer is true. -/
theorem walk_big (a0 a1 a2 a3 : Option Addr) (n0 c0 n1 c1 n2 c2 n3 c3 : Nat) (w : World) (h0 : n0 ≤ maxLen) (h1 : n1 ≤ maxLen) (h2 : n2 ≤ maxLen) (h3 : n3 ≤ maxLen)
    (hbig : ¬ (n0 ≤ 4096 ∧ n1 ≤ 4096 ∧ n2 ≤ 4096 ∧ n3 ≤ 4096)) :
    Calls Eecg.prog 3 #[.slice a0 n0 c0, .slice a1 n1 c1, .slice a2 n2 c2, .slice a3 n3 c3] w fun e w' => e = .returned (.bool true) ∧ Below w.heap.size w w' := by
  have HB : Hid (¬ (n0 ≤ 4096 ∧ n1 ≤ 4096 ∧ n2 ≤ 4096 ∧ n3 ≤ 4096)) := hbig
  clear hbig
  go_enter Eecg.func3, Eecg.ntmps3
  go_wp2_with fail
  refine (bytes_any a0 a1 a2 a3 n0 c0 n1 c1 n2 c2 n3 c3 _ h0 h1 h2 h3).mono ?_
  rintro e w' ⟨r, rfl, _, rfl⟩
  cases r
  · go_wp2_with fail
    go_ret
    exact ⟨rfl, Below.refl _ _⟩
  · unfold maxLen at h0 h1 h2 h3
    by_cases g0 : (4096 : Int) < (n0 : Int)
    · go_wp2_with fail
      go_ret
      exact ⟨rfl, Below.refl _ _⟩
    · by_cases g1 : (4096 : Int) < (n1 : Int)
      · go_wp2_with fail
        go_ret
        exact ⟨rfl, Below.refl _ _⟩
      · by_cases g2 : (4096 : Int) < (n2 : Int)
        · go_wp2_with fail
          go_ret
          exact ⟨rfl, Below.refl _ _⟩
        · have g3 : (4096 : Int) < (n3 : Int) := by have := HB.out; omega
          go_wp2_with fail
          go_ret
          exact ⟨rfl, Below.refl _ _⟩

end Go.Proofs.Yoeecw
