/-
  THE CALLEES of 'FnSettersLastWriteWins', a contract each.
-/
import Derived.Test.YoeecwRows
import Derived.Test.YoeecwPlain
import Derived.WalkKit
import Derived.WalkSpells
import Derived.WalkLawsBesides
namespace Go.Proofs.Yoeecw
open Go.RowKit

/-- A slice of n elements, nil or not, whose element i is V i. -/
def Arr (w : World) (a : Option Addr) (n : Nat) (V : Nat → Value) : Prop :=
  ∀ i, i < n → ∃ b off, a = some ⟨b, off, none⟩ ∧ w.cell? ⟨b, off + i, none⟩ = some (V i)

/-- The Script in block S holds these settings, its import directory is empty, and the three cells can be written. -/
structure Script (S : Nat) (w : World) (x y : Int) (f : Bool) : Prop where
  ca : w.cell? ⟨S, 3, none⟩ = some (.int .i64 x)
  cc : w.cell? ⟨S, 4, none⟩ = some (.int .i64 y)
  cf : w.cell? ⟨S, 5, none⟩ = some (.bool f)
  cd : w.cell? ⟨S, 6, none⟩ = some (.string ByteArray.empty)
  fa : w.frozen? ⟨S, 3, none⟩ = false
  fc : w.frozen? ⟨S, 4, none⟩ = false
  ff : w.frozen? ⟨S, 5, none⟩ = false

set_option maxHeartbeats 400000 in
theorem newScript_any (w : World) :
    Calls Eecg.prog 5 #[.slice none 0 0] w fun e w' => e = .returned (.pointer (some ⟨w.heap.size + 1, 0, none⟩)) ∧ Script (w.heap.size + 1) w' (-1) (-1) false ∧ Below w.heap.size w w' := by
  have hmm := @run_makeMap Eecg.prog
  go_enter Eecg.func5, Eecg.ntmps5
  go_wp2
  go_ret
  refine ⟨rfl, ⟨?_, ?_, ?_, ?_, ?_, ?_, ?_⟩, ((Below.refl _ _).alloc (Nat.le_refl _) _).alloc (by simp) _⟩
  all_goals go_simp
  rfl

theorem Script.setA {S : Nat} {w : World} {x y : Int} {f : Bool} (h : Script S w x y f) (v : Int) : Script S (w.setCell ⟨S, 3, none⟩ (.int .i64 v)) v y f := by
  obtain ⟨ca, cc, cf, cd, fa, fc, ff⟩ := h
  refine ⟨?_, ?_, ?_, ?_, ?_, ?_, ?_⟩
  all_goals go_simp

theorem Script.setC {S : Nat} {w : World} {x y : Int} {f : Bool} (h : Script S w x y f) (v : Int) : Script S (w.setCell ⟨S, 4, none⟩ (.int .i64 v)) x v f := by
  obtain ⟨ca, cc, cf, cd, fa, fc, ff⟩ := h
  refine ⟨?_, ?_, ?_, ?_, ?_, ?_, ?_⟩
  all_goals go_simp

theorem Script.setF {S : Nat} {w : World} {x y : Int} {f : Bool} (h : Script S w x y f) (v : Bool) : Script S (w.setCell ⟨S, 5, none⟩ (.bool v)) x y v := by
  obtain ⟨ca, cc, cf, cd, fa, fc, ff⟩ := h
  refine ⟨?_, ?_, ?_, ?_, ?_, ?_, ?_⟩
  all_goals go_simp

set_option maxHeartbeats 400000 in
theorem setAllocs_any (b : Nat) (v x : Int) (w : World) (hc : w.cell? ⟨b, 3, none⟩ = some (.int .i64 x)) (hf : w.frozen? ⟨b, 3, none⟩ = false) :
    Calls Eecg.prog 6 #[.pointer (some ⟨b, 0, none⟩), .int .i64 v] w fun e w' => e = .returned (.tuple #[]) ∧ w' = w.setCell ⟨b, 3, none⟩ (.int .i64 v) := by
  go_enter Eecg.func6, Eecg.ntmps6
  go_wp2
  go_end0
  exact ⟨rfl, rfl⟩

set_option maxHeartbeats 400000 in
theorem setConsts_any (b : Nat) (v x : Int) (w : World) (hc : w.cell? ⟨b, 4, none⟩ = some (.int .i64 x)) (hf : w.frozen? ⟨b, 4, none⟩ = false) :
    Calls Eecg.prog 7 #[.pointer (some ⟨b, 0, none⟩), .int .i64 v] w fun e w' => e = .returned (.tuple #[]) ∧ w' = w.setCell ⟨b, 4, none⟩ (.int .i64 v) := by
  go_enter Eecg.func7, Eecg.ntmps7
  go_wp2
  go_end0
  exact ⟨rfl, rfl⟩

set_option maxHeartbeats 400000 in
theorem setImport_any (b : Nat) (v x : Bool) (w : World) (hc : w.cell? ⟨b, 5, none⟩ = some (.bool x)) (hf : w.frozen? ⟨b, 5, none⟩ = false) :
    Calls Eecg.prog 8 #[.pointer (some ⟨b, 0, none⟩), .bool v] w fun e w' => e = .returned (.tuple #[]) ∧ w' = w.setCell ⟨b, 5, none⟩ (.bool v) := by
  go_enter Eecg.func8, Eecg.ntmps8
  go_wp2
  go_end0
  exact ⟨rfl, rfl⟩

set_option maxHeartbeats 400000 in
theorem getAllocs_any (b : Nat) (x : Int) (w : World) (hc : w.cell? ⟨b, 3, none⟩ = some (.int .i64 x)) :
    Calls Eecg.prog 10 #[.pointer (some ⟨b, 0, none⟩)] w fun e w' => e = .returned (.int .i64 x) ∧ w' = w := by
  go_enter Eecg.func10, Eecg.ntmps10
  go_wp2
  go_ret
  exact ⟨rfl, rfl⟩

set_option maxHeartbeats 400000 in
theorem getConsts_any (b : Nat) (x : Int) (w : World) (hc : w.cell? ⟨b, 4, none⟩ = some (.int .i64 x)) :
    Calls Eecg.prog 11 #[.pointer (some ⟨b, 0, none⟩)] w fun e w' => e = .returned (.int .i64 x) ∧ w' = w := by
  go_enter Eecg.func11, Eecg.ntmps11
  go_wp2
  go_ret
  exact ⟨rfl, rfl⟩

set_option maxHeartbeats 400000 in
theorem getImport_any (b : Nat) (x : Bool) (w : World) (hc : w.cell? ⟨b, 5, none⟩ = some (.bool x)) :
    Calls Eecg.prog 12 #[.pointer (some ⟨b, 0, none⟩)] w fun e w' => e = .returned (.bool x) ∧ w' = w := by
  go_enter Eecg.func12, Eecg.ntmps12
  go_wp2
  go_ret
  exact ⟨rfl, rfl⟩

set_option maxHeartbeats 400000 in
theorem getDir_any (b : Nat) (w : World) (hc : w.cell? ⟨b, 6, none⟩ = some (.string ByteArray.empty)) :
    Calls Eecg.prog 13 #[.pointer (some ⟨b, 0, none⟩)] w fun e w' => e = .returned (.string ByteArray.empty) ∧ w' = w := by
  go_enter Eecg.func13, Eecg.ntmps13
  go_wp2
  go_ret
  exact ⟨rfl, rfl⟩

set_option maxHeartbeats 400000 in
theorem bytes_any (a0 a1 a2 a3 : Option Addr) (n0 c0 n1 c1 n2 c2 n3 c3 : Nat) (w : World) (h0 : n0 ≤ maxLen) (h1 : n1 ≤ maxLen) (h2 : n2 ≤ maxLen) (h3 : n3 ≤ maxLen) :
    Calls Eecg.prog 4 #[.slice a0 n0 c0, .slice a1 n1 c1, .slice a2 n2 c2, .slice a3 n3 c3] w fun e w' => ∃ r, e = .returned (.bool r) ∧ (n0 ≤ 4096 ∧ n1 ≤ 4096 ∧ n2 ≤ 4096 ∧ n3 ≤ 4096 → r = true) ∧ w' = w := by
  unfold maxLen at h0 h1 h2 h3
  go_enter Eecg.func4, Eecg.ntmps4
  go_wp2
  all_goals (go_ret; refine ⟨_, rfl, ?_, rfl⟩; intro hh; first | rfl | (exfalso; omega))

theorem ret_int {k : IntKind} {a b : Int} (h : a = b) : Ending.returned (.int k a) = .returned (.int k b) := by rw [h]

set_option maxHeartbeats 400000 in
theorem lastOf_any (a : Option Addr) (n c : Nat) (o : Nat → Int) (kind : Int) (w : World) (hn : n ≤ maxLen) (ho : Arr w a n fun i => .int .u8 (o i)) (hr : ∀ i, i < n → 0 ≤ o i ∧ o i ≤ 255) :
    Calls Eecg.prog 9 #[.slice a n c, .int .u8 kind] w fun e w' => e = .returned (.int .i64 (lastIdx o kind n)) ∧ w' = w := by
  unfold maxLen at hn
  go_enter Eecg.func9, Eecg.ntmps9
  go_wp2
  go_loop [5] (fun i => ∃ k : Nat, k ≤ n ∧ i = .int .i64 ((k : Int) - 1) ∧ Hid (lastIdx o kind n = lastIdx o kind k)) (fun i => (intOf i + 1).toNat)
  case atStart => exact ⟨n, Nat.le_refl _, rfl, rfl⟩
  case round =>
    obtain ⟨k, hk, rfl, HL⟩ := hrel
    cases k with
    | zero =>
      go_wp2
      go_ret
      exact ⟨ret_int (by rw [HL.out]; rfl), rfl⟩
    | succ k =>
      obtain ⟨b, off, rfl, hc⟩ := ho k (by omega)
      have hrk := hr k (by omega)
      clear hr
      go_wp2
      · have hit : (o k % 4 == kind) = true := by assumption
        go_ret
        exact ⟨ret_int (by rw [HL.out, lastIdx_hit (beq_iff_eq.1 hit)]), rfl⟩
      · have miss : (o k % 4 == kind) = false := by assumption
        go_round
        case rel => exact ⟨k, by omega, rfl, by rw [HL.out, lastIdx_miss (beq_eq_false_iff_ne.1 miss)]; rfl⟩
        case measure => simp [intOf]

end Go.Proofs.Yoeecw
