/-
  THE ARGUMENTS of 'FnSettersLastWriteWins' OPENED: a slice of integers and a slice of bools that came in, each said as 'Arr'.
-/
import Derived.Test.YoeecwCalls
import Derived.ProofKit
import Derived.Deep.Slices
namespace Go.Proofs.Yoeecw
open Go.ChangeShapes Go.WideShapes Go.ChangeAt Go.RowKit

/-- Elements that lie behind one another from x on, each in a cell that holds something, make an 'Arr'. -/
theorem arr_of {w : World} {x : Addr} {n : Nat} {V : Nat → Value} (h : ∀ i, i < n → w.cell? (x.add i) = some (V i)) : Arr w (some x) n V := by
  intro i hi
  have hc := h i hi
  obtain ⟨b, off, spot⟩ := x
  have hs : spot = none := by simpa [Addr.add] using World.cell?_spot (h 0 (by omega))
  subst hs
  exact ⟨b, off, rfl, by rw [← add_plain]; exact hc⟩

section
variable {H : Type} {enc : TypeId × Value → H} {P : Program} {w : World} {base : Nat} {held : Bool}

theorem open_arr_ints {t e : TypeId} {k : IntKind} {a : Option Addr} {len cap : Nat} {d : DataW H} {ps : List MemPlace} (ht : P.underlying t = some (.slice e)) (he : P.underlying e = some (.int k)) (hc : P.cellsOf e = 1)
    (h : DataW.Trod enc P w base (fun _ => true) held t (.slice a len cap) d ps) :
    ∃ o : Nat → Int, len ≤ maxLen ∧ (Arr w a len fun i => .int k (o i)) ∧ ∀ i, i < len → (Lit.int k (o i)).wf = true := by
  obtain ⟨fuel, hf⟩ := h
  rcases open_ints ht he hc hf with ⟨hcs, _⟩ | ⟨x, l, c, zs, hcs, _, hl, hm, hz, _, hcell, hwz⟩
  · simp [Value.cells] at hcs
    obtain ⟨rfl, rfl, rfl⟩ := hcs
    exact ⟨fun _ => 0, Nat.zero_le _, fun i hi => absurd hi (Nat.not_lt_zero _), fun i hi => absurd hi (Nat.not_lt_zero _)⟩
  · simp [Value.cells] at hcs
    obtain ⟨rfl, rfl, rfl⟩ := hcs
    have hz' : zs.length = cap := by simpa using hz
    refine ⟨fun i => zs.getD i 0, Nat.le_trans hl hm, arr_of fun i hi => hcell i (by omega), fun i hi => ?_⟩
    have hi' : i < zs.length := by omega
    have e1 : zs.getD i 0 = zs[i] := by simp [List.getD, hi']
    show (Lit.int k (zs.getD i 0)).wf = true
    rw [e1]
    exact hwz _ (List.getElem_mem hi')

def boolOf : Value → Bool | .bool b => b | _ => false

theorem open_arr_bools {t e : TypeId} {a : Option Addr} {len cap : Nat} {d : DataW H} {ps : List MemPlace} (ht : P.underlying t = some (.slice e)) (he : P.underlying e = some .bool) (hc : P.cellsOf e = 1)
    (h : DataW.Trod enc P w base (fun _ => true) held t (.slice a len cap) d ps) :
    ∃ f : Nat → Bool, len ≤ maxLen ∧ Arr w a len fun i => .bool (f i) := by
  obtain ⟨fuel, hf⟩ := h
  rcases Deep.open_slice1 ht hc hf with ⟨hcs, _⟩ | ⟨x, l, c, m, n, V, D, Pl, hcs, _, hl, hm, hmm, _, hx⟩
  · simp [Value.cells] at hcs
    obtain ⟨rfl, rfl, rfl⟩ := hcs
    exact ⟨fun _ => false, Nat.zero_le _, fun i hi => absurd hi (Nat.not_lt_zero _)⟩
  · simp [Value.cells] at hcs
    obtain ⟨rfl, rfl, rfl⟩ := hcs
    simp only [if_true] at hmm
    refine ⟨fun i => boolOf (V i), Nat.le_trans hl hm, arr_of fun i hi => ?_⟩
    obtain ⟨h1, h2⟩ := hx i (by omega)
    obtain ⟨b, hb, _⟩ := DataW.trod_bool he h2
    have hv : V i = .bool b := by simpa using hb
    show _ = some (Value.bool (boolOf (V i)))
    rw [h1, hv]
    rfl
end

end Go.Proofs.Yoeecw
