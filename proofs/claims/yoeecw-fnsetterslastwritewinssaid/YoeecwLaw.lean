/-
  'Rows.FnSettersLastWriteWinsSaid' PROVED. The row's step after the shell that proof-skeleton.mjs writes for a law over slices; the slice of bools is opened by YoeecwOpen.
-/
import Derived.Test.YoeecwRows
import Derived.Test.YoeecwMain
import Derived.Test.YoeecwOpen
import Derived.WalkKit
import Derived.ProofKit
import Derived.ShutString
import Derived.ChangeOld
import Derived.Below
namespace Go.Proofs.Yoeecw
open Go.ChangeShapes Go.WideShapes Go.ChangeAt Go.RowKit

theorem own : ownKnob Eecg.prog.godebug = none := by kernel_rfl
theorem laidOut : laidOutB Eecg.prog = true := by kernel_rfl

theorem byte_bounds {n : Int} (h : (Lit.int .u8 n).wf = true) : 0 ≤ n ∧ n ≤ 255 := by
  simp [Lit.wf, IntKind.min, IntKind.max, IntKind.signed, IntKind.bits] at h
  omega

/-- One argument more, read ahead of the others. -/
theorem more_trod {H : Type} {enc : TypeId × Value → H} {P : Program} {w : World} {base : Nat} {spare : Nat → Bool} {held : Bool} {t : TypeId} {ts : List TypeId} {v : Value} {vs : List Value} {d : DataW H} {ds : List (DataW H)} {p q : List MemPlace}
    (h : DataW.Trod enc P w base spare held t v d p) (hs : DataW.TrodAll enc P w base spare held ts vs ds q) : DataW.TrodAll enc P w base spare held (t :: ts) (v :: vs) (d :: ds) (p ++ q) :=
  ⟨p, q, h, hs, rfl⟩

/-- The Go text returns true, and writes nothing that was there. -/
theorem walk (a0 a1 a2 a3 : Option Addr) (n0 c0 n1 c1 n2 c2 n3 c3 : Nat) (o al co : Nat → Int) (fl : Nat → Bool) (w : World) (h0 : n0 ≤ maxLen) (h1 : n1 ≤ maxLen) (h2 : n2 ≤ maxLen) (h3 : n3 ≤ maxLen)
    (ho : Arr w a0 n0 fun i => .int .u8 (o i)) (hr : ∀ i, i < n0 → 0 ≤ o i ∧ o i ≤ 255) (hA : Arr w a1 n1 fun i => .int .i64 (al i)) (hC : Arr w a2 n2 fun i => .int .i64 (co i)) (hF : Arr w a3 n3 fun i => .bool (fl i)) :
    Calls Eecg.prog 3 #[.slice a0 n0 c0, .slice a1 n1 c1, .slice a2 n2 c2, .slice a3 n3 c3] w fun e w' => e = .returned (.bool true) ∧ Below w.heap.size w w' := by
  by_cases hs : n0 ≤ 4096 ∧ n1 ≤ 4096 ∧ n2 ≤ 4096 ∧ n3 ≤ 4096
  · exact walk_small a0 a1 a2 a3 n0 c0 n1 c1 n2 c2 n3 c3 o al co fl w hs.1 hs.2.1 hs.2.2.1 hs.2.2.2 ho hr hA hC hF
  · exact walk_big a0 a1 a2 a3 n0 c0 n1 c1 n2 c2 n3 c3 w h0 h1 h2 h3 hs

set_option maxRecDepth 100000 in
theorem lifted (os : Os) (started : os.Started) (H : Type) (enc : TypeId × Value → H) :
    ReturnsInHanded {} Eecg.checked os 3 .any (Rows.fnSettersLastWriteWinsSpec.pre6 enc Eecg.prog Eecg.f3 Rows.fnSettersLastWriteWinsRow.domain false) (Rows.fnSettersLastWriteWinsSpec.post enc Eecg.prog Eecg.f3 false true false false) := by
  refine returnsInHanded_of_change (C := Eecg.checked) own started (by kernel_rfl) Eecg.func3
    (ChangeSpec.witness6 (enc := enc) (C := Eecg.checked) false ⟨#[], #[.slice none 0 0, .slice none 0 0, .slice none 0 0, .slice none 0 0], []⟩ 8 (by kernel_rfl) (by kernel_rfl) (by kernel_rfl) (by kernel_rfl)) ?_
  intro W base args ds gs before hval0 hW hcnd _
  have hval : ∀ (j : Nat) t v, Eecg.f3.params[j]? = some t → args[j]? = some v → Value.okWide Eecg.prog W .any base t v := hval0
  have hW' := hW
  obtain ⟨p, q, hA0, hV, rfl, hfz, hnd⟩ := hW
  have hA : DataW.TrodAll enc Eecg.prog W 0 (fun _ => true) true Eecg.f3.params.toList args.toList ds p := hA0
  rw [Eecg.params3] at hA hval
  obtain ⟨v0, vs0, d0, ds0, p0, q0, hargs, rfl, rfl, h0, r0⟩ := trodAll_cons hA
  obtain ⟨v1, vs1, d1, ds1, p1, q1, rfl, rfl, rfl, h1, r1⟩ := trodAll_cons r0
  obtain ⟨v2, vs2, d2, ds2, p2, q2, rfl, rfl, rfl, h2, r2⟩ := trodAll_cons r1
  obtain ⟨v3, vs3, d3, ds3, p3, q3, rfl, rfl, rfl, h3, r3⟩ := trodAll_cons r2
  obtain ⟨rfl, rfl, rfl⟩ := trodAll_nil r3
  obtain rfl : args = #[v0, v1, v2, v3] := by cases args; simp_all
  obtain ⟨rfl, rfl⟩ := trodVars_none hV
  obtain ⟨a0, len0, cap0, rfl⟩ := okWide_slice Eecg.underlying22 (hval 0 22 v0 rfl rfl)
  obtain ⟨a1, len1, cap1, rfl⟩ := okWide_slice Eecg.underlying23 (hval 1 23 v1 rfl rfl)
  obtain ⟨a2, len2, cap2, rfl⟩ := okWide_slice Eecg.underlying24 (hval 2 24 v2 rfl rfl)
  obtain ⟨a3, len3, cap3, rfl⟩ := okWide_slice Eecg.underlying25 (hval 3 25 v3 rfl rfl)
  have lt0 : ∀ x ∈ p0, x.block < W.heap.size := by obtain ⟨m, hm⟩ := h0; exact DataW.trod_lt m _ _ _ hm
  have lt1 : ∀ x ∈ p1, x.block < W.heap.size := by obtain ⟨m, hm⟩ := h1; exact DataW.trod_lt m _ _ _ hm
  have lt2 : ∀ x ∈ p2, x.block < W.heap.size := by obtain ⟨m, hm⟩ := h2; exact DataW.trod_lt m _ _ _ hm
  have lt3 : ∀ x ∈ p3, x.block < W.heap.size := by obtain ⟨m, hm⟩ := h3; exact DataW.trod_lt m _ _ _ hm
  obtain ⟨o, l0, ho, wo⟩ := open_arr_ints Eecg.underlying22 Eecg.underlying5 (by kernel_rfl) h0
  obtain ⟨al, l1, hal, _⟩ := open_arr_ints Eecg.underlying23 Eecg.underlying2 (by kernel_rfl) h1
  obtain ⟨co, l2, hco, _⟩ := open_arr_ints Eecg.underlying24 Eecg.underlying3 (by kernel_rfl) h2
  obtain ⟨fl, l3, hfl⟩ := open_arr_bools Eecg.underlying25 Eecg.underlying4 (by kernel_rfl) h3
  clear hA0 hval0
  refine (walk a0 a1 a2 a3 len0 cap0 len1 cap1 len2 cap2 len3 cap3 o al co fl W l0 l1 l2 l3 ho (fun i hi => byte_bounds (wo i hi)) hal hco hfl).mono fun e W' ⟨he, bel⟩ => ?_
  subst he
  exact ⟨_, rfl, _, _, _, [], _, [], hW', trodAll_mk1 (shut_bool Eecg.underlying4 _), (more_trod (Below.trod laidOut (by kernel_rfl) (of_decide_eq_true (by kernel_rfl)) h0 bel lt0) (more_trod (Below.trod laidOut (by kernel_rfl) (of_decide_eq_true (by kernel_rfl)) h1 bel lt1) (more_trod (Below.trod laidOut (by kernel_rfl) (of_decide_eq_true (by kernel_rfl)) h2 bel lt2) (more_trod (Below.trod laidOut (by kernel_rfl) (of_decide_eq_true (by kernel_rfl)) h3 bel lt3) trodAll_mk0)))), rfl, bel.frame _, fun h => by cases h⟩

theorem over : Rows.fnSettersLastWriteWinsRow.holds Eecg.pinned (OpenSpec.ofChange Rows.fnSettersLastWriteWinsSpec) :=
  OpenClaim.holds_of_wide 3 Eecg.f3 rfl rfl rfl rfl rfl rfl rfl ⟨rfl, rfl, rfl, rfl, rfl⟩ rfl rfl rfl rfl rfl (by kernel_rfl) Eecg.func3 (by kernel_rfl)
    (of_decide_eq_true (by kernel_rfl)) (by unfold Func.isWrapper; first | (rw [if_pos (by decide +kernel)]; kernel_rfl) | (rw [if_neg (by decide +kernel)]; exact ⟨rfl, rfl⟩))
    (fun os started H enc _ => lifted os started H enc)

/-- THE STATEMENT. -/
theorem fnSettersLastWriteWins_proved : Rows.FnSettersLastWriteWinsSaid := over

end Go.Proofs.Yoeecw
