/-
  THE WALK of 'FnSettersLastWriteWins' where every length is at most 4096.
-/
import Derived.Test.YoeecwWalk
namespace Go.Proofs.Yoeecw
open Go.RowKit

/-- What operation i writes: element i where there is one, else the zero value. -/
def orZ (n : Nat) (f : Nat → Int) (i : Nat) : Int := if i < n then f i else 0
def orF (n : Nat) (f : Nat → Bool) (i : Nat) : Bool := if i < n then f i else false

theorem Arr.later {w w' : World} {a : Option Addr} {n : Nat} {V : Nat → Value} (h : Arr w a n V) (hb : Below w.heap.size w w') : Arr w' a n V := fun i hi =>
  let ⟨b, off, e, hc⟩ := h i hi
  ⟨b, off, e, cell_later hb hc⟩

/-- What holds of the world at the head of round k: the three settings are what the first k operations made of them. -/
def Rel (w : World) (o : Nat → Int) (n1 n2 n3 : Nat) (al co : Nat → Int) (fl : Nat → Bool) (k : Nat) (wr : World) : Prop :=
  Script (w.heap.size + 1) wr (lastVal o 0 (-1) (orZ n1 al) k) (lastVal o 1 (-1) (orZ n2 co) k) (lastVal o 2 false (orF n3 fl) k) ∧ Below w.heap.size w wr

theorem Rel.hitA {w wr : World} {o al co : Nat → Int} {fl : Nat → Bool} {n1 n2 n3 k : Nat} {v : Int} (h : Rel w o n1 n2 n3 al co fl k wr) (hq : o k % 4 = 0) (hv : orZ n1 al k = v) :
    Rel w o n1 n2 n3 al co fl (k + 1) (wr.setCell ⟨w.heap.size + 1, 3, none⟩ (.int .i64 v)) := by
  obtain ⟨hS, hB⟩ := h
  refine ⟨?_, hB.setCell (Nat.le_succ _) _⟩
  rw [lastVal_hit hq, lastVal_miss (by omega), lastVal_miss (by omega), hv]
  exact hS.setA v
theorem Rel.hitC {w wr : World} {o al co : Nat → Int} {fl : Nat → Bool} {n1 n2 n3 k : Nat} {v : Int} (h : Rel w o n1 n2 n3 al co fl k wr) (hq : o k % 4 = 1) (hv : orZ n2 co k = v) :
    Rel w o n1 n2 n3 al co fl (k + 1) (wr.setCell ⟨w.heap.size + 1, 4, none⟩ (.int .i64 v)) := by
  obtain ⟨hS, hB⟩ := h
  refine ⟨?_, hB.setCell (Nat.le_succ _) _⟩
  rw [lastVal_miss (by omega), lastVal_hit hq, lastVal_miss (by omega), hv]
  exact hS.setC v
theorem Rel.hitF {w wr : World} {o al co : Nat → Int} {fl : Nat → Bool} {n1 n2 n3 k : Nat} {v : Bool} (h : Rel w o n1 n2 n3 al co fl k wr) (hq : o k % 4 = 2) (hv : orF n3 fl k = v) :
    Rel w o n1 n2 n3 al co fl (k + 1) (wr.setCell ⟨w.heap.size + 1, 5, none⟩ (.bool v)) := by
  obtain ⟨hS, hB⟩ := h
  refine ⟨?_, hB.setCell (Nat.le_succ _) _⟩
  rw [lastVal_miss (by omega), lastVal_miss (by omega), lastVal_hit hq, hv]
  exact hS.setF v
theorem Rel.miss {w wr : World} {o al co : Nat → Int} {fl : Nat → Bool} {n1 n2 n3 k : Nat} (h : Rel w o n1 n2 n3 al co fl k wr) (hq : o k % 4 = 3) :
    Rel w o n1 n2 n3 al co fl (k + 1) wr := by
  obtain ⟨hS, hB⟩ := h
  refine ⟨?_, hB⟩
  rw [lastVal_miss (by omega), lastVal_miss (by omega), lastVal_miss (by omega)]
  exact hS
theorem orZ_in {n : Nat} {f : Nat → Int} {i : Nat} (h : i < n) : orZ n f i = f i := by simp [orZ, h]
theorem orZ_out {n : Nat} {f : Nat → Int} {i : Nat} (h : ¬ i < n) : orZ n f i = 0 := by simp [orZ, h]
theorem orF_in {n : Nat} {f : Nat → Bool} {i : Nat} (h : i < n) : orF n f i = f i := by simp [orF, h]
theorem orF_out {n : Nat} {f : Nat → Bool} {i : Nat} (h : ¬ i < n) : orF n f i = false := by simp [orF, h]

set_option maxRecDepth 100000 in
set_option maxHeartbeats 4000000 in
theorem walk_small (a0 a1 a2 a3 : Option Addr) (n0 c0 n1 c1 n2 c2 n3 c3 : Nat) (o al co : Nat → Int) (fl : Nat → Bool) (w : World) (h0 : n0 ≤ 4096) (h1 : n1 ≤ 4096) (h2 : n2 ≤ 4096) (h3 : n3 ≤ 4096)
    (ho : Arr w a0 n0 fun i => .int .u8 (o i)) (hr : ∀ i, i < n0 → 0 ≤ o i ∧ o i ≤ 255) (hA : Arr w a1 n1 fun i => .int .i64 (al i)) (hC : Arr w a2 n2 fun i => .int .i64 (co i)) (hF : Arr w a3 n3 fun i => .bool (fl i)) :
    Calls Eecg.prog 3 #[.slice a0 n0 c0, .slice a1 n1 c1, .slice a2 n2 c2, .slice a3 n3 c3] w fun e w' => e = .returned (.bool true) ∧ Below w.heap.size w w' := by
  have hm : ∀ n, n ≤ 4096 → n ≤ maxLen := fun n h => by unfold maxLen; omega
  have g0 : ¬ (4096 : Int) < (n0 : Int) := by omega
  have g1 : ¬ (4096 : Int) < (n1 : Int) := by omega
  have g2 : ¬ (4096 : Int) < (n2 : Int) := by omega
  have g3 : ¬ (4096 : Int) < (n3 : Int) := by omega
  go_enter Eecg.func3, Eecg.ntmps3
  go_wp2_with fail
  refine (bytes_any a0 a1 a2 a3 n0 c0 n1 c1 n2 c2 n3 c3 _ (hm _ h0) (hm _ h1) (hm _ h2) (hm _ h3)).mono ?_
  rintro e w' ⟨r, rfl, hrt, rfl⟩
  obtain rfl := hrt ⟨h0, h1, h2, h3⟩
  clear hrt
  go_wp2_with fail
  refine (newScript_any _).mono ?_
  rintro e ws ⟨rfl, hS, hB⟩
  have HS : Hid (Rel w' o n1 n2 n3 al co fl 0 ws) := ⟨hS, hB⟩
  clear hS hB
  go_wp2_with fail
  go_loopw [10] (fun i wr => ∃ k : Nat, k ≤ n0 ∧ i = .int .i64 k ∧ Hid (Rel w' o n1 n2 n3 al co fl k wr)) (fun i _ => n0 - (intOf i).toNat)
  case atStart => exact ⟨0, Nat.zero_le _, rfl, HS⟩
  case round =>
    obtain ⟨k, hk, rfl, HR⟩ := hrel
    clear HS
    by_cases hlt : k < n0
    · obtain ⟨b0, off0, rfl, hc0⟩ := (ho.later HR.out.2) k hlt
      have hrk := hr k hlt
      clear hr ho
      have hq : o k % 4 = 0 ∨ o k % 4 = 1 ∨ o k % 4 = 2 ∨ o k % 4 = 3 := by omega
      rcases hq with hq | hq | hq | hq
      · have e0 : (o k % 4 == 0) = true := beq_iff_eq.2 hq
        have Hq : Hid (o k % 4 = 0) := hq
        clear hq hC hF
        by_cases hin : k < n1
        · obtain ⟨b1, off1, rfl, hc1⟩ := (hA.later HR.out.2) k hin
          clear hA
          go_wp2_with fail
          refine (setAllocs_any (w'.heap.size + 1) _ _ _ HR.out.1.ca HR.out.1.fa).mono ?_
          rintro e w1 ⟨rfl, rfl⟩
          go_wp2_with fail
          go_roundw
          case rel => exact ⟨k + 1, by omega, by go_num, HR.out.hitA Hq.out (orZ_in hin)⟩
          case measure => simp [intOf]; omega
        · clear hA
          go_wp2_with fail
          refine (setAllocs_any (w'.heap.size + 1) _ _ _ HR.out.1.ca HR.out.1.fa).mono ?_
          rintro e w1 ⟨rfl, rfl⟩
          go_wp2_with fail
          go_roundw
          case rel => exact ⟨k + 1, by omega, by go_num, HR.out.hitA Hq.out (orZ_out hin)⟩
          case measure => simp [intOf]; omega
      · have e0 : (o k % 4 == 0) = false := beq_eq_false_iff_ne.2 (by omega)
        have e1 : (o k % 4 == 1) = true := beq_iff_eq.2 hq
        have Hq : Hid (o k % 4 = 1) := hq
        clear hq hA hF
        by_cases hin : k < n2
        · obtain ⟨b2, off2, rfl, hc2⟩ := (hC.later HR.out.2) k hin
          clear hC
          go_wp2_with fail
          refine (setConsts_any (w'.heap.size + 1) _ _ _ HR.out.1.cc HR.out.1.fc).mono ?_
          rintro e w1 ⟨rfl, rfl⟩
          go_wp2_with fail
          go_roundw
          case rel => exact ⟨k + 1, by omega, by go_num, HR.out.hitC Hq.out (orZ_in hin)⟩
          case measure => simp [intOf]; omega
        · clear hC
          go_wp2_with fail
          refine (setConsts_any (w'.heap.size + 1) _ _ _ HR.out.1.cc HR.out.1.fc).mono ?_
          rintro e w1 ⟨rfl, rfl⟩
          go_wp2_with fail
          go_roundw
          case rel => exact ⟨k + 1, by omega, by go_num, HR.out.hitC Hq.out (orZ_out hin)⟩
          case measure => simp [intOf]; omega
      · have e0 : (o k % 4 == 0) = false := beq_eq_false_iff_ne.2 (by omega)
        have e1 : (o k % 4 == 1) = false := beq_eq_false_iff_ne.2 (by omega)
        have e2 : (o k % 4 == 2) = true := beq_iff_eq.2 hq
        have Hq : Hid (o k % 4 = 2) := hq
        clear hq hA hC
        by_cases hin : k < n3
        · obtain ⟨b3, off3, rfl, hc3⟩ := (hF.later HR.out.2) k hin
          clear hF
          go_wp2_with fail
          refine (setImport_any (w'.heap.size + 1) _ _ _ HR.out.1.cf HR.out.1.ff).mono ?_
          rintro e w1 ⟨rfl, rfl⟩
          go_wp2_with fail
          go_roundw
          case rel => exact ⟨k + 1, by omega, by go_num, HR.out.hitF Hq.out (orF_in hin)⟩
          case measure => simp [intOf]; omega
        · clear hF
          go_wp2_with fail
          refine (setImport_any (w'.heap.size + 1) _ _ _ HR.out.1.cf HR.out.1.ff).mono ?_
          rintro e w1 ⟨rfl, rfl⟩
          go_wp2_with fail
          go_roundw
          case rel => exact ⟨k + 1, by omega, by go_num, HR.out.hitF Hq.out (orF_out hin)⟩
          case measure => simp [intOf]; omega
      · have e0 : (o k % 4 == 0) = false := beq_eq_false_iff_ne.2 (by omega)
        have e1 : (o k % 4 == 1) = false := beq_eq_false_iff_ne.2 (by omega)
        have e2 : (o k % 4 == 2) = false := beq_eq_false_iff_ne.2 (by omega)
        have Hq : Hid (o k % 4 = 3) := hq
        clear hq hA hC hF
        go_wp2_with fail
        go_roundw
        case rel => exact ⟨k + 1, by omega, by go_num, HR.out.miss Hq.out⟩
        case measure => simp [intOf]; omega
    · obtain rfl : k = n0 := by omega
      clear hk hlt
      go_wp2_with fail
      refine (lastOf_any a0 k c0 o 0 _ (hm _ h0) (ho.later HR.out.2) hr).mono ?_
      rintro e w1 ⟨rfl, rfl⟩
      go_upto_if 98 with fail
      go_cut [14, 15] (fun v _ wx => v = .int .i64 (lastVal o 0 (-1) (orZ n1 al) k) ∧ w1 = wx)
      case first =>
        have hj := lastIdx_range o 0 k
        clear hr ho hm hC hF h0 h1 h2 h3
        by_cases hneg : lastIdx o 0 k < 0
        · have HV : Hid (lastVal o 0 (-1) (orZ n1 al) k = -1) := lastVal_none _ _ _ _ _ hneg
          clear hA
          go_wp2_with fail
          go_meet
          exact ⟨by rw [HV.out], rfl⟩
        · obtain ⟨m, hmj⟩ : ∃ m : Nat, lastIdx o 0 k = (m : Int) := ⟨(lastIdx o 0 k).toNat, by omega⟩
          have HV : Hid (lastVal o 0 (-1) (orZ n1 al) k = orZ n1 al m) := lastVal_some _ _ _ _ _ _ hmj
          rw [hmj] at hj
          rw [hmj]
          clear hneg hmj
          by_cases hin : m < n1
          · obtain ⟨bj, offj, rfl, hcj⟩ := (hA.later HR.out.2) m hin
            clear hA
            go_wp2_with fail
            go_meet
            exact ⟨by rw [HV.out, orZ_in hin], rfl⟩
          · clear hA
            go_wp2_with fail
            go_meet
            exact ⟨by rw [HV.out, orZ_out (by omega)], rfl⟩
      case rest =>
      obtain ⟨rfl, rfl⟩ := hcut
      clear hA
      go_wp2_with fail
      refine (lastOf_any a0 k c0 o 1 _ (hm _ h0) (ho.later HR.out.2) hr).mono ?_
      rintro e w2 ⟨rfl, rfl⟩
      go_upto_if 110 with fail
      go_cut [16, 17] (fun v _ wx => v = .int .i64 (lastVal o 1 (-1) (orZ n2 co) k) ∧ w2 = wx)
      case first =>
        have hj := lastIdx_range o 1 k
        clear hr ho hm hF h0 h1 h2 h3
        by_cases hneg : lastIdx o 1 k < 0
        · have HV : Hid (lastVal o 1 (-1) (orZ n2 co) k = -1) := lastVal_none _ _ _ _ _ hneg
          clear hC
          go_wp2_with fail
          go_meet
          exact ⟨by rw [HV.out], rfl⟩
        · obtain ⟨m, hmj⟩ : ∃ m : Nat, lastIdx o 1 k = (m : Int) := ⟨(lastIdx o 1 k).toNat, by omega⟩
          have HV : Hid (lastVal o 1 (-1) (orZ n2 co) k = orZ n2 co m) := lastVal_some _ _ _ _ _ _ hmj
          rw [hmj] at hj
          rw [hmj]
          clear hneg hmj
          by_cases hin : m < n2
          · obtain ⟨bj, offj, rfl, hcj⟩ := (hC.later HR.out.2) m hin
            clear hC
            go_wp2_with fail
            go_meet
            exact ⟨by rw [HV.out, orZ_in hin], rfl⟩
          · clear hC
            go_wp2_with fail
            go_meet
            exact ⟨by rw [HV.out, orZ_out (by omega)], rfl⟩
      case rest =>
      obtain ⟨rfl, rfl⟩ := hcut
      clear hC
      go_wp2_with fail
      refine (lastOf_any a0 k c0 o 2 _ (hm _ h0) (ho.later HR.out.2) hr).mono ?_
      rintro e w3 ⟨rfl, rfl⟩
      go_upto_if 122 with fail
      go_cut [18, 19] (fun v _ wx => v = .bool (lastVal o 2 false (orF n3 fl) k) ∧ w3 = wx)
      case first =>
        have hj := lastIdx_range o 2 k
        clear hr ho hm  h0 h1 h2 h3
        by_cases hneg : lastIdx o 2 k < 0
        · have HV : Hid (lastVal o 2 false (orF n3 fl) k = false) := lastVal_none _ _ _ _ _ hneg
          clear hF
          go_wp2_with fail
          go_meet
          exact ⟨by rw [HV.out], rfl⟩
        · obtain ⟨m, hmj⟩ : ∃ m : Nat, lastIdx o 2 k = (m : Int) := ⟨(lastIdx o 2 k).toNat, by omega⟩
          have HV : Hid (lastVal o 2 false (orF n3 fl) k = orF n3 fl m) := lastVal_some _ _ _ _ _ _ hmj
          rw [hmj] at hj
          rw [hmj]
          clear hneg hmj
          by_cases hin : m < n3
          · obtain ⟨bj, offj, rfl, hcj⟩ := (hF.later HR.out.2) m hin
            clear hF
            go_wp2_with fail
            go_meet
            exact ⟨by rw [HV.out, orF_in hin], rfl⟩
          · clear hF
            go_wp2_with fail
            go_meet
            exact ⟨by rw [HV.out, orF_out (by omega)], rfl⟩
      case rest =>
      obtain ⟨rfl, rfl⟩ := hcut
      clear hF
      go_wp2_with fail
      clear hr ho hm h0 h1 h2 h3
      refine (getAllocs_any (w'.heap.size + 1) _ _ HR.out.1.ca).mono ?_
      rintro e w4 ⟨rfl, rfl⟩
      go_wp2_with fail
      refine (getConsts_any (w'.heap.size + 1) _ _ HR.out.1.cc).mono ?_
      rintro e w5 ⟨rfl, rfl⟩
      go_wp2_with fail
      refine (getImport_any (w'.heap.size + 1) _ _ HR.out.1.cf).mono ?_
      rintro e w6 ⟨rfl, rfl⟩
      go_wp2_with fail
      refine (getDir_any (w'.heap.size + 1) _ HR.out.1.cd).mono ?_
      rintro e w7 ⟨rfl, rfl⟩
      go_wp2_with fail
      go_ret
      exact ⟨rfl, HR.out.2⟩

end Go.Proofs.Yoeecw
