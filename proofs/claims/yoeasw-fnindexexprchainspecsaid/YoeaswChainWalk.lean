/-
  The walk of FnIndexExprChainSpec, whole: it returns true; nothing that was there has turned.
-/
import Derived.Test.YoeaswTail4
import Derived.Deep.CutRange
import Derived.Deep.LoopGhost
import Derived.Deep.DeepCutAuto
namespace Go.Proofs.Yoeasw
open Go.RowKit

set_option maxHeartbeats 1000000 in
set_option maxRecDepth 100000 in
theorem chain_none (a0 : ByteArray) (a1 : Int) (ai : Option Addr) (ci : Nat) (ar : Option Addr) (lr cr : Nat) (h0 : a0.size ≤ maxLen) (hr : lr ≤ maxLen) (w : World) :
    Calls Easg.prog 3 #[.string a0, .int .i64 a1, .slice ai 0 ci, .slice ar lr cr] w fun e w' => e = .returned (.bool true) ∧ Below w.heap.size w w' := by
  by_cases hfit : a0.size + 0 + 0 + lr ≤ 1048576
  · by_cases hlr : lr ≤ 65536
    · have d1 : decide ((1048576 : Int) < (a0.size : Int)) = false := by rw [decide_eq_false_iff_not]; omega
      have d3 : decide ((65536 : Int) < (lr : Int)) = false := by rw [decide_eq_false_iff_not]; omega
      go_enter Easg.func3, Easg.ntmps3
      go_wp2_with fail
      refine (bytesChain_none a0 a1 ai ci ar lr cr h0 hr _).mono ?_
      rintro e w' ⟨rfl, rfl⟩
      rw [show fits a0.size 0 0 lr = true from decide_eq_true hfit]
      go_wp2_with fail
      refine wp_loop_rounds 1 ?_
      rw [rounds_succ]
      go_wp2_with fail
      all_goals
        go_ret
        exact ⟨rfl, Below.refl _ _⟩
    · have d1 : decide ((1048576 : Int) < (a0.size : Int)) = false := by rw [decide_eq_false_iff_not]; omega
      have d3 : decide ((65536 : Int) < (lr : Int)) = true := by rw [decide_eq_true_iff]; omega
      go_enter Easg.func3, Easg.ntmps3
      go_wp2_with fail
      refine (bytesChain_none a0 a1 ai ci ar lr cr h0 hr _).mono ?_
      rintro e w' ⟨rfl, rfl⟩
      rw [show fits a0.size 0 0 lr = true from decide_eq_true hfit]
      go_wp2_with fail
      go_ret
      exact ⟨rfl, Below.refl _ _⟩
  · go_enter Easg.func3, Easg.ntmps3
    go_wp2_with fail
    refine (bytesChain_none a0 a1 ai ci ar lr cr h0 hr _).mono ?_
    rintro e w' ⟨rfl, rfl⟩
    rw [show fits a0.size 0 0 lr = false from decide_eq_false hfit]
    go_wp2_with fail
    go_ret
    exact ⟨rfl, Below.refl _ _⟩

set_option maxHeartbeats 1000000 in
set_option maxRecDepth 100000 in
theorem chain_some (a0 : ByteArray) (a1 : Int) (bi oi li ci : Nat) (S : Nat → ByteArray) (ar : Option Addr) (lr cr : Nat) (R : Nat → Int) (h0 : a0.size ≤ maxLen) (hi : li ≤ maxLen) (hr : lr ≤ maxLen) (hS : ∀ j, j < li → (S j).size ≤ maxLen) (w : World)
    (hc : ∀ j, j < li → w.cell? ⟨bi, oi + j, none⟩ = some (.string (S j)))
    (ha : 0 < lr → ∃ br or_, ar = some ⟨br, or_, none⟩ ∧ ∀ j, j < lr → w.cell? ⟨br, or_ + j, none⟩ = some (.int .i64 (R j))) :
    Calls Easg.prog 3 #[.string a0, .int .i64 a1, .slice (some ⟨bi, oi, none⟩) li ci, .slice ar lr cr] w fun e w' => e = .returned (.bool true) ∧ Below w.heap.size w w' := by
  have Ha : Hid (0 < lr → ∃ br or_, ar = some ⟨br, or_, none⟩ ∧ ∀ j, j < lr → w.cell? ⟨br, or_ + j, none⟩ = some (.int .i64 (R j))) := ha
  have Hc : Hid (∀ j, j < li → w.cell? ⟨bi, oi + j, none⟩ = some (.string (S j))) := hc
  have HB : Hid (Calls Easg.prog 5 #[.string a0, .int .i64 a1, .slice (some ⟨bi, oi, none⟩) li ci, .slice ar lr cr] w fun e w' => e = .returned (.bool (fits a0.size li (tot S li) lr)) ∧ w' = w) := bytesChain_some a0 a1 bi oi li ci S ar lr cr h0 hi hr hS w hc
  clear ha hc hS
  by_cases hfit : a0.size + li + tot S li + lr ≤ 1048576
  · by_cases hli : li ≤ 65536
    · by_cases hlr : lr ≤ 65536
      · have d1 : decide ((1048576 : Int) < (a0.size : Int)) = false := by rw [decide_eq_false_iff_not]; omega
        have d2 : decide ((65536 : Int) < (li : Int)) = false := by rw [decide_eq_false_iff_not]; omega
        have d3 : decide ((65536 : Int) < (lr : Int)) = false := by rw [decide_eq_false_iff_not]; omega
        go_enter Easg.func3, Easg.ntmps3
        go_wp2_with fail
        refine HB.out.mono ?_
        rintro e w' ⟨rfl, rfl⟩
        clear HB
        rw [show fits a0.size li (tot S li) lr = true from decide_eq_true hfit]
        go_upto_region 5 with fail
        go_cut [9] (fun s wn => s = .int .i64 ((a0.size : Int) + 8 * (li : Int) + 8 * (lr : Int)) ∧ wn = w')
        case first =>
          go_wp2_with fail
          go_meet
          exact ⟨rfl, rfl⟩
        case rest =>
          obtain ⟨rfl, rfl⟩ := hcut
          go_step
          by_cases hm : li ≤ lr
          · exact tail4 (n := li) (Nat.le_refl _) hm (Or.inl rfl) hli hlr hfit Hc.out Ha.out
          · exact tail4 (n := lr) (by omega) (Nat.le_refl _) (Or.inr rfl) hli hlr hfit Hc.out Ha.out
      · have d1 : decide ((1048576 : Int) < (a0.size : Int)) = false := by rw [decide_eq_false_iff_not]; omega
        have d2 : decide ((65536 : Int) < (li : Int)) = false := by rw [decide_eq_false_iff_not]; omega
        have d3 : decide ((65536 : Int) < (lr : Int)) = true := by rw [decide_eq_true_iff]; omega
        go_enter Easg.func3, Easg.ntmps3
        go_wp2_with fail
        refine HB.out.mono ?_
        rintro e w' ⟨rfl, rfl⟩
        clear HB
        rw [show fits a0.size li (tot S li) lr = true from decide_eq_true hfit]
        go_wp2_with fail
        go_ret
        exact ⟨rfl, Below.refl _ _⟩
    · have d1 : decide ((1048576 : Int) < (a0.size : Int)) = false := by rw [decide_eq_false_iff_not]; omega
      have d2 : decide ((65536 : Int) < (li : Int)) = true := by rw [decide_eq_true_iff]; omega
      go_enter Easg.func3, Easg.ntmps3
      go_wp2_with fail
      refine HB.out.mono ?_
      rintro e w' ⟨rfl, rfl⟩
      clear HB
      rw [show fits a0.size li (tot S li) lr = true from decide_eq_true hfit]
      go_wp2_with fail
      all_goals
        go_ret
        exact ⟨rfl, Below.refl _ _⟩
  · go_enter Easg.func3, Easg.ntmps3
    go_wp2_with fail
    refine HB.out.mono ?_
    rintro e w' ⟨rfl, rfl⟩
    rw [show fits a0.size li (tot S li) lr = false from decide_eq_false hfit]
    go_wp2_with fail
    go_ret
    exact ⟨rfl, Below.refl _ _⟩

end Go.Proofs.Yoeasw
