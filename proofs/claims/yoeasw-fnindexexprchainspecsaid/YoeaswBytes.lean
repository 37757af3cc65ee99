/-
  The contract of zzBytes_FnIndexExprChainSpec: it tells whether the lengths sum to at most 1048576.
-/
import Derived.Test.YoeaswRows
import Derived.WalkKit
import Derived.WalkSpells
import Derived.WalkLawsBesides
namespace Go.Proofs.Yoeasw
open Go.RowKit

/-- The lengths of the first k strings, summed. -/
def tot (S : Nat → ByteArray) : Nat → Nat
  | 0 => 0
  | k + 1 => tot S k + (S k).size

theorem tot_mono (S : Nat → ByteArray) : ∀ (k n : Nat), k ≤ n → tot S k ≤ tot S n
  | k, 0, h => by
    obtain rfl : k = 0 := by omega
    exact Nat.le_refl _
  | k, n + 1, h => by
    by_cases e : k = n + 1
    · subst e
      exact Nat.le_refl _
    · exact Nat.le_trans (tot_mono S k n (by omega)) (Nat.le_add_right _ _)

/-- Is the sum within the bound? -/
def fits (a li t lr : Nat) : Bool := decide (a + li + t + lr ≤ 1048576)

set_option maxHeartbeats 400000 in
theorem bytesChain_none (a0 : ByteArray) (a1 : Int) (ai : Option Addr) (ci : Nat) (ar : Option Addr) (lr cr : Nat) (h0 : a0.size ≤ maxLen) (hr : lr ≤ maxLen) (w : World) :
    Calls Easg.prog 5 #[.string a0, .int .i64 a1, .slice ai 0 ci, .slice ar lr cr] w fun e w' => e = .returned (.bool (fits a0.size 0 0 lr)) ∧ w' = w := by
  unfold maxLen at h0 hr
  go_enter Easg.func5, Easg.ntmps5
  go_wp2
  · go_ret
    exact ⟨congrArg (fun b => Ending.returned (.bool b)) (by unfold fits; symm; rw [decide_eq_false_iff_not]; omega), rfl⟩
  refine wp_loop_rounds 1 ?_
  rw [rounds_succ]
  go_wp2
  · go_ret
    exact ⟨congrArg (fun b => Ending.returned (.bool b)) (by unfold fits; symm; rw [decide_eq_false_iff_not]; omega), rfl⟩
  · go_ret
    exact ⟨congrArg (fun b => Ending.returned (.bool b)) (by unfold fits; symm; rw [decide_eq_false_iff_not]; omega), rfl⟩
  · go_ret
    exact ⟨congrArg (fun b => Ending.returned (.bool b)) (by unfold fits; symm; rw [decide_eq_true_iff]; omega), rfl⟩

set_option maxHeartbeats 400000 in
theorem bytesChain_some (a0 : ByteArray) (a1 : Int) (bi oi li ci : Nat) (S : Nat → ByteArray) (ar : Option Addr) (lr cr : Nat) (h0 : a0.size ≤ maxLen) (hi : li ≤ maxLen) (hr : lr ≤ maxLen) (hS : ∀ j, j < li → (S j).size ≤ maxLen) (w : World)
    (hc : ∀ j, j < li → w.cell? ⟨bi, oi + j, none⟩ = some (.string (S j))) :
    Calls Easg.prog 5 #[.string a0, .int .i64 a1, .slice (some ⟨bi, oi, none⟩) li ci, .slice ar lr cr] w fun e w' => e = .returned (.bool (fits a0.size li (tot S li) lr)) ∧ w' = w := by
  unfold maxLen at h0 hr hi hS
  go_enter Easg.func5, Easg.ntmps5
  go_wp2
  · go_ret
    exact ⟨congrArg (fun b => Ending.returned (.bool b)) (by unfold fits; symm; rw [decide_eq_false_iff_not]; omega), rfl⟩
  · go_ret
    exact ⟨congrArg (fun b => Ending.returned (.bool b)) (by unfold fits; symm; rw [decide_eq_false_iff_not]; omega), rfl⟩
  · go_ret
    exact ⟨congrArg (fun b => Ending.returned (.bool b)) (by unfold fits; symm; rw [decide_eq_false_iff_not]; omega), rfl⟩
  go_loop [9, 10] (fun n i => ∃ k : Nat, k ≤ li ∧ i = .int .i64 k ∧ n = .int .i64 ((a0.size + li + tot S k : Nat) : Int) ∧ a0.size + li + tot S k ≤ 1048576) (fun _ i => li - (intOf i).toNat)
  case atStart => exact ⟨0, Nat.zero_le _, rfl, by simp [tot], by simp [tot]; omega⟩
  case round =>
    obtain ⟨k, hk, rfl, rfl, hle⟩ := hrel
    by_cases hlt : k < li
    · have hsk := hS k hlt
      have Ht : Hid (tot S (k + 1) = tot S k + (S k).size) := rfl
      have Hm := tot_mono S (k + 1) li hlt
      go_wp2
      · go_ret
        refine ⟨congrArg (fun b => Ending.returned (.bool b)) ?_, rfl⟩
        have := Ht.out
        unfold fits; symm; rw [decide_eq_false_iff_not]; omega
      · go_ret
        refine ⟨congrArg (fun b => Ending.returned (.bool b)) ?_, rfl⟩
        have := Ht.out
        unfold fits; symm; rw [decide_eq_false_iff_not]; omega
      · go_round
        case rel => exact ⟨k + 1, by omega, by go_num, by rw [Ht.out]; go_num, by rw [Ht.out]; omega⟩
        case measure => simp [intOf]; omega
    · obtain rfl : k = li := by omega
      go_wp2
      · go_ret
        exact ⟨congrArg (fun b => Ending.returned (.bool b)) (by unfold fits; symm; rw [decide_eq_false_iff_not]; omega), rfl⟩
      · go_ret
        exact ⟨congrArg (fun b => Ending.returned (.bool b)) (by unfold fits; symm; rw [decide_eq_false_iff_not]; omega), rfl⟩
      · go_ret
        exact ⟨congrArg (fun b => Ending.returned (.bool b)) (by unfold fits; symm; rw [decide_eq_true_iff]; omega), rfl⟩

end Go.Proofs.Yoeasw
