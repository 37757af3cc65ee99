/-
  The walk of FnIndexExprAgreesWithSliceExpr, out of its callees' contracts.
-/
import Derived.Test.YoeaswNodes
import Derived.Test.YoeaswPlain
namespace Go.Proofs.Yoeasw
open Go.RowKit

set_option maxHeartbeats 400000 in
theorem bytesAgrees_calls (a0 : ByteArray) (a1 : Int) (a2 : ByteArray) (a3 : Bool) (a4 a5 : Int) (w0 : a0.size ≤ maxLen) (w2 : a2.size ≤ maxLen) (w : World) :
    Calls Easg.prog 10 #[.string a0, .int .i64 a1, .string a2, .bool a3, .int .i64 a4, .int .i64 a5] w fun e w' => e = .returned (.bool (decide (a0.size + a2.size ≤ 1048576))) ∧ w' = w := by
  unfold maxLen at w0 w2
  by_cases h1 : a0.size ≤ 1048576
  · by_cases h2 : a2.size ≤ 1048576
    · by_cases h3 : a0.size + a2.size ≤ 1048576
      · go_enter Easg.func10, Easg.ntmps10
        go_wp2
        go_ret
        exact ⟨by simp [h3], rfl⟩
      · go_enter Easg.func10, Easg.ntmps10
        go_wp2
        go_ret
        exact ⟨by simp; omega, rfl⟩
    · go_enter Easg.func10, Easg.ntmps10
      go_wp2
      go_ret
      exact ⟨by simp; omega, rfl⟩
  · go_enter Easg.func10, Easg.ntmps10
    go_wp2
    go_ret
    exact ⟨by simp; omega, rfl⟩


/-- The world with both nodes laid, and their index identifiers. -/
def WT (w : World) (a0 : ByteArray) (a1 : Int) (a2 : ByteArray) (a4 a5 : Int) : World :=
  ((((((w.alloc (.cells #[.string a0, .int .i64 a1] 41)).alloc
    (.cells #[.iface 26 (.pointer (some ⟨w.heap.size, 0, none⟩)), .int .i64 a4, .iface 26 (.pointer (some ⟨w.heap.size + 1 + 1 + 1 + 1, 0, none⟩)), .int .i64 a5] 32)).alloc
    (.cells #[.string a0, .int .i64 a1] 41)).alloc
    (.cells #[.iface 26 (.pointer (some ⟨w.heap.size + 1 + 1, 0, none⟩)), .int .i64 a4, .iface 26 (.pointer (some ⟨w.heap.size + 1 + 1 + 1 + 1 + 1, 0, none⟩)), .nilIface, .int .i64 a5] 39)).alloc
    (.cells #[.string a2, .int .i64 0] 41)).alloc (.cells #[.string a2, .int .i64 0] 41))

theorem WT_grown (w : World) (a0 : ByteArray) (a1 : Int) (a2 : ByteArray) (a4 a5 : Int) : Grown w (WT w a0 a1 a2 a4 a5) := by
  unfold WT
  repeat (first | exact Grown.refl _ | apply Grown.alloc)

theorem WT_cells (w : World) (a0 : ByteArray) (a1 : Int) (a2 : ByteArray) (a4 a5 : Int) :
    (WT w a0 a1 a2 a4 a5).cell? ⟨w.heap.size + 1, 0, none⟩ = some (.iface 26 (.pointer (some ⟨w.heap.size, 0, none⟩)))
    ∧ (WT w a0 a1 a2 a4 a5).cell? ⟨w.heap.size + 1, 2, none⟩ = some (.iface 26 (.pointer (some ⟨w.heap.size + 1 + 1 + 1 + 1, 0, none⟩)))
    ∧ (WT w a0 a1 a2 a4 a5).cell? ⟨w.heap.size + 1, 3, none⟩ = some (.int .i64 a5)
    ∧ (WT w a0 a1 a2 a4 a5).cell? ⟨w.heap.size + 1 + 1 + 1, 0, none⟩ = some (.iface 26 (.pointer (some ⟨w.heap.size + 1 + 1, 0, none⟩)))
    ∧ (WT w a0 a1 a2 a4 a5).cell? ⟨w.heap.size + 1 + 1 + 1, 2, none⟩ = some (.iface 26 (.pointer (some ⟨w.heap.size + 1 + 1 + 1 + 1 + 1, 0, none⟩)))
    ∧ (WT w a0 a1 a2 a4 a5).cell? ⟨w.heap.size + 1 + 1 + 1, 3, none⟩ = some .nilIface
    ∧ (WT w a0 a1 a2 a4 a5).cell? ⟨w.heap.size + 1 + 1 + 1, 4, none⟩ = some (.int .i64 a5)
    ∧ (WT w a0 a1 a2 a4 a5).cell? ⟨w.heap.size, 0, none⟩ = some (.string a0)
    ∧ (WT w a0 a1 a2 a4 a5).cell? ⟨w.heap.size, 1, none⟩ = some (.int .i64 a1)
    ∧ (WT w a0 a1 a2 a4 a5).cell? ⟨w.heap.size + 1 + 1, 0, none⟩ = some (.string a0)
    ∧ (WT w a0 a1 a2 a4 a5).cell? ⟨w.heap.size + 1 + 1, 1, none⟩ = some (.int .i64 a1)
    ∧ (WT w a0 a1 a2 a4 a5).cell? ⟨w.heap.size + 1 + 1 + 1 + 1, 0, none⟩ = some (.string a2)
    ∧ (WT w a0 a1 a2 a4 a5).cell? ⟨w.heap.size + 1 + 1 + 1 + 1 + 1, 0, none⟩ = some (.string a2) := by
  unfold WT
  refine ⟨?_, ?_, ?_, ?_, ?_, ?_, ?_, ?_, ?_, ?_, ?_, ?_, ?_⟩ <;> simp [go_sem]

set_option maxHeartbeats 400000 in
theorem agrees_idx (a0 : ByteArray) (a1 : Int) (a2 : ByteArray) (a4 a5 : Int) (h : a0.size + a2.size ≤ 1048576) (w : World) :
    Calls Easg.prog 4 #[.string a0, .int .i64 a1, .string a2, .bool true, .int .i64 a4, .int .i64 a5] w fun e w' => e = .returned (.bool true) ∧ Grown w w' := by
  go_enter Easg.func4, Easg.ntmps4
  go_wp2_with fail
  refine (bytesAgrees_calls _ _ _ _ _ _ (by unfold maxLen; omega) (by unfold maxLen; omega) _).mono ?_
  rintro e w' ⟨rfl, rfl⟩
  rw [decide_eq_true h]
  go_wp2_with fail
  refine (ident_calls _ _ _).mono ?_
  rintro e w1 ⟨rfl, rfl⟩
  go_wp2_with fail
  refine (ident_calls _ _ _).mono ?_
  rintro e w1 ⟨rfl, rfl⟩
  go_wp2_with fail
  refine (ident_calls _ _ _).mono ?_
  rintro e w1 ⟨rfl, rfl⟩
  go_wp2_with fail
  refine (ident_calls _ _ _).mono ?_
  rintro e w1 ⟨rfl, rfl⟩
  go_wp2_with fail
  have G := WT_grown w' a0 a1 a2 a4 a5
  have C := WT_cells w' a0 a1 a2 a4 a5
  change Calls Easg.prog 8 _ (WT w' a0 a1 a2 a4 a5) _
  generalize WT w' a0 a1 a2 a4 a5 = W at G C ⊢
  obtain ⟨c1, c2, c3, c4, c5, c6, c7, c8, c9, c10, c11, c12, c13⟩ := C
  refine (indexPos_i _ _ a1 _ c1 c9).mono ?_
  rintro e w1 ⟨rfl, rfl⟩
  go_wp2_with fail
  refine (slicePos_calls _ _ a1 _ c4 c11).mono ?_
  rintro e w1 ⟨rfl, rfl⟩
  go_wp2_with fail
  refine (indexEnd_calls _ a5 _ c3).mono ?_
  rintro e w1 ⟨rfl, rfl⟩
  go_wp2_with fail
  refine (sliceEnd_calls _ a5 _ c7).mono ?_
  rintro e w1 ⟨rfl, rfl⟩
  go_wp2_with fail
  refine (indexString_ii _ _ _ a0 a2 _ (by omega) (by omega) c1 c2 c8 c12).mono ?_
  rintro e w1 ⟨rfl, rfl⟩
  go_wp2_with fail
  refine (sliceString_i _ _ _ a0 a2 _ (by omega) (by omega) c4 c5 c6 c10 c13).mono ?_
  rintro e w1 ⟨rfl, rfl⟩
  go_wp2_with fail
  · exfalso
    have hl := last_at (a0 ++ ⟨#[91]⟩ ++ a2) (a0.size + 1 + a2.size) (by simp [ByteArray.size_append]; rfl) (by simp [ByteArray.size_append]; exact Nat.lt_succ_self _)
    rename_i hh
    rw [hl] at hh
    simp at hh
    omega
  · go_ret
    refine ⟨?_, G⟩
    exact congrArg (fun b => Ending.returned (.bool b)) (colon_eq (a0 ++ ⟨#[91]⟩ ++ a2) (a0.size + 1 + a2.size) (by simp [ByteArray.size_append]; rfl))


/-- The world with both nodes laid, no index. -/
def WF (w : World) (a0 : ByteArray) (a1 a4 a5 : Int) : World :=
  ((((w.alloc (.cells #[.string a0, .int .i64 a1] 41)).alloc
    (.cells #[.iface 26 (.pointer (some ⟨w.heap.size, 0, none⟩)), .int .i64 a4, .nilIface, .int .i64 a5] 32)).alloc
    (.cells #[.string a0, .int .i64 a1] 41)).alloc
    (.cells #[.iface 26 (.pointer (some ⟨w.heap.size + 1 + 1, 0, none⟩)), .int .i64 a4, .nilIface, .nilIface, .int .i64 a5] 39))

theorem WF_grown (w : World) (a0 : ByteArray) (a1 a4 a5 : Int) : Grown w (WF w a0 a1 a4 a5) := by
  unfold WF
  repeat (first | exact Grown.refl _ | apply Grown.alloc)

theorem WF_cells (w : World) (a0 : ByteArray) (a1 a4 a5 : Int) :
    (WF w a0 a1 a4 a5).cell? ⟨w.heap.size + 1, 0, none⟩ = some (.iface 26 (.pointer (some ⟨w.heap.size, 0, none⟩)))
    ∧ (WF w a0 a1 a4 a5).cell? ⟨w.heap.size + 1, 2, none⟩ = some .nilIface
    ∧ (WF w a0 a1 a4 a5).cell? ⟨w.heap.size + 1, 3, none⟩ = some (.int .i64 a5)
    ∧ (WF w a0 a1 a4 a5).cell? ⟨w.heap.size + 1 + 1 + 1, 0, none⟩ = some (.iface 26 (.pointer (some ⟨w.heap.size + 1 + 1, 0, none⟩)))
    ∧ (WF w a0 a1 a4 a5).cell? ⟨w.heap.size + 1 + 1 + 1, 2, none⟩ = some .nilIface
    ∧ (WF w a0 a1 a4 a5).cell? ⟨w.heap.size + 1 + 1 + 1, 3, none⟩ = some .nilIface
    ∧ (WF w a0 a1 a4 a5).cell? ⟨w.heap.size + 1 + 1 + 1, 4, none⟩ = some (.int .i64 a5)
    ∧ (WF w a0 a1 a4 a5).cell? ⟨w.heap.size, 0, none⟩ = some (.string a0)
    ∧ (WF w a0 a1 a4 a5).cell? ⟨w.heap.size, 1, none⟩ = some (.int .i64 a1)
    ∧ (WF w a0 a1 a4 a5).cell? ⟨w.heap.size + 1 + 1, 0, none⟩ = some (.string a0)
    ∧ (WF w a0 a1 a4 a5).cell? ⟨w.heap.size + 1 + 1, 1, none⟩ = some (.int .i64 a1) := by
  unfold WF
  refine ⟨?_, ?_, ?_, ?_, ?_, ?_, ?_, ?_, ?_, ?_, ?_⟩ <;> simp [go_sem]

set_option maxHeartbeats 400000 in
theorem agrees_nil (a0 : ByteArray) (a1 : Int) (a2 : ByteArray) (a4 a5 : Int) (h : a0.size + a2.size ≤ 1048576) (w : World) :
    Calls Easg.prog 4 #[.string a0, .int .i64 a1, .string a2, .bool false, .int .i64 a4, .int .i64 a5] w fun e w' => e = .returned (.bool true) ∧ Grown w w' := by
  go_enter Easg.func4, Easg.ntmps4
  go_wp2_with fail
  refine (bytesAgrees_calls _ _ _ _ _ _ (by unfold maxLen; omega) (by unfold maxLen; omega) _).mono ?_
  rintro e w' ⟨rfl, rfl⟩
  rw [decide_eq_true h]
  go_wp2_with fail
  refine (ident_calls _ _ _).mono ?_
  rintro e w1 ⟨rfl, rfl⟩
  go_wp2_with fail
  refine (ident_calls _ _ _).mono ?_
  rintro e w1 ⟨rfl, rfl⟩
  go_wp2_with fail
  have G := WF_grown w' a0 a1 a4 a5
  have C := WF_cells w' a0 a1 a4 a5
  change Calls Easg.prog 8 _ (WF w' a0 a1 a4 a5) _
  generalize WF w' a0 a1 a4 a5 = W at G C ⊢
  obtain ⟨c1, c2, c3, c4, c5, c6, c7, c8, c9, c10, c11⟩ := C
  refine (indexPos_i _ _ a1 _ c1 c9).mono ?_
  rintro e w1 ⟨rfl, rfl⟩
  go_wp2_with fail
  refine (slicePos_calls _ _ a1 _ c4 c11).mono ?_
  rintro e w1 ⟨rfl, rfl⟩
  go_wp2_with fail
  refine (indexEnd_calls _ a5 _ c3).mono ?_
  rintro e w1 ⟨rfl, rfl⟩
  go_wp2_with fail
  refine (sliceEnd_calls _ a5 _ c7).mono ?_
  rintro e w1 ⟨rfl, rfl⟩
  go_wp2_with fail
  refine (indexString_in _ _ a0 _ (by omega) c1 c2 c8).mono ?_
  rintro e w1 ⟨rfl, rfl⟩
  go_wp2_with fail
  refine (sliceString_n _ _ a0 _ (by omega) c4 c5 c6 c10).mono ?_
  rintro e w1 ⟨rfl, rfl⟩
  go_wp2_with fail
  · exfalso
    have hl := last_at (a0 ++ ⟨#[91]⟩) (a0.size + 1) (by simp [ByteArray.size_append]; rfl) (by simp [ByteArray.size_append]; exact Nat.lt_succ_self _)
    rename_i hh
    rw [hl] at hh
    simp at hh
    omega
  · go_ret
    refine ⟨?_, G⟩
    exact congrArg (fun b => Ending.returned (.bool b)) (colon_eq (a0 ++ ⟨#[91]⟩) (a0.size + 1) (by simp [ByteArray.size_append]; rfl))

set_option maxHeartbeats 400000 in
theorem agrees_great (a0 : ByteArray) (a1 : Int) (a2 : ByteArray) (a3 : Bool) (a4 a5 : Int) (w0 : a0.size ≤ maxLen) (w2 : a2.size ≤ maxLen) (h : ¬ a0.size + a2.size ≤ 1048576) (w : World) :
    Calls Easg.prog 4 #[.string a0, .int .i64 a1, .string a2, .bool a3, .int .i64 a4, .int .i64 a5] w fun e w' => e = .returned (.bool true) ∧ Grown w w' := by
  go_enter Easg.func4, Easg.ntmps4
  go_wp2_with fail
  refine (bytesAgrees_calls _ _ _ _ _ _ w0 w2 _).mono ?_
  rintro e w' ⟨rfl, rfl⟩
  rw [decide_eq_false h]
  go_wp2_with fail
  go_ret
  exact ⟨rfl, Grown.refl _⟩

theorem agrees_any (a0 : ByteArray) (a1 : Int) (a2 : ByteArray) (a3 : Bool) (a4 a5 : Int) (w0 : a0.size ≤ maxLen) (w2 : a2.size ≤ maxLen) (w : World) :
    Calls Easg.prog 4 #[.string a0, .int .i64 a1, .string a2, .bool a3, .int .i64 a4, .int .i64 a5] w fun e w' => e = .returned (.bool true) ∧ Grown w w' := by
  by_cases h : a0.size + a2.size ≤ 1048576
  · cases a3
    · exact agrees_nil a0 a1 a2 a4 a5 h w
    · exact agrees_idx a0 a1 a2 a4 a5 h w
  · exact agrees_great a0 a1 a2 a3 a4 a5 w0 w2 h w

end Go.Proofs.Yoeasw
