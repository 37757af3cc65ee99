/-
  The leaves of the two roads: zzIdent, the identifier's String and Pos, the two End methods.
-/
import Derived.Test.YoeaswRows
import Derived.WalkKit
import Derived.WalkSpells
import Derived.WalkLawsBesides
namespace Go.Proofs.Yoeasw
open Go.RowKit

set_option maxHeartbeats 400000 in
theorem ident_calls (s : ByteArray) (p : Int) (w : World) :
    Calls Easg.prog 6 #[.string s, .int .i64 p] w fun e w' => e = .returned (.pointer (some ⟨w.heap.size, 0, none⟩)) ∧ w' = w.alloc (.cells #[.string s, .int .i64 p] 41) := by
  go_enter Easg.func6, Easg.ntmps6
  go_wp2
  go_ret
  exact ⟨rfl, rfl⟩

set_option maxHeartbeats 400000 in
theorem identString_calls (b : Nat) (s : ByteArray) (w : World) (h0 : w.cell? ⟨b, 0, none⟩ = some (.string s)) :
    Calls Easg.prog 31 #[.pointer (some ⟨b, 0, none⟩)] w fun e w' => e = .returned (.string s) ∧ w' = w := by
  go_enter Easg.func31, Easg.ntmps31
  go_wp2
  go_ret
  exact ⟨rfl, rfl⟩

set_option maxHeartbeats 400000 in
theorem identPos_calls (b : Nat) (p : Int) (w : World) (h1 : w.cell? ⟨b, 1, none⟩ = some (.int .i64 p)) :
    Calls Easg.prog 30 #[.pointer (some ⟨b, 0, none⟩)] w fun e w' => e = .returned (.int .i64 p) ∧ w' = w := by
  go_enter Easg.func30, Easg.ntmps30
  go_wp2
  go_ret
  exact ⟨rfl, rfl⟩

set_option maxHeartbeats 400000 in
theorem indexEnd_calls (b : Nat) (p : Int) (w : World) (h1 : w.cell? ⟨b, 3, none⟩ = some (.int .i64 p)) :
    Calls Easg.prog 9 #[.pointer (some ⟨b, 0, none⟩)] w fun e w' => e = .returned (.int .i64 (wrap64 (p + 1))) ∧ w' = w := by
  go_enter Easg.func9, Easg.ntmps9
  go_wp2
  go_ret
  exact ⟨rfl, rfl⟩

set_option maxHeartbeats 400000 in
theorem sliceEnd_calls (b : Nat) (p : Int) (w : World) (h1 : w.cell? ⟨b, 4, none⟩ = some (.int .i64 p)) :
    Calls Easg.prog 12 #[.pointer (some ⟨b, 0, none⟩)] w fun e w' => e = .returned (.int .i64 (wrap64 (p + 1))) ∧ w' = w := by
  go_enter Easg.func12, Easg.ntmps12
  go_wp2
  go_ret
  exact ⟨rfl, rfl⟩

end Go.Proofs.Yoeasw
