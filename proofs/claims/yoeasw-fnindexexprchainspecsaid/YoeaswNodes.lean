/-
  The contracts of IndexExpr.String, IndexExpr.Pos, SliceExpr.String, SliceExpr.Pos over nodes that lie in memory.
-/
import Derived.Test.YoeaswLeaf
namespace Go.Proofs.Yoeasw
open Go.RowKit

theorem m_identString (a : Addr) (w : World) : (method 159 26 (.pointer (some a)) "String").run Easg.prog w = .ok (31, .pointer (some a)) w := by kernel_rfl
theorem m_identPos (a : Addr) (w : World) : (method 159 26 (.pointer (some a)) "Pos").run Easg.prog w = .ok (30, .pointer (some a)) w := by kernel_rfl
theorem m_indexString (a : Addr) (w : World) : (method 159 25 (.pointer (some a)) "String").run Easg.prog w = .ok (7, .pointer (some a)) w := by kernel_rfl
theorem m_indexPos (a : Addr) (w : World) : (method 159 25 (.pointer (some a)) "Pos").run Easg.prog w = .ok (8, .pointer (some a)) w := by kernel_rfl

/-- An index cell: nil (its text is empty) or an identifier of that name. -/
def Idx (w : World) (x : ByteArray) (v : Value) : Prop :=
  (x = ByteArray.empty ∧ v = .nilIface) ∨ ∃ d, v = .iface 26 (.pointer (some ⟨d, 0, none⟩)) ∧ w.cell? ⟨d, 0, none⟩ = some (.string x)

set_option maxHeartbeats 400000 in
theorem indexString_in (b c : Nat) (s : ByteArray) (w : World) (hs : s.size ≤ 1000000000) (h0 : w.cell? ⟨b, 0, none⟩ = some (.iface 26 (.pointer (some ⟨c, 0, none⟩)))) (h2 : w.cell? ⟨b, 2, none⟩ = some .nilIface)
    (hc : w.cell? ⟨c, 0, none⟩ = some (.string s)) :
    Calls Easg.prog 7 #[.pointer (some ⟨b, 0, none⟩)] w fun e w' => e = .returned (.string (s ++ ⟨#[91]⟩ ++ ByteArray.empty ++ ⟨#[93]⟩)) ∧ w' = w := by
  have m1 := m_identString
  go_enter Easg.func7, Easg.ntmps7
  go_wp2_with (go_at_call 31; refine (identString_calls _ _ _ hc).mono ?_; rintro e w' ⟨rfl, rfl⟩)
  go_ret
  exact ⟨rfl, rfl⟩

set_option maxHeartbeats 400000 in
theorem indexString_ii (b c d : Nat) (s x : ByteArray) (w : World) (hs : s.size ≤ 1000000000) (hx : x.size ≤ 1000000000) (h0 : w.cell? ⟨b, 0, none⟩ = some (.iface 26 (.pointer (some ⟨c, 0, none⟩))))
    (h2 : w.cell? ⟨b, 2, none⟩ = some (.iface 26 (.pointer (some ⟨d, 0, none⟩)))) (hc : w.cell? ⟨c, 0, none⟩ = some (.string s)) (hd : w.cell? ⟨d, 0, none⟩ = some (.string x)) :
    Calls Easg.prog 7 #[.pointer (some ⟨b, 0, none⟩)] w fun e w' => e = .returned (.string (s ++ ⟨#[91]⟩ ++ x ++ ⟨#[93]⟩)) ∧ w' = w := by
  have m1 := m_identString
  go_enter Easg.func7, Easg.ntmps7
  go_wp2_with fail
  refine (identString_calls _ _ _ hd).mono ?_
  rintro e w' ⟨rfl, rfl⟩
  go_wp2_with fail
  refine (identString_calls _ _ _ hc).mono ?_
  rintro e w' ⟨rfl, rfl⟩
  go_wp2_with fail
  go_ret
  exact ⟨rfl, rfl⟩

set_option maxHeartbeats 400000 in
theorem indexString_nn (b c : Nat) (s : ByteArray) (w : World) (hs : s.size ≤ 1000000000) (h0 : w.cell? ⟨b, 0, none⟩ = some (.iface 25 (.pointer (some ⟨c, 0, none⟩)))) (h2 : w.cell? ⟨b, 2, none⟩ = some .nilIface)
    (H : Hid (Calls Easg.prog 7 #[.pointer (some ⟨c, 0, none⟩)] w fun e w' => e = .returned (.string s) ∧ w' = w)) :
    Calls Easg.prog 7 #[.pointer (some ⟨b, 0, none⟩)] w fun e w' => e = .returned (.string (s ++ ⟨#[91]⟩ ++ ByteArray.empty ++ ⟨#[93]⟩)) ∧ w' = w := by
  have m1 := m_indexString
  go_enter Easg.func7, Easg.ntmps7
  go_wp2_with fail
  refine H.out.mono ?_
  clear H
  rintro e w' ⟨rfl, rfl⟩
  go_wp2_with fail
  go_ret
  exact ⟨rfl, rfl⟩

set_option maxHeartbeats 400000 in
theorem indexString_ni (b c d : Nat) (s x : ByteArray) (w : World) (hs : s.size ≤ 1000000000) (hx : x.size ≤ 1000000000) (h0 : w.cell? ⟨b, 0, none⟩ = some (.iface 25 (.pointer (some ⟨c, 0, none⟩))))
    (h2 : w.cell? ⟨b, 2, none⟩ = some (.iface 26 (.pointer (some ⟨d, 0, none⟩)))) (hd : w.cell? ⟨d, 0, none⟩ = some (.string x))
    (H : Hid (Calls Easg.prog 7 #[.pointer (some ⟨c, 0, none⟩)] w fun e w' => e = .returned (.string s) ∧ w' = w)) :
    Calls Easg.prog 7 #[.pointer (some ⟨b, 0, none⟩)] w fun e w' => e = .returned (.string (s ++ ⟨#[91]⟩ ++ x ++ ⟨#[93]⟩)) ∧ w' = w := by
  have m1 := m_identString
  have m2 := m_indexString
  go_enter Easg.func7, Easg.ntmps7
  go_wp2_with fail
  refine (identString_calls _ _ _ hd).mono ?_
  rintro e w' ⟨rfl, rfl⟩
  go_wp2_with fail
  refine H.out.mono ?_
  clear H
  rintro e w' ⟨rfl, rfl⟩
  go_wp2_with fail
  go_ret
  exact ⟨rfl, rfl⟩

/-- What the chain prints; the last index comes first in the list. -/
def pr (base : ByteArray) : List ByteArray → ByteArray
  | [] => base
  | x :: xs => pr base xs ++ ⟨#[91]⟩ ++ x ++ ⟨#[93]⟩

/-- The chain of nodes over the base identifier, the outermost node first; 'c' is the outermost node's block. -/
def Chain (w : World) (base : ByteArray) (bp : Int) : List ByteArray → Nat → Prop
  | [], _ => False
  | [x], c => ∃ d v, w.cell? ⟨c, 0, none⟩ = some (.iface 26 (.pointer (some ⟨d, 0, none⟩))) ∧ w.cell? ⟨d, 0, none⟩ = some (.string base) ∧ w.cell? ⟨d, 1, none⟩ = some (.int .i64 bp) ∧ w.cell? ⟨c, 2, none⟩ = some v ∧ Idx w x v
  | x :: y :: ys, c => ∃ d v, w.cell? ⟨c, 0, none⟩ = some (.iface 25 (.pointer (some ⟨d, 0, none⟩))) ∧ Chain w base bp (y :: ys) d ∧ w.cell? ⟨c, 2, none⟩ = some v ∧ Idx w x v

theorem pr_size_cons (base x : ByteArray) (xs : List ByteArray) : (pr base (x :: xs)).size = (pr base xs).size + x.size + 2 := by
  simp [pr, ByteArray.size_append]
  have h1 : (ByteArray.mk #[91]).size = 1 := rfl
  have h2 : (ByteArray.mk #[93]).size = 1 := rfl
  omega

theorem indexString_calls (base : ByteArray) (bp : Int) : ∀ (l : List ByteArray) (c : Nat) (w : World), Chain w base bp l c → (pr base l).size ≤ 1000000000 →
    Calls Easg.prog 7 #[.pointer (some ⟨c, 0, none⟩)] w fun e w' => e = .returned (.string (pr base l)) ∧ w' = w
  | [], _, _, h, _ => h.elim
  | [x], c, w, h, hb => by
    obtain ⟨d, v, h0, hd, _, h2, hi⟩ := h
    rw [pr_size_cons] at hb
    have hb' : base.size + x.size + 2 ≤ 1000000000 := hb
    rcases hi with ⟨rfl, rfl⟩ | ⟨g, rfl, hg⟩
    · exact indexString_in c d base w (by omega) h0 h2 hd
    · exact indexString_ii c d g base x w (by omega) (by omega) h0 h2 hd hg
  | x :: y :: ys, c, w, h, hb => by
    obtain ⟨d, v, h0, hr, h2, hi⟩ := h
    rw [pr_size_cons] at hb
    have ih := indexString_calls base bp (y :: ys) d w hr (by omega)
    rcases hi with ⟨rfl, rfl⟩ | ⟨g, rfl, hg⟩
    · exact indexString_nn c d (pr base (y :: ys)) w (by omega) h0 h2 ih
    · exact indexString_ni c d g (pr base (y :: ys)) x w (by omega) (by omega) h0 h2 hg ih

set_option maxHeartbeats 400000 in
theorem indexPos_i (b c : Nat) (p : Int) (w : World) (h0 : w.cell? ⟨b, 0, none⟩ = some (.iface 26 (.pointer (some ⟨c, 0, none⟩)))) (hc : w.cell? ⟨c, 1, none⟩ = some (.int .i64 p)) :
    Calls Easg.prog 8 #[.pointer (some ⟨b, 0, none⟩)] w fun e w' => e = .returned (.int .i64 p) ∧ w' = w := by
  have m1 := m_identPos
  go_enter Easg.func8, Easg.ntmps8
  go_wp2_with fail
  refine (identPos_calls _ _ _ hc).mono ?_
  rintro e w' ⟨rfl, rfl⟩
  go_wp2_with fail
  go_ret
  exact ⟨rfl, rfl⟩

set_option maxHeartbeats 400000 in
theorem indexPos_n (b c : Nat) (p : Int) (w : World) (h0 : w.cell? ⟨b, 0, none⟩ = some (.iface 25 (.pointer (some ⟨c, 0, none⟩))))
    (H : Hid (Calls Easg.prog 8 #[.pointer (some ⟨c, 0, none⟩)] w fun e w' => e = .returned (.int .i64 p) ∧ w' = w)) :
    Calls Easg.prog 8 #[.pointer (some ⟨b, 0, none⟩)] w fun e w' => e = .returned (.int .i64 p) ∧ w' = w := by
  have m1 := m_indexPos
  go_enter Easg.func8, Easg.ntmps8
  go_wp2_with fail
  refine H.out.mono ?_
  clear H
  rintro e w' ⟨rfl, rfl⟩
  go_wp2_with fail
  go_ret
  exact ⟨rfl, rfl⟩

theorem indexPos_calls (base : ByteArray) (bp : Int) : ∀ (l : List ByteArray) (c : Nat) (w : World), Chain w base bp l c →
    Calls Easg.prog 8 #[.pointer (some ⟨c, 0, none⟩)] w fun e w' => e = .returned (.int .i64 bp) ∧ w' = w
  | [], _, _, h => h.elim
  | [_], c, w, h => by
    obtain ⟨d, v, h0, _, hd, _, _⟩ := h
    exact indexPos_i c d bp w h0 hd
  | _ :: y :: ys, c, w, h => by
    obtain ⟨d, v, h0, hr, _, _⟩ := h
    exact indexPos_n c d bp w h0 (indexPos_calls base bp (y :: ys) d w hr)

set_option maxHeartbeats 400000 in
theorem slicePos_calls (b c : Nat) (p : Int) (w : World) (h0 : w.cell? ⟨b, 0, none⟩ = some (.iface 26 (.pointer (some ⟨c, 0, none⟩)))) (hc : w.cell? ⟨c, 1, none⟩ = some (.int .i64 p)) :
    Calls Easg.prog 11 #[.pointer (some ⟨b, 0, none⟩)] w fun e w' => e = .returned (.int .i64 p) ∧ w' = w := by
  have m1 := m_identPos
  go_enter Easg.func11, Easg.ntmps11
  go_wp2_with fail
  refine (identPos_calls _ _ _ hc).mono ?_
  rintro e w' ⟨rfl, rfl⟩
  go_wp2_with fail
  go_ret
  exact ⟨rfl, rfl⟩

set_option maxHeartbeats 400000 in
theorem sliceString_n (b c : Nat) (s : ByteArray) (w : World) (hs : s.size ≤ 1000000000) (h0 : w.cell? ⟨b, 0, none⟩ = some (.iface 26 (.pointer (some ⟨c, 0, none⟩)))) (h2 : w.cell? ⟨b, 2, none⟩ = some .nilIface)
    (h3 : w.cell? ⟨b, 3, none⟩ = some .nilIface) (hc : w.cell? ⟨c, 0, none⟩ = some (.string s)) :
    Calls Easg.prog 13 #[.pointer (some ⟨b, 0, none⟩)] w fun e w' => e = .returned (.string (s ++ ⟨#[91]⟩ ++ ByteArray.empty ++ ⟨#[58]⟩ ++ ByteArray.empty ++ ⟨#[93]⟩)) ∧ w' = w := by
  have m1 := m_identString
  go_enter Easg.func13, Easg.ntmps13
  go_wp2_with fail
  refine (identString_calls _ _ _ hc).mono ?_
  rintro e w' ⟨rfl, rfl⟩
  go_wp2_with fail
  go_ret
  exact ⟨rfl, rfl⟩

set_option maxHeartbeats 400000 in
theorem sliceString_i (b c d : Nat) (s x : ByteArray) (w : World) (hs : s.size ≤ 1000000000) (hx : x.size ≤ 1000000000) (h0 : w.cell? ⟨b, 0, none⟩ = some (.iface 26 (.pointer (some ⟨c, 0, none⟩))))
    (h2 : w.cell? ⟨b, 2, none⟩ = some (.iface 26 (.pointer (some ⟨d, 0, none⟩)))) (h3 : w.cell? ⟨b, 3, none⟩ = some .nilIface) (hc : w.cell? ⟨c, 0, none⟩ = some (.string s)) (hd : w.cell? ⟨d, 0, none⟩ = some (.string x)) :
    Calls Easg.prog 13 #[.pointer (some ⟨b, 0, none⟩)] w fun e w' => e = .returned (.string (s ++ ⟨#[91]⟩ ++ x ++ ⟨#[58]⟩ ++ ByteArray.empty ++ ⟨#[93]⟩)) ∧ w' = w := by
  have m1 := m_identString
  go_enter Easg.func13, Easg.ntmps13
  go_wp2_with fail
  refine (identString_calls _ _ _ hd).mono ?_
  rintro e w' ⟨rfl, rfl⟩
  go_wp2_with fail
  refine (identString_calls _ _ _ hc).mono ?_
  rintro e w' ⟨rfl, rfl⟩
  go_wp2_with fail
  go_ret
  exact ⟨rfl, rfl⟩

end Go.Proofs.Yoeasw
