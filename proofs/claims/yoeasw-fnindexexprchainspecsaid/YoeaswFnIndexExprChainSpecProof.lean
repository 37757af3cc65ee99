/-
  The proof of the row 'FnIndexExprChainSpec': the frame as the kit's tool writes it for this program, turned to a slice of strings; the walk out of YoeaswChainWalk.
-/
import Derived.Test.YoeaswRows
import Derived.Test.YoeaswChainWalk
import Derived.SliceStrings
import Derived.WalkKit
import Derived.ProofKit
import Derived.OpenShut
import Derived.ShutString
import Derived.ChangeOld
import Derived.Below
namespace Go.Proofs.Yoeasw.fnIndexExprChainSpec
open Go.ChangeShapes Go.WideShapes Go.ChangeAt Go.RowKit
open Go.ChangeMaps (open_string shut_string)
set_option linter.unusedVariables false

theorem own : ownKnob Easg.prog.godebug = none := by kernel_rfl
theorem laidOut : laidOutB Easg.prog = true := by kernel_rfl

/-- What the walk is told of a slice of strings that came in. -/
def IsStrs (w : World) (a : Option Addr) (len : Nat) (S : Nat → ByteArray) : Prop :=
  len ≤ maxLen ∧ (0 < len → ∃ b o, a = some ⟨b, o, none⟩ ∧ ∀ j, j < len → w.cell? ⟨b, o + j, none⟩ = some (.string (S j)) ∧ (S j).size ≤ maxLen)

/-- What the walk is told of a slice of ints that came in. -/
def IsInts (w : World) (a : Option Addr) (len : Nat) (R : Nat → Int) : Prop :=
  len ≤ maxLen ∧ (0 < len → ∃ b o, a = some ⟨b, o, none⟩ ∧ ∀ j, j < len → w.cell? ⟨b, o + j, none⟩ = some (.int .i64 (R j)))

/-! ### The walk: the Go text returns true, and writes nothing that was there. -/
theorem walk (a0 : ByteArray) (a1 : Int) (a2 : Option Addr) (len2 cap2 : Nat) (S : Nat → ByteArray) (a3 : Option Addr) (len3 cap3 : Nat) (R : Nat → Int) (w : World) (w0 : a0.size ≤ maxLen) (w2 : IsStrs w a2 len2 S) (w3 : IsInts w a3 len3 R) :
    Calls Easg.prog 3 #[.string a0, .int .i64 a1, .slice a2 len2 cap2, .slice a3 len3 cap3] w fun e w' => e = .returned (.bool true) ∧ Below w.heap.size w w' := by
  by_cases h : len2 = 0
  · subst h
    exact chain_none a0 a1 a2 cap2 a3 len3 cap3 w0 w3.1 w
  · obtain ⟨b, o, rfl, hc⟩ := w2.2 (by omega)
    exact chain_some a0 a1 b o len2 cap2 S a3 len3 cap3 R w0 w2.1 w3.1 (fun j hj => (hc j hj).2) w (fun j hj => (hc j hj).1) w3.2

/-! ### From the walk to the row. -/
set_option maxRecDepth 100000 in
theorem lifted (os : Os) (started : os.Started) (H : Type) (enc : TypeId × Value → H) :
    ReturnsInHanded {} Easg.checked os 3 .any (Rows.fnIndexExprChainSpecSpec.pre6 enc Easg.prog Easg.f3 Rows.fnIndexExprChainSpecRow.domain false) (Rows.fnIndexExprChainSpecSpec.post enc Easg.prog Easg.f3 false true false false) := by
  refine returnsInHanded_of_change (C := Easg.checked) own started (by kernel_rfl) Easg.func3
    (ChangeSpec.witness6 (enc := enc) (C := Easg.checked) false ⟨#[], #[.string ByteArray.empty, .int .i64 0, .slice none 0 0, .slice none 0 0], []⟩ 8 (by kernel_rfl) (by kernel_rfl) (by kernel_rfl) (by kernel_rfl)) ?_
  intro W base args ds gs before hval0 hW hcnd _
  have hval : ∀ (j : Nat) t v, Easg.f3.params[j]? = some t → args[j]? = some v → Value.okWide Easg.prog W .any base t v := hval0
  have hW' := hW
  obtain ⟨p, q, hA0, hV, rfl, hfz, hnd⟩ := hW
  have hA : DataW.TrodAll enc Easg.prog W 0 (fun _ => true) true Easg.f3.params.toList args.toList ds p := hA0
  rw [Easg.params3] at hA hval
  obtain ⟨v0, vs0, d0, ds0, p0, q0, hargs, rfl, rfl, h0, r0⟩ := trodAll_cons hA
  obtain ⟨v1, vs1, d1, ds1, p1, q1, rfl, rfl, rfl, h1, r1⟩ := trodAll_cons r0
  obtain ⟨v2, vs2, d2, ds2, p2, q2, rfl, rfl, rfl, h2, r2⟩ := trodAll_cons r1
  obtain ⟨v3, vs3, d3, ds3, p3, q3, rfl, rfl, rfl, h3, r3⟩ := trodAll_cons r2
  obtain ⟨rfl, rfl, rfl⟩ := trodAll_nil r3
  obtain rfl : args = #[v0, v1, v2, v3] := by cases args; simp_all
  obtain ⟨rfl, rfl⟩ := trodVars_none hV
  obtain ⟨a0, rfl, rfl, rfl, w0⟩ := open_string Easg.underlying9 (hval 0 9 v0 rfl rfl) h0
  obtain ⟨a1, rfl, rfl, rfl, w1⟩ := open_int Easg.underlying3 (hval 1 3 v1 rfl rfl) h1
  obtain ⟨a2, len2, cap2, rfl⟩ := okWide_slice Easg.underlying22 (hval 2 22 v2 rfl rfl)
  have k2 := h2
  have lt2 : ∀ x ∈ p2, x.block < W.heap.size := by obtain ⟨m, hm⟩ := k2; exact DataW.trod_lt m _ _ _ hm
  obtain ⟨z2, w2⟩ : ∃ S, IsStrs W a2 len2 S := by
    obtain ⟨fuel, hf⟩ := h2
    rcases open_strings Easg.underlying22 Easg.underlying9 (by kernel_rfl) hf with ⟨hcs, _⟩ | ⟨x, l, c, ss, hcs, _, hl, hm, hz, _, hcell, hws⟩
    · simp [Value.cells] at hcs
      obtain ⟨rfl, rfl, rfl⟩ := hcs
      exact ⟨fun _ => ByteArray.empty, Nat.zero_le _, fun h => absurd h (Nat.lt_irrefl 0)⟩
    · simp [Value.cells] at hcs
      obtain ⟨rfl, rfl, rfl⟩ := hcs
      have hz' : ss.length = cap2 := by simpa using hz
      refine ⟨fun j => ss.getD j ByteArray.empty, Nat.le_trans hl hm, fun h => ?_⟩
      obtain ⟨b, off, spot⟩ := x
      have hspot : spot = none := by simpa [Addr.add] using World.cell?_spot (hcell 0 (by omega))
      subst hspot
      refine ⟨b, off, rfl, fun j hj => ⟨by rw [← add_plain]; exact hcell j (by omega), ?_⟩⟩
      have hjl : j < ss.length := by omega
      have e : ss.getD j ByteArray.empty = ss[j] := by simp [List.getD, List.getElem?_eq_getElem hjl]
      show (ss.getD j ByteArray.empty).size ≤ maxLen
      rw [e]
      exact hws _ (List.getElem_mem hjl)
  obtain ⟨a3, len3, cap3, rfl⟩ := okWide_slice Easg.underlying23 (hval 3 23 v3 rfl rfl)
  have k3 := h3
  have lt3 : ∀ x ∈ p3, x.block < W.heap.size := by obtain ⟨m, hm⟩ := k3; exact DataW.trod_lt m _ _ _ hm
  obtain ⟨z3, w3⟩ : ∃ R, IsInts W a3 len3 R := by
    obtain ⟨fuel, hf⟩ := h3
    rcases open_ints Easg.underlying23 Easg.underlying3 (by kernel_rfl) hf with ⟨hcs, _⟩ | ⟨x, l, c, zs, hcs, _, hl, hm, hz, _, hcell, _⟩
    · simp [Value.cells] at hcs
      obtain ⟨rfl, rfl, rfl⟩ := hcs
      exact ⟨fun _ => 0, Nat.zero_le _, fun h => absurd h (Nat.lt_irrefl 0)⟩
    · simp [Value.cells] at hcs
      obtain ⟨rfl, rfl, rfl⟩ := hcs
      have hz' : zs.length = cap3 := by simpa using hz
      refine ⟨fun j => zs.getD j 0, Nat.le_trans hl hm, fun h => ?_⟩
      obtain ⟨b, off, spot⟩ := x
      have hspot : spot = none := by simpa [Addr.add] using World.cell?_spot (hcell 0 (by omega))
      subst hspot
      exact ⟨b, off, rfl, fun j hj => by rw [← add_plain]; exact hcell j (by omega)⟩
  clear hA0 hval0
  refine (walk a0 a1 a2 len2 cap2 z2 a3 len3 cap3 z3 W w0 w2 w3).mono fun e W' ⟨he, bel⟩ => ?_
  subst he
  exact ⟨_, rfl, _, _, _, [], _, [], hW', trodAll_mk1 (shut_bool Easg.underlying4 _), (trodAll_cons_mk (shut_string Easg.underlying9 w0) (trodAll_cons_mk (shut_int Easg.underlying3 w1) (trodAll_cons_mk (Below.trod laidOut (by kernel_rfl) (of_decide_eq_true (by kernel_rfl)) k2 bel lt2) (trodAll_cons_mk (Below.trod laidOut (by kernel_rfl) (of_decide_eq_true (by kernel_rfl)) k3 bel lt3) trodAll_mk0)))), rfl, bel.frame _, fun h => by cases h⟩

theorem over : Rows.fnIndexExprChainSpecRow.holds Easg.pinned (OpenSpec.ofChange Rows.fnIndexExprChainSpecSpec) :=
  OpenClaim.holds_of_wide 3 Easg.f3 rfl rfl rfl rfl rfl rfl rfl ⟨rfl, rfl, rfl, rfl, rfl⟩ rfl rfl rfl rfl rfl (by kernel_rfl) Easg.func3 (by kernel_rfl)
    (of_decide_eq_true (by kernel_rfl)) (by unfold Func.isWrapper; first | (rw [if_pos (by decide +kernel)]; kernel_rfl) | (rw [if_neg (by decide +kernel)]; exact ⟨rfl, rfl⟩))
    (fun os started H enc _ => lifted os started H enc)

/-- The statement. -/
theorem proved : Rows.FnIndexExprChainSpecSaid := over
end Go.Proofs.Yoeasw.fnIndexExprChainSpec

namespace Go.Proofs.Yoeasw
/-- The given statement, under its short name. -/
theorem fnIndexExprChainSpec_holds : Rows.FnIndexExprChainSpecSaid := fnIndexExprChainSpec.proved
end Go.Proofs.Yoeasw
