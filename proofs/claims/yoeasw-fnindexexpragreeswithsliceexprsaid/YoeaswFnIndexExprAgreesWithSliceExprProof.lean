/-
  The proof of the row 'FnIndexExprAgreesWithSliceExpr': the frame as the kit's tool wrote it for this program, the walk out of YoeaswAgrees.
-/
import Derived.Test.YoeaswRows
import Derived.Test.YoeaswAgrees
import Derived.WalkKit
import Derived.ProofKit
import Derived.OpenShut
import Derived.ShutString
namespace Go.Proofs.Yoeasw.fnIndexExprAgreesWithSliceExpr
open Go.ChangeShapes Go.WideShapes Go.ChangeAt Go.RowKit
open Go.ChangeMaps (open_string shut_string)
set_option linter.unusedVariables false      -- a walk need not use every 'w<i>' (that an integer argument fits its kind)

theorem own : ownKnob Easg.prog.godebug = none := by kernel_rfl

/-! ### The walk: the Go text returns true. -/
theorem walk (a0 : ByteArray) (a1 : Int) (a2 : ByteArray) (a3 : Bool) (a4 : Int) (a5 : Int) (w0 : a0.size ≤ maxLen) (w1 : (Lit.int .i64 a1).wf = true) (w2 : a2.size ≤ maxLen) (w4 : (Lit.int .i64 a4).wf = true) (w5 : (Lit.int .i64 a5).wf = true) (w : World) :
    Calls Easg.prog 4 #[.string a0, .int .i64 a1, .string a2, .bool a3, .int .i64 a4, .int .i64 a5] w fun e w' => e = .returned (.bool true) ∧ Grown w w' := by
  exact agrees_any a0 a1 a2 a3 a4 a5 w0 w2 w

/-! ### From the walk to the row. -/
set_option maxRecDepth 100000 in
theorem lifted (os : Os) (started : os.Started) (H : Type) (enc : TypeId × Value → H) :
    ReturnsInHanded {} Easg.checked os 4 .any (Rows.fnIndexExprAgreesWithSliceExprSpec.pre6 enc Easg.prog Easg.f4 Rows.fnIndexExprAgreesWithSliceExprRow.domain false) (Rows.fnIndexExprAgreesWithSliceExprSpec.post enc Easg.prog Easg.f4 false true false false) := by
  refine returnsInHanded_of_change (C := Easg.checked) own started (by kernel_rfl) Easg.func4
    (ChangeSpec.witness6 (enc := enc) (C := Easg.checked) false ⟨#[], #[.string ByteArray.empty, .int .i64 0, .string ByteArray.empty, .bool false, .int .i64 0, .int .i64 0], []⟩ 8 (by kernel_rfl) (by kernel_rfl) (by kernel_rfl) (by kernel_rfl)) ?_
  intro W base args ds gs before hval0 hW hcnd _
  have hval : ∀ (j : Nat) t v, Easg.f4.params[j]? = some t → args[j]? = some v → Value.okWide Easg.prog W .any base t v := hval0
  have hW' := hW
  obtain ⟨p, q, hA0, hV, rfl, hfz, hnd⟩ := hW
  have hA : DataW.TrodAll enc Easg.prog W 0 (fun _ => true) true Easg.f4.params.toList args.toList ds p := hA0
  rw [Easg.params4] at hA hval
  obtain ⟨v0, vs0, d0, ds0, p0, q0, hargs, rfl, rfl, h0, r0⟩ := trodAll_cons hA
  obtain ⟨v1, vs1, d1, ds1, p1, q1, rfl, rfl, rfl, h1, r1⟩ := trodAll_cons r0
  obtain ⟨v2, vs2, d2, ds2, p2, q2, rfl, rfl, rfl, h2, r2⟩ := trodAll_cons r1
  obtain ⟨v3, vs3, d3, ds3, p3, q3, rfl, rfl, rfl, h3, r3⟩ := trodAll_cons r2
  obtain ⟨v4, vs4, d4, ds4, p4, q4, rfl, rfl, rfl, h4, r4⟩ := trodAll_cons r3
  obtain ⟨v5, vs5, d5, ds5, p5, q5, rfl, rfl, rfl, h5, r5⟩ := trodAll_cons r4
  obtain ⟨rfl, rfl, rfl⟩ := trodAll_nil r5
  obtain rfl : args = #[v0, v1, v2, v3, v4, v5] := by cases args; simp_all
  obtain ⟨rfl, rfl⟩ := trodVars_none hV
  obtain ⟨a0, rfl, rfl, rfl, w0⟩ := open_string Easg.underlying9 (hval 0 9 v0 rfl rfl) h0
  obtain ⟨a1, rfl, rfl, rfl, w1⟩ := open_int Easg.underlying3 (hval 1 3 v1 rfl rfl) h1
  obtain ⟨a2, rfl, rfl, rfl, w2⟩ := open_string Easg.underlying9 (hval 2 9 v2 rfl rfl) h2
  obtain ⟨a3, rfl, rfl, rfl⟩ := open_bool Easg.underlying4 (hval 3 4 v3 rfl rfl) h3
  obtain ⟨a4, rfl, rfl, rfl, w4⟩ := open_int Easg.underlying3 (hval 4 3 v4 rfl rfl) h4
  obtain ⟨a5, rfl, rfl, rfl, w5⟩ := open_int Easg.underlying3 (hval 5 3 v5 rfl rfl) h5
  clear hA0 hval0
  simp only [List.append_nil] at hW'
  refine (walk a0 a1 a2 a3 a4 a5 w0 w1 w2 w4 w5 W).mono fun e W' ⟨he, hg⟩ => ?_
  subst he
  exact ⟨_, rfl, post_of_same (pa := []) (pv := []) hW' (fun _ _ _ => (trodAll_cons_mk (shut_bool Easg.underlying4 _) trodAll_mk0)) (fun sp _ => (trodAll_cons_mk (shut_string Easg.underlying9 w0) (trodAll_cons_mk (shut_int Easg.underlying3 w1) (trodAll_cons_mk (shut_string Easg.underlying9 w2) (trodAll_cons_mk (shut_bool Easg.underlying4 _) (trodAll_cons_mk (shut_int Easg.underlying3 w4) (trodAll_cons_mk (shut_int Easg.underlying3 w5) trodAll_mk0))))))) (fun _ _ => rfl) rfl
    (hg.frame _) hg.2.1 (ok_one (by kernel_rfl) rfl (okWide_bool_mk Easg.underlying4 _))⟩

theorem over : Rows.fnIndexExprAgreesWithSliceExprRow.holds Easg.pinned (OpenSpec.ofChange Rows.fnIndexExprAgreesWithSliceExprSpec) :=
  OpenClaim.holds_of_wide 4 Easg.f4 rfl rfl rfl rfl rfl rfl rfl ⟨rfl, rfl, rfl, rfl, rfl⟩ rfl rfl rfl rfl rfl (by kernel_rfl) Easg.func4 (by kernel_rfl)
    (of_decide_eq_true (by kernel_rfl)) (by unfold Func.isWrapper; first | (rw [if_pos (by decide +kernel)]; kernel_rfl) | (rw [if_neg (by decide +kernel)]; exact ⟨rfl, rfl⟩))
    (fun os started H enc _ => lifted os started H enc)

/-- The statement. -/
theorem proved : Rows.FnIndexExprAgreesWithSliceExprSaid :=
  over
end Go.Proofs.Yoeasw.fnIndexExprAgreesWithSliceExpr

namespace Go.Proofs.Yoeasw
/-- The given statement, under its short name. -/
theorem fnIndexExprAgreesWithSliceExpr_holds : Rows.FnIndexExprAgreesWithSliceExprSaid := fnIndexExprAgreesWithSliceExpr.proved
end Go.Proofs.Yoeasw
