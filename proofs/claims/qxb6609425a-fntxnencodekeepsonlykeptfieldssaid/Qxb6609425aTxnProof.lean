/-
  The frame of the proof of 'Rows.FnTxnEncodeKeepsOnlyKeptFieldsSaid'.
-/
import Derived.Test.Qxb6609425aRows
import Derived.Test.Qxb6609425aOpen
import Derived.Test.Qxb6609425aTo2
import Derived.Test.Qxb6609425aStripA
import Derived.Test.Qxb6609425aStripB
import Derived.Test.Qxb6609425aStripC
import Derived.WalkKit
import Derived.ProofKit
import Derived.OpenShut
import Derived.ShutString
import Derived.ChangeOld
import Derived.Below
namespace Go.Proofs.Qxb6609425a.fnTxnEncodeKeepsOnlyKeptFields
open Go.ChangeShapes Go.WideShapes Go.ChangeAt Go.RowKit
set_option linter.unusedVariables false
set_option linter.unusedSimpArgs false

theorem toC : ToC := fun d n₀ cs f fs t w h ht hn => toTxn_any d n₀ cs f fs t w h ht hn

theorem stC : StC := fun d n₀ cs f fs t w h ht hn => by
  by_cases hop : f.op = 14
  · by_cases hac : f.acl.length = 0
    · exact strip_multiB d n₀ cs f fs t w h ht hn hop hac
    · exact strip_multiC d n₀ cs f fs t w h ht hn hop hac
  · exact strip_no d n₀ cs f fs t w h ht hn hop

theorem own : ownKnob Try.prog.godebug = none := by kernel_rfl
theorem laidOut : laidOutB Try.prog = true := by kernel_rfl

set_option maxRecDepth 100000 in
theorem lifted (os : Os) (started : os.Started) (H : Type) (enc : TypeId × Value → H) :
    ReturnsInHanded {} Try.checked os 3 .any (Rows.fnTxnEncodeKeepsOnlyKeptFieldsSpec.pre6 enc Try.prog Try.f3 Rows.fnTxnEncodeKeepsOnlyKeptFieldsRow.domain false) (Rows.fnTxnEncodeKeepsOnlyKeptFieldsSpec.post enc Try.prog Try.f3 false true false false) := by
  refine returnsInHanded_of_change (C := Try.checked) own started (by kernel_rfl) Try.func3
    (ChangeSpec.witness6 (enc := enc) (C := Try.checked) false ⟨#[], #[.agg #[.int .u64 0, .int .i64 0, .int .i32 0, .string ⟨#[]⟩, .slice none 0 0, .slice none 0 0, .int .i32 0, .int .i64 0, .int .i32 0, .slice none 0 0, .slice none 0 0, .bool false, .slice none 0 0, .int .i64 0], .bool false], []⟩ 8 (by kernel_rfl) (by kernel_rfl) (by kernel_rfl) (by kernel_rfl)) ?_
  intro W base args ds gs before hval0 hW hcnd _
  have hval : ∀ (j : Nat) t v, Try.f3.params[j]? = some t → args[j]? = some v → Value.okWide Try.prog W .any base t v := hval0
  have hW' := hW
  obtain ⟨p, q, hA0, hV, rfl, hfz, hnd⟩ := hW
  have hA : DataW.TrodAll enc Try.prog W 0 (fun _ => true) true Try.f3.params.toList args.toList ds p := hA0
  rw [Try.params3] at hA hval
  obtain ⟨v0, vs0, d0, ds0, p0, q0, hargs, rfl, rfl, h0, r0⟩ := trodAll_cons hA
  obtain ⟨v1, vs1, d1, ds1, p1, q1, rfl, rfl, rfl, h1, r1⟩ := trodAll_cons r0
  obtain ⟨rfl, rfl, rfl⟩ := trodAll_nil r1
  obtain rfl : args = #[v0, v1] := by cases args; simp_all
  obtain ⟨rfl, rfl⟩ := trodVars_none hV
  obtain ⟨cs, rfl, hcs⟩ := okWide_struct Try.underlying28 (hval 0 28 v0 rfl rfl)
  have k0 := h0
  have lt0 : ∀ x ∈ p0, x.block < W.heap.size := by obtain ⟨m, hm⟩ := k0; exact DataW.trod_lt m _ _ _ hm
  obtain ⟨d, f, fs, t, hin, hg, hgs⟩ : ∃ d f fs t, In d W.heap.size W cs.toList f fs t ∧ Good f ∧ ∀ g ∈ fs, Good g := by
    obtain ⟨fuel, hf⟩ := h0
    exact ⟨fuel, in_of fuel fuel _ _ (Nat.le_refl _) hf⟩
  obtain ⟨b1, rfl, rfl, rfl⟩ := open_bool Try.underlying4 (hval 1 4 v1 rfl rfl) h1
  clear hA0 hval0
  have hlaw := law_of toC stC d W.heap.size cs.toList f fs t b1 W hin hg hgs (Nat.le_refl _)
  refine hlaw.mono fun e W' ⟨he, bel⟩ => ?_
  subst he
  exact ⟨_, rfl, _, _, _, [], _, [], hW', trodAll_mk1 (shut_bool Try.underlying4 _), (trodAll_cons_mk (Below.trod laidOut (by kernel_rfl) (of_decide_eq_true (by kernel_rfl)) k0 bel lt0) (trodAll_cons_mk (shut_bool Try.underlying4 _) trodAll_mk0)), rfl, bel.frame _, fun h => by cases h⟩

theorem over : Rows.fnTxnEncodeKeepsOnlyKeptFieldsRow.holds Try.pinned (OpenSpec.ofChange Rows.fnTxnEncodeKeepsOnlyKeptFieldsSpec) :=
  OpenClaim.holds_of_wide 3 Try.f3 rfl rfl rfl rfl rfl rfl rfl ⟨rfl, rfl, rfl, rfl, rfl⟩ rfl rfl rfl rfl rfl (by kernel_rfl) Try.func3 (by kernel_rfl)
    (of_decide_eq_true (by kernel_rfl)) (by unfold Func.isWrapper; first | (rw [if_pos (by decide +kernel)]; kernel_rfl) | (rw [if_neg (by decide +kernel)]; exact ⟨rfl, rfl⟩))
    (fun os started H enc _ => lifted os started H enc)

end Go.Proofs.Qxb6609425a.fnTxnEncodeKeepsOnlyKeptFields

namespace Go.Proofs.Qxb6609425a
theorem proved : Rows.FnTxnEncodeKeepsOnlyKeptFieldsSaid := fnTxnEncodeKeepsOnlyKeptFields.over
end Go.Proofs.Qxb6609425a
