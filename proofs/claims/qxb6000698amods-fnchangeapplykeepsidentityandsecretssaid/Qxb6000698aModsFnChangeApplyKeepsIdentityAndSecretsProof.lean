import Derived.Test.Qxb6000698aModsLaw
import Derived.Test.Qxb6000698aModsOpen2
import Derived.Test.Qxb6000698aModsHead
namespace Go.Proofs.Qxb6000698aMods.fnChangeApplyKeepsIdentityAndSecrets
open Go.ChangeShapes Go.WideShapes Go.ChangeAt Go.RowKit
set_option linter.unusedVariables false

set_option maxRecDepth 100000 in
theorem lifted (os : Os) (started : os.Started) (H : Type) (enc : TypeId × Value → H) :
    ReturnsInHanded {} Trym.checked os 3 .any (Rows.fnChangeApplyKeepsIdentityAndSecretsSpec.pre6 enc Trym.prog Trym.f3 Rows.fnChangeApplyKeepsIdentityAndSecretsRow.domain false) (Rows.fnChangeApplyKeepsIdentityAndSecretsSpec.post enc Trym.prog Trym.f3 false true false false) := by
  refine returnsInHanded_of_change (C := Trym.checked) own started (by kernel_rfl) Trym.func3
    (ChangeSpec.witness6 (enc := enc) (C := Trym.checked) false ⟨#[], #[.agg #[.bool false, .string ByteArray.empty, .bool false, .string ByteArray.empty, .bool false, .slice none 0 0, .bool false, .int .i64 0, .bool false, .int .i64 0, .bool false, .string ByteArray.empty], .agg #[.string ByteArray.empty, .string ByteArray.empty, .string ByteArray.empty, .slice none 0 0, .int .i64 0, .int .i64 0, .int .i64 0, .string ByteArray.empty, .int .i64 0, .string ByteArray.empty, .int .i64 0, .int .i64 0, .string ByteArray.empty, .string ByteArray.empty]], []⟩ 8 (by kernel_rfl) (by kernel_rfl) (by kernel_rfl) (by kernel_rfl)) ?_
  intro W base args ds gs before hval0 hW hcnd _
  have hval : ∀ (j : Nat) t v, Trym.f3.params[j]? = some t → args[j]? = some v → Value.okWide Trym.prog W .any base t v := hval0
  have hW' := hW
  obtain ⟨p, q, hA0, hV, rfl, hfz, hnd⟩ := hW
  have hA : DataW.TrodAll enc Trym.prog W 0 (fun _ => true) true Trym.f3.params.toList args.toList ds p := hA0
  rw [Trym.params3] at hA hval
  obtain ⟨v0, vs0, d0, ds0, p0, q0, hargs, rfl, rfl, h0, r0⟩ := trodAll_cons hA
  obtain ⟨v1, vs1, d1, ds1, p1, q1, rfl, rfl, rfl, h1, r1⟩ := trodAll_cons r0
  obtain ⟨rfl, rfl, rfl⟩ := trodAll_nil r1
  obtain rfl : args = #[v0, v1] := by cases args; simp_all
  obtain ⟨rfl, rfl⟩ := trodVars_none hV
  have k0 := h0
  have lt0 : ∀ x ∈ p0, x.block < W.heap.size := by obtain ⟨m, hm⟩ := k0; exact DataW.trod_lt m _ _ _ hm
  have k1 := h1
  have lt1 : ∀ x ∈ p1, x.block < W.heap.size := by obtain ⟨m, hm⟩ := k1; exact DataW.trod_lt m _ _ _ hm
  obtain ⟨h0x, h2x, h4x, h6x, h8x, h10x, c1, c3, c11, c7, c9, ca, cl, cc, f, rfl, hS⟩ := open24 (hval 0 24 v0 rfl rfl) h0
  obtain ⟨s0, s1, s2, s7, s9, s12, s13, i4, i5, i6, i8, i10, i11, ka, kl, kc, g, rfl, hS'⟩ := open26 (hval 1 26 v1 rfl rfl) h1
  clear hA0 hval0
  refine (law_any _ _ _ _ _ _ _ _ _ _ _ _ _ _ _ _ _ _ _ _ _ _ _ _ _ _ _ _ _ _ f g W hS hS').mono fun e W' ⟨he, bel⟩ => ?_
  subst he
  exact ⟨_, rfl, _, _, _, [], _, [], hW', trodAll_mk1 (shut_bool Trym.underlying4 _), (trodAll_cons_mk (Below.trod laidOut (by kernel_rfl) (of_decide_eq_true (by kernel_rfl)) k0 bel lt0) (trodAll_cons_mk (Below.trod laidOut (by kernel_rfl) (of_decide_eq_true (by kernel_rfl)) k1 bel lt1) trodAll_mk0)), rfl, bel.frame _, fun h => by cases h⟩

theorem closed : joinedFacts Trym.checked.prog 3 Trym.f3 Rows.fnChangeApplyKeepsIdentityAndSecretsSpec Rows.fnChangeApplyKeepsIdentityAndSecretsRow = true := by
  unfold joinedFacts
  rw [may_enter, lifts_final, make_is]
  repeat' (with_reducible refine and_mk ?_ ?_)
  all_goals kernel_rfl

theorem over : Rows.fnChangeApplyKeepsIdentityAndSecretsRow.holds Trym.pinned (OpenSpec.ofChange Rows.fnChangeApplyKeepsIdentityAndSecretsSpec) :=
  OpenClaim.holds_of_wide 3 Trym.f3 rfl rfl rfl rfl rfl rfl rfl ⟨rfl, rfl, rfl, rfl, rfl⟩ rfl rfl rfl rfl rfl (by kernel_rfl) Trym.func3 closed
    (of_decide_eq_true (by kernel_rfl)) (by unfold Func.isWrapper; first | (rw [if_pos (by decide +kernel)]; kernel_rfl) | (rw [if_neg (by decide +kernel)]; exact ⟨rfl, rfl⟩))
    (fun os started H enc _ => lifted os started H enc)

/-- THE STATEMENT -/
theorem proved : Rows.FnChangeApplyKeepsIdentityAndSecretsSaid := over
end Go.Proofs.Qxb6000698aMods.fnChangeApplyKeepsIdentityAndSecrets
