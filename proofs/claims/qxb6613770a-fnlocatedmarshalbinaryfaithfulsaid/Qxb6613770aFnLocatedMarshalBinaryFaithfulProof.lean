/- The proof of Rows.FnLocatedMarshalBinaryFaithfulSaid, in the frame of the kit's skeletons turned to this function. -/
import Derived.Test.Qxb6613770aLF
import Derived.Test.Qxb6613770aOpenL
import Derived.Below
namespace Go.Proofs.Qxb6613770a.fnLocatedMarshalBinaryFaithful
open Go.ChangeShapes Go.WideShapes Go.ChangeAt Go.RowKit
set_option linter.unusedVariables false

theorem own : ownKnob Try.prog.godebug = none := by kernel_rfl
theorem laidOut : laidOutB Try.prog = true := by kernel_rfl

set_option maxHeartbeats 1000000 in
set_option maxRecDepth 100000 in
theorem lifted (os : Os) (started : os.Started) (H : Type) (enc : TypeId × Value → H) :
    ReturnsInHanded {} Try.checked os 4 .any (Rows.fnLocatedMarshalBinaryFaithfulSpec.pre6 enc Try.prog Try.f4 Rows.fnLocatedMarshalBinaryFaithfulRow.domain false) (Rows.fnLocatedMarshalBinaryFaithfulSpec.post enc Try.prog Try.f4 false true false false) := by
  refine returnsInHanded_of_change (C := Try.checked) own started (by kernel_rfl) Try.func4
    (ChangeSpec.witness6 (enc := enc) (C := Try.checked) false ⟨#[], #[.agg #[.int .u64 0, .int .u64 0, .string ⟨#[]⟩, .string ⟨#[]⟩, .int .u64 0, .string ⟨#[]⟩, .bool false, .bool false, .slice none 0 0], .agg #[.int .u64 0, .int .u64 0, .string ⟨#[]⟩, .string ⟨#[]⟩, .int .u64 0, .string ⟨#[]⟩, .bool false, .bool false, .slice none 0 0]], []⟩ 8 (by kernel_rfl) (by kernel_rfl) (by kernel_rfl) (by kernel_rfl)) ?_
  intro W base args ds gs before hval0 hW hcnd _
  have hval : ∀ (j : Nat) t v, Try.f4.params[j]? = some t → args[j]? = some v → Value.okWide Try.prog W .any base t v := hval0
  have hW' := hW
  obtain ⟨p, q, hA0, hV, rfl, hfz, hnd⟩ := hW
  have hA : DataW.TrodAll enc Try.prog W 0 (fun _ => true) true Try.f4.params.toList args.toList ds p := hA0
  rw [Try.params4] at hA hval
  obtain ⟨v0, vs0, d0, ds0, p0, q0, hargs, rfl, rfl, h0, r0⟩ := trodAll_cons hA
  obtain ⟨v1, vs1, d1, ds1, p1, q1, rfl, rfl, rfl, h1, r1⟩ := trodAll_cons r0
  obtain ⟨rfl, rfl, rfl⟩ := trodAll_nil r1
  obtain rfl : args = #[v0, v1] := by cases args; simp_all
  obtain ⟨rfl, rfl⟩ := trodVars_none hV
  obtain ⟨cs, rfl, hsz⟩ := okWide_struct Try.underlying27 (hval 0 27 v0 rfl rfl)
  obtain ⟨cs', rfl, hsz'⟩ := okWide_struct Try.underlying27 (hval 1 27 v1 rfl rfl)
  have k0 := h0
  have k1 := h1
  have lt0 : ∀ x ∈ p0, x.block < W.heap.size := by obtain ⟨m, hm⟩ := k0; exact DataW.trod_lt m _ _ _ hm
  have lt1 : ∀ x ∈ p1, x.block < W.heap.size := by obtain ⟨m, hm⟩ := k1; exact DataW.trod_lt m _ _ _ hm
  obtain ⟨fuel, hf⟩ := h0
  obtain ⟨fuel', hf'⟩ := h1
  obtain ⟨l, aa, n, c, rfl, b1, b2, b3, b4, b5, b6, b7, b8, b9, b10, b11⟩ := openL (hsz.trans cells27) (by simpa [Value.cells] using hf)
  obtain ⟨l', aa', n', c', rfl, e1, e2, e3, e4, e5, e6, e7, e8, e9, e10, e11⟩ := openL (hsz'.trans cells27) (by simpa [Value.cells] using hf')
  clear hA0 hval0 hf hf'
  refine (lf_walk l l' b1 b2 b3 b4 b5 b6 b7 e1 e2 e3 e4 e5 e6 e7 aa aa' n c n' c' b8 b9 e8 e9 W b10 e10 b11 e11).mono fun e W' ⟨he, bel⟩ => ?_
  subst he
  exact ⟨_, rfl, _, _, _, [], _, [], hW', trodAll_mk1 (shut_bool Try.underlying4 _), (trodAll_cons_mk (Below.trod laidOut (by kernel_rfl) (of_decide_eq_true (by kernel_rfl)) k0 bel lt0) (trodAll_cons_mk (Below.trod laidOut (by kernel_rfl) (of_decide_eq_true (by kernel_rfl)) k1 bel lt1) trodAll_mk0)), rfl, bel.frame _, fun h => by cases h⟩

theorem over : Rows.fnLocatedMarshalBinaryFaithfulRow.holds Try.pinned (OpenSpec.ofChange Rows.fnLocatedMarshalBinaryFaithfulSpec) :=
  OpenClaim.holds_of_wide 4 Try.f4 rfl rfl rfl rfl rfl rfl rfl ⟨rfl, rfl, rfl, rfl, rfl⟩ rfl rfl rfl rfl rfl (by kernel_rfl) Try.func4 (by kernel_rfl)
    (of_decide_eq_true (by kernel_rfl)) (by unfold Func.isWrapper; first | (rw [if_pos (by decide +kernel)]; kernel_rfl) | (rw [if_neg (by decide +kernel)]; exact ⟨rfl, rfl⟩))
    (fun os started H enc _ => lifted os started H enc)

/-- The statement. -/
theorem proved : Rows.FnLocatedMarshalBinaryFaithfulSaid := over
#print axioms proved
end Go.Proofs.Qxb6613770a.fnLocatedMarshalBinaryFaithful
