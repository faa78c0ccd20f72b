/-
  THE PROOF OF 'Rows.FnDefaultKeyAgreesWithPrimaryKeySaid': the frame; its walk: Qxb6613626aLaw.lean.
-/
import Derived.Test.Qxb6613626aFrame
namespace Go.Proofs.Qxb6613626a.fnDefaultKeyAgreesWithPrimaryKey
open Go.ChangeShapes Go.WideShapes Go.ChangeAt Go.RowKit
set_option linter.unusedVariables false

theorem own : ownKnob Try.prog.godebug = none := by kernel_rfl
theorem laidOut : laidOutB Try.prog = true := by kernel_rfl

set_option maxRecDepth 100000 in
theorem lifted (os : Os) (started : os.Started) (H : Type) (enc : TypeId × Value → H) :
    ReturnsInHanded {} Try.checked os 3 .any (Rows.fnDefaultKeyAgreesWithPrimaryKeySpec.pre6 enc Try.prog Try.f3 Rows.fnDefaultKeyAgreesWithPrimaryKeyRow.domain false) (Rows.fnDefaultKeyAgreesWithPrimaryKeySpec.post enc Try.prog Try.f3 false true false false) := by
  refine returnsInHanded_of_change (C := Try.checked) own started (by kernel_rfl) Try.func3
    (ChangeSpec.witness6 (enc := enc) (C := Try.checked) false ⟨#[], #[.slice none 0 0, .slice none 0 0, .slice none 0 0], []⟩ 8 (by kernel_rfl) (by kernel_rfl) (by kernel_rfl) (by kernel_rfl)) ?_
  intro W base args ds gs before hval0 hW hcnd _
  have hval : ∀ (j : Nat) t v, Try.f3.params[j]? = some t → args[j]? = some v → Value.okWide Try.prog W .any base t v := hval0
  have hW' := hW
  obtain ⟨p, q, hA0, hV, rfl, hfz, hnd⟩ := hW
  have hA : DataW.TrodAll enc Try.prog W 0 (fun _ => true) true Try.f3.params.toList args.toList ds p := hA0
  rw [Try.params3] at hA hval
  obtain ⟨v0, vs0, d0, ds0, p0, q0, hargs, rfl, rfl, h0, r0⟩ := trodAll_cons hA
  obtain ⟨v1, vs1, d1, ds1, p1, q1, rfl, rfl, rfl, h1, r1⟩ := trodAll_cons r0
  obtain ⟨v2, vs2, d2, ds2, p2, q2, rfl, rfl, rfl, h2, r2⟩ := trodAll_cons r1
  obtain ⟨rfl, rfl, rfl⟩ := trodAll_nil r2
  obtain rfl : args = #[v0, v1, v2] := by cases args; simp_all
  obtain ⟨rfl, rfl⟩ := trodVars_none hV
  obtain ⟨a0, len0, cap0, rfl⟩ := okWide_slice Try.underlying22 (hval 0 22 v0 rfl rfl)
  have k0 := h0
  have lt0 : ∀ x ∈ p0, x.block < W.heap.size := by obtain ⟨m, hm⟩ := k0; exact DataW.trod_lt m _ _ _ hm
  obtain ⟨a1, len1, cap1, rfl⟩ := okWide_slice Try.underlying22 (hval 1 22 v1 rfl rfl)
  have k1 := h1
  have lt1 : ∀ x ∈ p1, x.block < W.heap.size := by obtain ⟨m, hm⟩ := k1; exact DataW.trod_lt m _ _ _ hm
  obtain ⟨a2, len2, cap2, rfl⟩ := okWide_slice Try.underlying23 (hval 2 23 v2 rfl rfl)
  have k2 := h2
  have lt2 : ∀ x ∈ p2, x.block < W.heap.size := by obtain ⟨m, hm⟩ := k2; exact DataW.trod_lt m _ _ _ hm
  obtain ⟨m0, S1, hS1, hz1⟩ : len0 ≤ maxLen ∧ ∃ S : Nat → ByteArray, Lies W W.heap.size a0 len0 (fun i => .string (S i)) ∧ ∀ i, i < len0 → (S i).size ≤ maxLen := by
    obtain ⟨fuel, hf⟩ := h0
    exact open_strs hf
  obtain ⟨m1, S2, hS2, _⟩ : len1 ≤ maxLen ∧ ∃ S : Nat → ByteArray, Lies W W.heap.size a1 len1 (fun i => .string (S i)) ∧ ∀ i, i < len1 → (S i).size ≤ maxLen := by
    obtain ⟨fuel, hf⟩ := h1
    exact open_strs hf
  obtain ⟨m2, ra, mm, rc, J, hR, hmx, hJ⟩ : len2 ≤ maxLen ∧ ∃ (ra : Nat → Option Addr) (m rc : Nat → Nat) (J : Nat → Nat → Int), Lies W W.heap.size a2 len2 (fun i => .slice (ra i) (m i) (rc i)) ∧ (∀ i, i < len2 → m i ≤ maxLen) ∧
      ∀ i, i < len2 → Lies W W.heap.size (ra i) (m i) (fun k => .int .i64 (J i k)) := by
    obtain ⟨fuel, hf⟩ := h2
    exact open_rows hf
  clear hA0 hval0
  refine (law3 W a0 a1 a2 len0 cap0 len1 cap1 len2 cap2 S1 S2 ra mm rc J hS1 hS2 hR hJ m0 m1 m2 hmx hz1).mono fun e W' ⟨he, bel⟩ => ?_
  subst he
  exact ⟨_, rfl, _, _, _, [], _, [], hW', trodAll_mk1 (shut_bool Try.underlying4 _), (trodAll_cons_mk (Below.trod laidOut (by kernel_rfl) (of_decide_eq_true (by kernel_rfl)) k0 bel lt0) (trodAll_cons_mk (Below.trod laidOut (by kernel_rfl) (of_decide_eq_true (by kernel_rfl)) k1 bel lt1) (trodAll_cons_mk (Below.trod laidOut (by kernel_rfl) (of_decide_eq_true (by kernel_rfl)) k2 bel lt2) trodAll_mk0))), rfl, bel.frame _, fun h => by cases h⟩

theorem over : Rows.fnDefaultKeyAgreesWithPrimaryKeyRow.holds Try.pinned (OpenSpec.ofChange Rows.fnDefaultKeyAgreesWithPrimaryKeySpec) :=
  OpenClaim.holds_of_wide 3 Try.f3 rfl rfl rfl rfl rfl rfl rfl ⟨rfl, rfl, rfl, rfl, rfl⟩ rfl rfl rfl rfl rfl (by kernel_rfl) Try.func3 (by kernel_rfl)
    (of_decide_eq_true (by kernel_rfl)) (by unfold Func.isWrapper; first | (rw [if_pos (by decide +kernel)]; kernel_rfl) | (rw [if_neg (by decide +kernel)]; exact ⟨rfl, rfl⟩))
    (fun os started H enc _ => lifted os started H enc)

/-- ████ THE STATEMENT ████ -/
theorem proved : Rows.FnDefaultKeyAgreesWithPrimaryKeySaid := over
end Go.Proofs.Qxb6613626a.fnDefaultKeyAgreesWithPrimaryKey
