/-
  THE PROOF OF 'Rows.FnIsHexDigitMatchesEncoderAlphabetSaid': the given shell, its walk filled in; the callees' contracts: Qxb6613667aParts.lean.
-/
import Derived.Test.Qxb6613667aParts
import Derived.WalkKit
import Derived.ProofKit
import Derived.OpenShut
import Derived.ShutString
namespace Go.Proofs.Qxb6613667a.fnIsHexDigitMatchesEncoderAlphabet
open Go.ChangeShapes Go.WideShapes Go.ChangeAt Go.RowKit
open Go.ChangeMaps (open_string shut_string)
set_option linter.unusedVariables false      -- a walk need not use every 'w<i>' (that an integer argument fits its kind)

/-- Has one of the first k nibbles the character c? -/
def seen (c : Int) : Nat → Bool
  | 0 => false
  | k + 1 => seen c k || (nib k false == c) || (nib k true == c)

theorem seen_yes {c : Int} {k : Nat} (h : nib k false = c ∨ nib k true = c) : seen c (k + 1) = true := by
  rcases h with h | h <;> simp [seen, h]
theorem seen_no {c : Int} {k : Nat} (h : ¬ (nib k false = c ∨ nib k true = c)) : seen c (k + 1) = seen c k := by
  have h1 : (nib k false == c) = false := by simpa using fun e => h (.inl e)
  have h2 : (nib k true == c) = false := by simpa using fun e => h (.inr e)
  simp [seen, h1, h2]
/-- THE PLAIN LAW: the sixteen nibbles' characters are the hex digits. -/
theorem seen_all (c : Int) : seen c 16 = hexB c := by
  rw [Bool.eq_iff_iff]
  simp [seen, nib, hexB]
  omega

theorem own : ownKnob Try.prog.godebug = none := by kernel_rfl

/-! ### STEP 1: THE WALK: the Go text returns true. 'Grown w w'': the world has at most new blocks (Derived/RowKit3.lean). Part the cases AHEAD of 'go_enter' where a test parts the walk; take each callee by a contract of your own. -/
theorem walk (a0 : Int) (w0 : (Lit.int .u8 a0).wf = true) (w : World) :
    Calls Try.prog 3 #[.int .u8 a0] w fun e w' => e = .returned (.bool true) ∧ Grown w w' := by
  have hb := bounds_u8 w0
  go_enter Try.func3, Try.ntmps3
  go_wp2
  go_loop [3, 4] (fun x i => ∃ k : Nat, k ≤ 16 ∧ i = .int .i64 k ∧ x = .bool (seen a0 k)) (fun _ i => 16 - (intOf i).toNat)
  case atStart => exact ⟨0, Nat.zero_le _, rfl, rfl⟩
  case round =>
    obtain ⟨k, hk, rfl, rfl⟩ := hrel
    by_cases hlt : k < 16
    · go_wp2_with (go_at_call 5; refine (nib5 _ _ _ (by omega) (by omega)).mono ?_; rintro e w' ⟨rfl, rfl⟩)
      · go_round
        case rel => exact ⟨k + 1, by omega, by go_num, by rw [seen_yes (.inl ‹_›)]⟩
        case measure => simp [intOf]; omega
      · have h : (nib (↑k) false == a0) = true ∨ (nib (↑k) true == a0) = true := by assumption
        go_round
        case rel => exact ⟨k + 1, by omega, by go_num, by rw [seen_yes (by simpa using h)]⟩
        case measure => simp [intOf]; omega
      · have h : (nib (↑k) false == a0) = false ∧ (nib (↑k) true == a0) = false := by assumption
        go_round
        case rel => exact ⟨k + 1, by omega, by go_num, by rw [seen_no (by simpa using h)]⟩
        case measure => simp [intOf]; omega
    · go_wp2_with (go_at_call 6; refine (hex6 _ _ (by omega) (by omega)).mono ?_; rintro e w' ⟨rfl, rfl⟩)
      obtain rfl : k = 16 := by omega
      go_ret
      exact ⟨ret_bool (by rw [seen_all]; simp), Grown.refl _⟩

/-! ### THE ROW's STEP: WRITTEN OUT: LEAVE IT -/
set_option maxRecDepth 100000 in
theorem lifted (os : Os) (started : os.Started) (H : Type) (enc : TypeId × Value → H) :
    ReturnsInHanded {} Try.checked os 3 .any (Rows.fnIsHexDigitMatchesEncoderAlphabetSpec.pre6 enc Try.prog Try.f3 Rows.fnIsHexDigitMatchesEncoderAlphabetRow.domain false) (Rows.fnIsHexDigitMatchesEncoderAlphabetSpec.post enc Try.prog Try.f3 false true false false) := by
  refine returnsInHanded_of_change (C := Try.checked) own started (by kernel_rfl) Try.func3
    (ChangeSpec.witness6 (enc := enc) (C := Try.checked) false ⟨#[], #[.int .u8 0], []⟩ 8 (by kernel_rfl) (by kernel_rfl) (by kernel_rfl) (by kernel_rfl)) ?_
  intro W base args ds gs before hval0 hW hcnd _
  have hval : ∀ (j : Nat) t v, Try.f3.params[j]? = some t → args[j]? = some v → Value.okWide Try.prog W .any base t v := hval0
  have hW' := hW
  obtain ⟨p, q, hA0, hV, rfl, hfz, hnd⟩ := hW
  have hA : DataW.TrodAll enc Try.prog W 0 (fun _ => true) true Try.f3.params.toList args.toList ds p := hA0
  rw [Try.params3] at hA hval
  obtain ⟨v0, vs0, d0, ds0, p0, q0, hargs, rfl, rfl, h0, r0⟩ := trodAll_cons hA
  obtain ⟨rfl, rfl, rfl⟩ := trodAll_nil r0
  obtain rfl : args = #[v0] := by cases args; simp_all
  obtain ⟨rfl, rfl⟩ := trodVars_none hV
  obtain ⟨a0, rfl, rfl, rfl, w0⟩ := open_int Try.underlying5 (hval 0 5 v0 rfl rfl) h0
  clear hA0 hval0
  simp only [List.append_nil] at hW'
  refine (walk a0 w0 W).mono fun e W' ⟨he, hg⟩ => ?_
  subst he
  exact ⟨_, rfl, post_of_same (pa := []) (pv := []) hW' (fun _ _ _ => (trodAll_cons_mk (shut_bool Try.underlying4 _) trodAll_mk0)) (fun sp _ => (trodAll_cons_mk (shut_int Try.underlying5 w0) trodAll_mk0)) (fun _ _ => rfl) rfl
    (hg.frame _) hg.2.1 (ok_one (by kernel_rfl) rfl (okWide_bool_mk Try.underlying4 _))⟩

theorem over : Rows.fnIsHexDigitMatchesEncoderAlphabetRow.holds Try.pinned (OpenSpec.ofChange Rows.fnIsHexDigitMatchesEncoderAlphabetSpec) :=
  OpenClaim.holds_of_wide 3 Try.f3 rfl rfl rfl rfl rfl rfl rfl ⟨rfl, rfl, rfl, rfl, rfl⟩ rfl rfl rfl rfl rfl (by kernel_rfl) Try.func3 (by kernel_rfl)
    (of_decide_eq_true (by kernel_rfl)) (by unfold Func.isWrapper; first | (rw [if_pos (by decide +kernel)]; kernel_rfl) | (rw [if_neg (by decide +kernel)]; exact ⟨rfl, rfl⟩))
    (fun os started H enc _ => lifted os started H enc)

/-- ████ THE STATEMENT ████ -/
theorem proved : Rows.FnIsHexDigitMatchesEncoderAlphabetSaid :=
  over
end Go.Proofs.Qxb6613667a.fnIsHexDigitMatchesEncoderAlphabet
