/-
  THE PROOF OF 'Rows.FnIsHexDigitCaseSymmetricCountSaid': the given shell, its walk filled in; the callees' contracts: Qxb6613667aParts.lean.
-/
import Derived.Test.Qxb6613667aParts
import Derived.WalkKit
import Derived.ProofKit
import Derived.OpenShut
import Derived.ShutString
namespace Go.Proofs.Qxb6613667a.fnIsHexDigitCaseSymmetricCount
open Go.ChangeShapes Go.WideShapes Go.ChangeAt Go.RowKit
open Go.ChangeMaps (open_string shut_string)
set_option linter.unusedVariables false      -- a walk need not use every 'w<i>' (that an integer argument fits its kind)

/-- How many of the first k bytes are hex digits; how many of these the change of case leaves alone. -/
def tot : Nat → Int
  | 0 => 0
  | k + 1 => bif hexB k then tot k + 1 else tot k
def csl : Nat → Int
  | 0 => 0
  | k + 1 => bif hexB k && (swp k == k) then csl k + 1 else csl k
theorem tot_le (k : Nat) : 0 ≤ tot k ∧ tot k ≤ k := by
  induction k with
  | zero => exact ⟨Int.le_refl _, Int.le_refl _⟩
  | succ k ih => unfold tot; cases hexB k <;> simp <;> omega
theorem csl_le (k : Nat) : 0 ≤ csl k ∧ csl k ≤ k := by
  induction k with
  | zero => exact ⟨Int.le_refl _, Int.le_refl _⟩
  | succ k ih => unfold csl; cases (hexB k && (swp k == k)) <;> simp <;> omega
theorem tot_yes {k : Nat} (h : hexB k = true) : tot (k + 1) = tot k + 1 := by simp [tot, h]
theorem tot_no {k : Nat} (h : hexB k = false) : tot (k + 1) = tot k := by simp [tot, h]
theorem csl_yes {k : Nat} (h : hexB k = true) (h' : (swp (k : Int) == (k : Int)) = true) : csl (k + 1) = csl k + 1 := by
  show (bif hexB k && (swp k == k) then csl k + 1 else csl k) = _
  rw [h, h']; rfl
theorem csl_no {k : Nat} (h : hexB k = false ∨ (swp (k : Int) == (k : Int)) = false) : csl (k + 1) = csl k := by
  show (bif hexB k && (swp k == k) then csl k + 1 else csl k) = _
  rcases h with h | h
  · rw [h]; rfl
  · rw [h]; simp
/-- THE PLAIN LAW: 22 hex digits among the 256 bytes, 10 of them no letters. -/
theorem tot_all : tot 256 = 22 := by decide +kernel
theorem csl_all : csl 256 = 10 := by decide +kernel

theorem own : ownKnob Try.prog.godebug = none := by kernel_rfl

/-! ### STEP 1: THE WALK: the Go text returns true. 'Grown w w'': the world has at most new blocks (Derived/RowKit3.lean). Part the cases AHEAD of 'go_enter' where a test parts the walk; take each callee by a contract of your own. -/
set_option maxRecDepth 10000 in
theorem walk (a0 : Int) (w0 : (Lit.int .u8 a0).wf = true) (w : World) :
    Calls Try.prog 4 #[.int .u8 a0] w fun e w' => e = .returned (.bool true) ∧ Grown w w' := by
  have hb := bounds_u8 w0
  have hs := hexB_swp a0
  have hsb := swp_bd a0 hb.1 hb.2
  go_enter Try.func4, Try.ntmps4
  go_wp2_with (first | (go_at_call 6; refine (hex6 _ _ (by omega) (by omega)).mono ?_; rintro e w' ⟨rfl, rfl⟩) | (go_at_call 7; refine (swp7 _ _ (by omega) (by omega)).mono ?_; rintro e w' ⟨rfl, rfl⟩))
  clear hs hsb
  go_loop [3, 4, 5] (fun t c i => ∃ k : Nat, k ≤ 256 ∧ i = .int .i64 k ∧ t = .int .i64 (tot k) ∧ c = .int .i64 (csl k)) (fun _ _ i => (256 - intOf i).toNat)
  case atStart => exact ⟨0, Nat.zero_le _, rfl, rfl, rfl⟩
  case round =>
    obtain ⟨k, hk, rfl, rfl, rfl⟩ := hrel
    have ht := tot_le k
    have hc := csl_le k
    by_cases hlt : k < 256
    · have hsb := swp_bd k (by omega) (by omega)
      by_cases hx : hexB k = true
      · by_cases hq : swp k = k
        · have hq' : (swp (k : Int) == (k : Int)) = true := by simpa using hq
          have e1 : Hid (tot (k + 1) = tot k + 1) := tot_yes hx
          have e2 : Hid (csl (k + 1) = csl k + 1) := csl_yes hx hq'
          clear hq
          go_wp2_with (first | (go_at_call 6; refine (hex6 _ _ (by omega) (by omega)).mono ?_; rintro e w' ⟨rfl, rfl⟩) | (go_at_call 7; refine (swp7 _ _ (by omega) (by omega)).mono ?_; rintro e w' ⟨rfl, rfl⟩))
          go_round
          case rel => exact ⟨k + 1, by omega, by go_num, by rw [e1.out], by rw [e2.out]⟩
          case measure => simp [intOf]; omega
        · have hq' : (swp (k : Int) == (k : Int)) = false := by simpa using hq
          have e1 : Hid (tot (k + 1) = tot k + 1) := tot_yes hx
          have e2 : Hid (csl (k + 1) = csl k) := csl_no (.inr hq')
          clear hq
          go_wp2_with (first | (go_at_call 6; refine (hex6 _ _ (by omega) (by omega)).mono ?_; rintro e w' ⟨rfl, rfl⟩) | (go_at_call 7; refine (swp7 _ _ (by omega) (by omega)).mono ?_; rintro e w' ⟨rfl, rfl⟩))
          go_round
          case rel => exact ⟨k + 1, by omega, by go_num, by rw [e1.out], by rw [e2.out]⟩
          case measure => simp [intOf]; omega
      · have hx' : hexB k = false := by simpa using hx
        have e1 : Hid (tot (k + 1) = tot k) := tot_no hx'
        have e2 : Hid (csl (k + 1) = csl k) := csl_no (.inl hx')
        clear hx
        go_wp2_with (first | (go_at_call 6; refine (hex6 _ _ (by omega) (by omega)).mono ?_; rintro e w' ⟨rfl, rfl⟩) | (go_at_call 7; refine (swp7 _ _ (by omega) (by omega)).mono ?_; rintro e w' ⟨rfl, rfl⟩))
        go_round
        case rel => exact ⟨k + 1, by omega, by go_num, by rw [e1.out], by rw [e2.out]⟩
        case measure => simp [intOf]; omega
    · obtain rfl : k = 256 := by omega
      have e1 := tot_all
      have e2 := csl_all
      clear ht hc
      go_wp2
      go_ret
      exact ⟨ret_bool rfl, Grown.refl _⟩

/-! ### THE ROW's STEP: WRITTEN OUT: LEAVE IT -/
set_option maxRecDepth 100000 in
theorem lifted (os : Os) (started : os.Started) (H : Type) (enc : TypeId × Value → H) :
    ReturnsInHanded {} Try.checked os 4 .any (Rows.fnIsHexDigitCaseSymmetricCountSpec.pre6 enc Try.prog Try.f4 Rows.fnIsHexDigitCaseSymmetricCountRow.domain false) (Rows.fnIsHexDigitCaseSymmetricCountSpec.post enc Try.prog Try.f4 false true false false) := by
  refine returnsInHanded_of_change (C := Try.checked) own started (by kernel_rfl) Try.func4
    (ChangeSpec.witness6 (enc := enc) (C := Try.checked) false ⟨#[], #[.int .u8 0], []⟩ 8 (by kernel_rfl) (by kernel_rfl) (by kernel_rfl) (by kernel_rfl)) ?_
  intro W base args ds gs before hval0 hW hcnd _
  have hval : ∀ (j : Nat) t v, Try.f4.params[j]? = some t → args[j]? = some v → Value.okWide Try.prog W .any base t v := hval0
  have hW' := hW
  obtain ⟨p, q, hA0, hV, rfl, hfz, hnd⟩ := hW
  have hA : DataW.TrodAll enc Try.prog W 0 (fun _ => true) true Try.f4.params.toList args.toList ds p := hA0
  rw [Try.params4] at hA hval
  obtain ⟨v0, vs0, d0, ds0, p0, q0, hargs, rfl, rfl, h0, r0⟩ := trodAll_cons hA
  obtain ⟨rfl, rfl, rfl⟩ := trodAll_nil r0
  obtain rfl : args = #[v0] := by cases args; simp_all
  obtain ⟨rfl, rfl⟩ := trodVars_none hV
  obtain ⟨a0, rfl, rfl, rfl, w0⟩ := open_int Try.underlying5 (hval 0 5 v0 rfl rfl) h0
  clear hA0 hval0
  simp only [List.append_nil] at hW'
  refine (walk a0 w0 W).mono fun e W' ⟨he, hg⟩ => ?_
  subst he
  exact ⟨_, rfl, post_of_same (pa := []) (pv := []) hW' (fun _ _ _ => (trodAll_cons_mk (shut_bool Try.underlying4 _) trodAll_mk0)) (fun sp _ => (trodAll_cons_mk (shut_int Try.underlying5 w0) trodAll_mk0)) (fun _ _ => rfl) rfl
    (hg.frame _) hg.2.1 (ok_one (by kernel_rfl) rfl (okWide_bool_mk Try.underlying4 _))⟩

theorem over : Rows.fnIsHexDigitCaseSymmetricCountRow.holds Try.pinned (OpenSpec.ofChange Rows.fnIsHexDigitCaseSymmetricCountSpec) :=
  OpenClaim.holds_of_wide 4 Try.f4 rfl rfl rfl rfl rfl rfl rfl ⟨rfl, rfl, rfl, rfl, rfl⟩ rfl rfl rfl rfl rfl (by kernel_rfl) Try.func4 (by kernel_rfl)
    (of_decide_eq_true (by kernel_rfl)) (by unfold Func.isWrapper; first | (rw [if_pos (by decide +kernel)]; kernel_rfl) | (rw [if_neg (by decide +kernel)]; exact ⟨rfl, rfl⟩))
    (fun os started H enc _ => lifted os started H enc)

/-- ████ THE STATEMENT ████ -/
theorem proved : Rows.FnIsHexDigitCaseSymmetricCountSaid :=
  over
end Go.Proofs.Qxb6613667a.fnIsHexDigitCaseSymmetricCount
