/-
  THE CONTRACTS of zzEqualInts (19), zzSameFailGame (9) and zzBytes (5), for FnFailedTryFailsOnceThenPasses.
-/
import Derived.Test.Qxb6614291aParts
import Derived.Deep.QuietTactic
import Derived.BigQuiet
import Derived.WalkSmall
namespace Go.Proofs.Qxb6614291a
open Go.ChangeShapes Go.WideShapes Go.ChangeAt Go.RowKit

theorem below_drawn (w : World) (n : Nat) : Below w.heap.size w (w.drewN n) := below_drewN (Below.refl _ _) n

/-! ### zzEqualInts -/
theorem equal_zero (o1 o2 : Option Addr) (c1 c2 : Nat) (w : World) :
    Calls Try.prog 19 #[.slice o1 0 c1, .slice o2 0 c2] w fun e w' => e = .returned (.bool true) ∧ Below w.heap.size w w' := by
  go_enter Try.func19, Try.ntmps19
  go_wp2
  refine wp_loop_rounds 1 ?_
  rw [rounds_succ]
  go_wp2
  go_ret
  exact ⟨rfl, Below.refl _ _⟩

theorem equal_pos (B1 B2 len c1 c2 : Nat) (zs : List Int) (w : World) (hm : len ≤ 131072) (h1 : ∀ i, i < len → w.cell? ⟨B1, i, none⟩ = some (.int .i64 (zs.getD i 0))) (h2 : ∀ i, i < len → w.cell? ⟨B2, i, none⟩ = some (.int .i64 (zs.getD i 0))) :
    Calls Try.prog 19 #[.slice (some ⟨B1, 0, none⟩) len c1, .slice (some ⟨B2, 0, none⟩) len c2] w fun e w' => e = .returned (.bool true) ∧ Below w.heap.size w w' := by
  have H1 : Hid (∀ i, i < len → w.cell? ⟨B1, i, none⟩ = some (.int .i64 (zs.getD i 0))) := h1
  have H2 : Hid (∀ i, i < len → w.cell? ⟨B2, i, none⟩ = some (.int .i64 (zs.getD i 0))) := h2
  clear h1 h2
  go_enter Try.func19, Try.ntmps19
  go_wp2
  go_loopw [5] (fun i wr => ∃ k n : Nat, k ≤ len ∧ i = .int .i64 k ∧ wr = w.drewN n) (fun i _ => (131072 - intOf i).toNat)
  case atStart => exact ⟨0, 0, Nat.zero_le _, rfl, rfl⟩
  case round =>
    obtain ⟨k, n, hk, rfl, rfl⟩ := hrel
    by_cases hlt : k < len
    · have g1 := H1.out k hlt
      have g2 := H2.out k hlt
      have hi : (k : Int) < (len : Int) := by omega
      go_wp2
      go_quiet (fail)
      go_wp2
      go_roundw
      case rel => exact ⟨k + 1, _, by omega, by go_num, rfl⟩
      case measure => simp [intOf]; omega
    · go_wp2
      go_ret
      exact ⟨rfl, below_drawn _ _⟩

/-! ### zzSameFailGame -/
theorem same9 (b : Nat) (p m t ft ct : Int) (fin ff : Bool) (oa ob : Option Addr) (len : Nat) (cs : List Value) (w : World) (hG : Game w b cs)
    (e18 : cs[18]? = some (.int .i64 p)) (e19 : cs[19]? = some (.int .i64 m)) (e20 : cs[20]? = some (.int .i64 t)) (e21 : cs[21]? = some (.int .i64 ft)) (e22 : cs[22]? = some (.int .i64 ct)) (e23 : cs[23]? = some (.bool fin)) (e24 : cs[24]? = some (.bool ff)) (e25 : cs[25]? = some (.slice oa len len))
    (hE : Calls Try.prog 19 #[.slice oa len len, .slice ob len len] w fun e w' => e = .returned (.bool true) ∧ Below w.heap.size w w') :
    Calls Try.prog 9 #[.pointer (some ⟨b, 0, none⟩), .int .i64 p, .int .i64 m, .int .i64 t, .int .i64 ft, .int .i64 ct, .bool fin, .bool ff, .slice ob len len] w fun e w' => e = .returned (.bool true) ∧ Below w.heap.size w w' := by
  have c18 := hG.cell e18
  have c19 := hG.cell e19
  have c20 := hG.cell e20
  have c21 := hG.cell e21
  have c22 := hG.cell e22
  have c23 := hG.cell e23
  have c24 := hG.cell e24
  have c25 := hG.cell e25
  have HE : Hid (Calls Try.prog 19 #[.slice oa len len, .slice ob len len] w fun e w' => e = .returned (.bool true) ∧ Below w.heap.size w w') := hE
  clear e18 e19 e20 e21 e22 e23 e24 e25 hE hG
  go_enter Try.func9, Try.ntmps9
  go_wp2_with (first | (go_at_call 19; refine (HE.out).mono ?_; rintro e w' ⟨rfl, hb⟩) | go_in)
  go_ret
  exact ⟨rfl, hb⟩

/-! ### zzBytes -/
theorem bytes5_yes (a0 a1 a2 a3 a4 a8 : Int) (a5 a6 : Bool) (a : Option Addr) (len cap : Nat) (w : World) (h : len ≤ 1048576) :
    Calls Try.prog 5 #[.int .i64 a0, .int .i64 a1, .int .i64 a2, .int .i64 a3, .int .i64 a4, .bool a5, .bool a6, .slice a len cap, .int .i64 a8] w fun e w' => e = .returned (.bool true) ∧ w' = w := by
  go_enter Try.func5, Try.ntmps5
  go_wp2
  go_ret
  exact ⟨rfl, rfl⟩
theorem bytes5_no (a0 a1 a2 a3 a4 a8 : Int) (a5 a6 : Bool) (a : Option Addr) (len cap : Nat) (w : World) (h : ¬ len ≤ 1048576) (hm : len ≤ maxLen) :
    Calls Try.prog 5 #[.int .i64 a0, .int .i64 a1, .int .i64 a2, .int .i64 a3, .int .i64 a4, .bool a5, .bool a6, .slice a len cap, .int .i64 a8] w fun e w' => e = .returned (.bool false) ∧ w' = w := by
  unfold maxLen at hm
  go_enter Try.func5, Try.ntmps5
  go_wp2
  go_ret
  exact ⟨rfl, rfl⟩
end Go.Proofs.Qxb6614291a
