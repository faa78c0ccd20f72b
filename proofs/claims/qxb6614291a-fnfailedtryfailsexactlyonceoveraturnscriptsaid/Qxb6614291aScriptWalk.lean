/-
  THE PROOF OF 'Rows.FnFailedTryFailsExactlyOnceOverATurnScriptSaid': the given shell, its walk filled in. The callees' contracts: Qxb6614291aParts.lean; the plain law: Qxb6614291aPlain.lean.
-/
import Derived.Test.Qxb6614291aParts
import Derived.Test.Qxb6614291aPlain
import Derived.WalkKit
import Derived.ProofKit
import Derived.OpenShut
import Derived.ShutString
import Derived.ChangeOld
import Derived.Below
namespace Go.Proofs.Qxb6614291a.fnFailedTryFailsExactlyOnceOverATurnScript
open Go.ChangeShapes Go.WideShapes Go.ChangeAt Go.RowKit
open Go.ChangeMaps (open_string shut_string)
set_option linter.unusedVariables false

theorem own : ownKnob Try.prog.godebug = none := by kernel_rfl
theorem laidOut : laidOutB Try.prog = true := by kernel_rfl

/-- WHAT THE WALK IS TOLD OF A SLICE OF INTEGERS THAT CAME IN: it is nil; or it leads to a row of 'cap' cells, the numbers 'zs' (the first 'len' are its elements, the rest its spare room), each fitting its kind. -/
def IsRow (k : IntKind) (w : World) (a : Option Addr) (len cap : Nat) (zs : List Int) : Prop :=
  (a = none ∧ len = 0 ∧ cap = 0 ∧ zs = []) ∨
  ∃ x, a = some x ∧ len ≤ cap ∧ cap ≤ maxLen ∧ zs.length = cap ∧ (∀ i, i < zs.length → w.cell? (x.add i) = some (.int k (zs.getD i 0))) ∧ ∀ n ∈ zs, (Lit.int k n).wf = true

theorem row_parts {w : World} {a : Option Addr} {len cap : Nat} {zs : List Int} (h : IsRow .i64 w a len cap zs) :
    len ≤ maxLen ∧ (len = 0 ∨ ∃ b off, a = some ⟨b, off, none⟩ ∧ 0 < len ∧ b < w.heap.size ∧ ∀ i, i < len → w.cell? ⟨b, off + i, none⟩ = some (.int .i64 (zs.getD i 0))) := by
  rcases h with ⟨rfl, rfl, rfl, rfl⟩ | ⟨x, rfl, hl, hm, hz, hc, _⟩
  · exact ⟨Nat.zero_le _, .inl rfl⟩
  · refine ⟨Nat.le_trans hl hm, ?_⟩
    by_cases h0 : len = 0
    · exact .inl h0
    · obtain ⟨b, off, spot⟩ := x
      have h00 := hc 0 (by omega)
      have hspot : spot = none := by simpa [Addr.add] using World.cell?_spot h00
      subst hspot
      refine .inr ⟨b, off, rfl, by omega, ?_, fun i hi => ?_⟩
      · have := World.block_lt_of_cell? w _ h00
        simpa [Addr.add] using this
      · rw [← Addr.add_mid]; exact hc i (by omega)

def gm (ft ct : Int) (ff : Bool) : List Value := newGame 0 0 0 ft ct false ff (.slice none 0 0)
theorem gm_set (ft ct : Int) (ff : Bool) : (gm ft ct ff).set 24 (.bool true) = gm ft ct true := rfl
theorem gm_21 (ft ct : Int) (ff : Bool) : (gm ft ct ff)[21]? = some (.int .i64 ft) := rfl
theorem gm_22 (ft ct : Int) (ff : Bool) : (gm ft ct ff)[22]? = some (.int .i64 ct) := rfl
theorem gm_24 (ft ct : Int) (ff : Bool) : (gm ft ct ff)[24]? = some (.bool ff) := rfl

/-- Too long: the law answers true at once. -/
theorem walk_long (a0 : Int) (a1 : Bool) (a2 : Int) (a3 : Option Addr) (len3 cap3 : Nat) (w : World) (hm : len3 ≤ maxLen) (h : ¬ len3 ≤ 131072) :
    Calls Try.prog 4 #[.int .i64 a0, .bool a1, .int .i64 a2, .slice a3 len3 cap3] w fun e w' => e = .returned (.bool true) ∧ Below w.heap.size w w' := by
  by_cases hb : len3 ≤ 1048576
  · unfold maxLen at hm
    go_enter Try.func4, Try.ntmps4
    go_wp2_with (go_at_call 11; refine (bytes11_yes _ _ _ _ _ _ _ hb).mono ?_; rintro e w' ⟨rfl, rfl⟩)
    go_ret
    exact ⟨rfl, Below.refl _ _⟩
  · have H := fun a0 a2 a1 a cap w => bytes11_no a0 a2 a1 a len3 cap w hb hm
    unfold maxLen at hm
    go_enter Try.func4, Try.ntmps4
    go_wp2_with (go_at_call 11; refine (H _ _ _ _ _ _).mono ?_; rintro e w' ⟨rfl, rfl⟩)
    go_ret
    exact ⟨rfl, Below.refl _ _⟩

/-! ### STEP 1: THE WALK -/
set_option maxHeartbeats 2000000 in
theorem walk_pos (a0 : Int) (a1 : Bool) (a2 : Int) (b off len3 cap3 : Nat) (z3 : List Int) (w : World) (hl : len3 ≤ 131072) (hpos : 0 < len3) (hb : b < w.heap.size) (hc : ∀ i, i < len3 → w.cell? ⟨b, off + i, none⟩ = some (.int .i64 (z3.getD i 0))) :
    Calls Try.prog 4 #[.int .i64 a0, .bool a1, .int .i64 a2, .slice (some ⟨b, off, none⟩) len3 cap3] w fun e w' => e = .returned (.bool true) ∧ Below w.heap.size w w' := by
  have Hc : Hid (∀ i, i < len3 → w.cell? ⟨b, off + i, none⟩ = some (.int .i64 (z3.getD i 0))) := hc
  clear hc
  go_enter Try.func4, Try.ntmps4
  go_wp2_with (go_at_call 11; refine (bytes11_yes _ _ _ _ _ _ _ (by omega)).mono ?_; rintro e w' ⟨rfl, rfl⟩)
  go_wp2_with fail
  refine (clone_some b off len3 cap3 z3 w' hl hb Hc.out).mono ?_
  rintro e w1 ⟨rfl, hrow, hb1⟩
  have hlt1 : w'.heap.size < w1.heap.size := hrow.lt
  go_wp2_with fail
  refine (new7 0 0 0 a0 a2 false a1 none 0 0 w1).mono ?_
  rintro e w2 ⟨rfl, hG, hb2⟩
  have hs2 : w1.heap.size < w2.heap.size := hG.lt
  have Hrow : Hid (∀ k, k < len3 → w2.cell? ⟨w'.heap.size, k, none⟩ = some (.int .i64 (z3.getD k 0))) := fun k hk => (hb2.cell (by exact hlt1)).trans (hrow.cell hk)
  have HG : Hid (Game w2 w1.heap.size (gm a0 a2 a1)) := hG
  have HB : Hid (Below w'.heap.size w' w2) := hb1.trans (hb2.mono (Nat.le_of_lt hlt1))
  clear hG hrow hb1 hb2 Hc
  go_wp2_with fail
  -- the first place of fail_turn
  go_loop [10, 11] (fun f i => ∃ k : Nat, k ≤ len3 ∧ i = .int .i64 k ∧ f = .int .i64 (-1) ∧ Hid (fidx a0 z3 k = -1)) (fun _ i => (131072 - intOf i).toNat)
  case atStart => exact ⟨0, Nat.zero_le _, rfl, rfl, rfl⟩
  case round =>
    obtain ⟨k, hk, rfl, rfl, hF⟩ := hrel
    by_cases hlt : k < len3
    · have hcell := Hrow.out k hlt
      by_cases hz : z3.getD k 0 = a0
      · have hF2 : Hid (fidx a0 z3 len3 = k) := fidx_end hF.out hz hlt
        rw [hz] at hcell
        clear hz hF
        go_wp2_with fail
        clear hcell
        go_loopw [9, 12, 13, 14] (fun g n f i wr => ∃ (j gb : Nat), j ≤ len3 ∧ i = .int .i64 j ∧ g = .pointer (some ⟨gb, 0, none⟩) ∧ n = .int .i64 (fir a1 a0 z3 j) ∧ f = .int .i64 (fat a1 a0 z3 j) ∧ Hid (Game wr gb (gm a0 a2 (flag a1 a0 z3 j))) ∧ Hid (Below w2.heap.size w2 wr)) (fun _ _ _ i _ => (131072 - intOf i).toNat)
        case atStart => exact ⟨0, w1.heap.size, Nat.zero_le _, rfl, rfl, by rw [(flag_zero a1 a0 z3).2.1], by rw [(flag_zero a1 a0 z3).2.2], by rw [(flag_zero a1 a0 z3).1]; exact HG, Below.refl _ _⟩
        case round =>
          obtain ⟨j, gb, hj, rfl, rfl, rfl, rfl, hg, hbel⟩ := hrel
          by_cases hlt : j < len3
          · have hcell : wr.cell? ⟨w'.heap.size, j, none⟩ = some (.int .i64 (z3.getD j 0)) := (hbel.out.cell (by show w'.heap.size < w2.heap.size; omega)).trans (Hrow.out j hlt)
            by_cases hfire : z3.getD j 0 = a0 ∧ flag a1 a0 z3 j = false
            · obtain ⟨hz, hfl⟩ := hfire
              obtain ⟨⟨s1, s2, s3⟩, e1, e2⟩ := step_yes hz hfl
              rw [hz] at hcell
              have S : Hid (flag a1 a0 z3 (j + 1) = true ∧ fir a1 a0 z3 (j + 1) = 1 ∧ fat a1 a0 z3 (j + 1) = j) := ⟨s1, s2, s3⟩
              have hgm : Hid (Game wr gb (gm a0 a2 false)) := by rw [hfl] at hg; exact hg
              clear hz hfl s1 s2 s3 hg
              go_wp2_with (go_at_call 8; refine (ztry_yes gb a0 _ wr hgm.out (gm_21 _ _ _) (gm_24 _ _ _)).mono ?_; rintro e w3 ⟨rfl, hG3, hb3⟩)
              go_roundw
              case rel => exact ⟨j + 1, wr.heap.size, by omega, by go_num, rfl, by rw [S.out.2.1], by rw [S.out.2.2], by rw [S.out.1, ← gm_set a0 a2 false]; exact hG3, hbel.out.trans (hb3.mono hbel.out.size)⟩
              case measure => simp [intOf]; omega
            · have hno : z3.getD j 0 ≠ a0 ∨ flag a1 a0 z3 j = true := by
                by_cases hz : z3.getD j 0 = a0
                · right; cases h : flag a1 a0 z3 j
                  · exact absurd ⟨hz, h⟩ hfire
                  · rfl
                · exact .inl hz
              have S : Hid (flag a1 a0 z3 (j + 1) = flag a1 a0 z3 j ∧ fir a1 a0 z3 (j + 1) = fir a1 a0 z3 j ∧ fat a1 a0 z3 (j + 1) = fat a1 a0 z3 j) := step_no hno
              obtain ⟨t, ht⟩ : ∃ t, z3.getD j 0 = t := ⟨_, rfl⟩
              rw [ht] at hcell hno
              have C : Hid (Calls Try.prog 8 #[.pointer (some ⟨gb, 0, none⟩), .int .i64 t] wr fun e w' => e = .returned (.tuple #[.pointer none, .bool false]) ∧ w' = wr) := ztry_no gb t a0 _ wr (hg.out.cell (gm_21 _ _ _)) (hg.out.cell (gm_24 _ _ _)) hno
              clear hfire hno ht
              go_wp2_with (go_at_call 8; refine (C.out).mono ?_; rintro e w3 ⟨rfl, rfl⟩)
              go_roundw
              case rel => exact ⟨j + 1, gb, by omega, by go_num, rfl, by rw [S.out.2.1], by rw [S.out.2.2], by rw [S.out.1]; exact hg, hbel⟩
              case measure => simp [intOf]; omega
          · have ej : j = len3 := by omega
            have hfin : Hid (Below w'.heap.size w' wr) := HB.out.trans (hbel.out.mono (by omega))
            rw [← ej] at hF2
            clear Hrow HG HB
            rcases Bool.eq_false_or_eq_true a1 with h1 | h1
            · have E : flag a1 a0 z3 j = true ∧ fir a1 a0 z3 j = 0 ∧ fat a1 a0 z3 j = -1 := by rw [h1]; exact end_true _ _ _
              obtain ⟨E1, E2, E3⟩ := E
              rw [E1] at hg
              have E2' := E2
              have E3' := E3
              rw [h1] at E2' E3'
              clear hF2 E1 ej
              go_wp2_with (first | (go_at_call 10; refine (rd10 gb true _ (hg.out.cell (gm_24 _ _ _))).mono ?_; rintro e w5 ⟨rfl, rfl⟩) | (go_at_call 12; refine (rd12 gb a0 _ (hg.out.cell (gm_21 _ _ _))).mono ?_; rintro e w5 ⟨rfl, rfl⟩) | (go_at_call 13; refine (rd13 gb a2 _ (hg.out.cell (gm_22 _ _ _))).mono ?_; rintro e w5 ⟨rfl, rfl⟩))
              go_ret
              exact ⟨rfl, hfin⟩
            · have E : flag a1 a0 z3 j = true ∧ fir a1 a0 z3 j = 1 ∧ fat a1 a0 z3 j = k := by rw [h1]; exact end_some hF2.out
              obtain ⟨E1, E2, E3⟩ := E
              rw [E1] at hg
              have E2' := E2
              have E3' := E3
              rw [h1] at E2' E3'
              clear hF2 E1 ej
              go_wp2_with (first | (go_at_call 10; refine (rd10 gb true _ (hg.out.cell (gm_24 _ _ _))).mono ?_; rintro e w5 ⟨rfl, rfl⟩) | (go_at_call 12; refine (rd12 gb a0 _ (hg.out.cell (gm_21 _ _ _))).mono ?_; rintro e w5 ⟨rfl, rfl⟩) | (go_at_call 13; refine (rd13 gb a2 _ (hg.out.cell (gm_22 _ _ _))).mono ?_; rintro e w5 ⟨rfl, rfl⟩))
              go_ret
              exact ⟨rfl, hfin⟩

      · have hF2 : Hid (fidx a0 z3 (k + 1) = -1) := fidx_miss hF.out hz
        have hz' : (z3[k]?.getD 0 == a0) = false := by simpa using hz
        clear hz
        go_wp2_with fail
        go_round
        case rel => exact ⟨k + 1, by omega, by go_num, rfl, hF2⟩
        case measure => simp [intOf]; omega
    · have hF2 : Hid (fidx a0 z3 len3 = -1) := by
        have e : k = len3 := by omega
        rw [← e]; exact hF
      clear hF
      go_wp2_with fail
      go_loopw [9, 12, 13, 14] (fun g n f i wr => ∃ (j gb : Nat), j ≤ len3 ∧ i = .int .i64 j ∧ g = .pointer (some ⟨gb, 0, none⟩) ∧ n = .int .i64 (fir a1 a0 z3 j) ∧ f = .int .i64 (fat a1 a0 z3 j) ∧ Hid (Game wr gb (gm a0 a2 (flag a1 a0 z3 j))) ∧ Hid (Below w2.heap.size w2 wr)) (fun _ _ _ i _ => (131072 - intOf i).toNat)
      case atStart => exact ⟨0, w1.heap.size, Nat.zero_le _, rfl, rfl, by rw [(flag_zero a1 a0 z3).2.1], by rw [(flag_zero a1 a0 z3).2.2], by rw [(flag_zero a1 a0 z3).1]; exact HG, Below.refl _ _⟩
      case round =>
        obtain ⟨j, gb, hj, rfl, rfl, rfl, rfl, hg, hbel⟩ := hrel
        by_cases hlt : j < len3
        · have hcell : wr.cell? ⟨w'.heap.size, j, none⟩ = some (.int .i64 (z3.getD j 0)) := (hbel.out.cell (by show w'.heap.size < w2.heap.size; omega)).trans (Hrow.out j hlt)
          by_cases hfire : z3.getD j 0 = a0 ∧ flag a1 a0 z3 j = false
          · obtain ⟨hz, hfl⟩ := hfire
            obtain ⟨⟨s1, s2, s3⟩, e1, e2⟩ := step_yes hz hfl
            rw [hz] at hcell
            have S : Hid (flag a1 a0 z3 (j + 1) = true ∧ fir a1 a0 z3 (j + 1) = 1 ∧ fat a1 a0 z3 (j + 1) = j) := ⟨s1, s2, s3⟩
            have hgm : Hid (Game wr gb (gm a0 a2 false)) := by rw [hfl] at hg; exact hg
            clear hz hfl s1 s2 s3 hg
            go_wp2_with (go_at_call 8; refine (ztry_yes gb a0 _ wr hgm.out (gm_21 _ _ _) (gm_24 _ _ _)).mono ?_; rintro e w3 ⟨rfl, hG3, hb3⟩)
            go_roundw
            case rel => exact ⟨j + 1, wr.heap.size, by omega, by go_num, rfl, by rw [S.out.2.1], by rw [S.out.2.2], by rw [S.out.1, ← gm_set a0 a2 false]; exact hG3, hbel.out.trans (hb3.mono hbel.out.size)⟩
            case measure => simp [intOf]; omega
          · have hno : z3.getD j 0 ≠ a0 ∨ flag a1 a0 z3 j = true := by
              by_cases hz : z3.getD j 0 = a0
              · right; cases h : flag a1 a0 z3 j
                · exact absurd ⟨hz, h⟩ hfire
                · rfl
              · exact .inl hz
            have S : Hid (flag a1 a0 z3 (j + 1) = flag a1 a0 z3 j ∧ fir a1 a0 z3 (j + 1) = fir a1 a0 z3 j ∧ fat a1 a0 z3 (j + 1) = fat a1 a0 z3 j) := step_no hno
            obtain ⟨t, ht⟩ : ∃ t, z3.getD j 0 = t := ⟨_, rfl⟩
            rw [ht] at hcell hno
            have C : Hid (Calls Try.prog 8 #[.pointer (some ⟨gb, 0, none⟩), .int .i64 t] wr fun e w' => e = .returned (.tuple #[.pointer none, .bool false]) ∧ w' = wr) := ztry_no gb t a0 _ wr (hg.out.cell (gm_21 _ _ _)) (hg.out.cell (gm_24 _ _ _)) hno
            clear hfire hno ht
            go_wp2_with (go_at_call 8; refine (C.out).mono ?_; rintro e w3 ⟨rfl, rfl⟩)
            go_roundw
            case rel => exact ⟨j + 1, gb, by omega, by go_num, rfl, by rw [S.out.2.1], by rw [S.out.2.2], by rw [S.out.1]; exact hg, hbel⟩
            case measure => simp [intOf]; omega
        · have ej : j = len3 := by omega
          have hfin : Hid (Below w'.heap.size w' wr) := HB.out.trans (hbel.out.mono (by omega))
          rw [← ej] at hF2
          clear Hrow HG HB
          rcases Bool.eq_false_or_eq_true a1 with h1 | h1
          · have E : flag a1 a0 z3 j = true ∧ fir a1 a0 z3 j = 0 ∧ fat a1 a0 z3 j = -1 := by rw [h1]; exact end_true _ _ _
            obtain ⟨E1, E2, E3⟩ := E
            rw [E1] at hg
            have E2' := E2
            have E3' := E3
            rw [h1] at E2' E3'
            clear hF2 E1 ej
            go_wp2_with (first | (go_at_call 10; refine (rd10 gb true _ (hg.out.cell (gm_24 _ _ _))).mono ?_; rintro e w5 ⟨rfl, rfl⟩) | (go_at_call 12; refine (rd12 gb a0 _ (hg.out.cell (gm_21 _ _ _))).mono ?_; rintro e w5 ⟨rfl, rfl⟩) | (go_at_call 13; refine (rd13 gb a2 _ (hg.out.cell (gm_22 _ _ _))).mono ?_; rintro e w5 ⟨rfl, rfl⟩))
            go_ret
            exact ⟨rfl, hfin⟩
          · have E : flag a1 a0 z3 j = false ∧ fir a1 a0 z3 j = 0 ∧ fat a1 a0 z3 j = -1 := by rw [h1]; exact end_none hF2.out
            obtain ⟨E1, E2, E3⟩ := E
            rw [E1] at hg
            have E2' := E2
            have E3' := E3
            rw [h1] at E2' E3'
            clear hF2 E1 ej
            go_wp2_with (first | (go_at_call 10; refine (rd10 gb false _ (hg.out.cell (gm_24 _ _ _))).mono ?_; rintro e w5 ⟨rfl, rfl⟩) | (go_at_call 12; refine (rd12 gb a0 _ (hg.out.cell (gm_21 _ _ _))).mono ?_; rintro e w5 ⟨rfl, rfl⟩) | (go_at_call 13; refine (rd13 gb a2 _ (hg.out.cell (gm_22 _ _ _))).mono ?_; rintro e w5 ⟨rfl, rfl⟩))
            go_ret
            exact ⟨rfl, hfin⟩


/-- An empty script (nil or not). -/
theorem walk_zero (a0 : Int) (a1 : Bool) (a2 : Int) (a3 : Option Addr) (cap3 : Nat) (w : World) :
    Calls Try.prog 4 #[.int .i64 a0, .bool a1, .int .i64 a2, .slice a3 0 cap3] w fun e w' => e = .returned (.bool true) ∧ Below w.heap.size w w' := by
  cases a1
  all_goals
    go_enter Try.func4, Try.ntmps4
    go_wp2_with (go_at_call 11; refine (bytes11_yes _ _ _ _ _ _ _ (by omega)).mono ?_; rintro e w' ⟨rfl, rfl⟩)
    go_wp2_with fail
    refine (clone_zero a3 cap3 w').mono ?_
    rintro e w1 ⟨ao, rfl, hb1⟩
    go_wp2_with fail
    refine (new7 0 0 0 a0 a2 false _ none 0 0 w1).mono ?_
    rintro e w2 ⟨rfl, hG, hb2⟩
    have HG : Hid (Game w2 w1.heap.size (gm a0 a2 _)) := hG
    have HB : Hid (Below w'.heap.size w' w2) := hb1.trans (hb2.mono hb1.size)
    clear hG hb1 hb2
    go_wp2_with fail
    refine wp_loop_rounds 1 ?_
    rw [rounds_succ]
    go_wp2_with fail
    refine wp_loop_rounds 1 ?_
    rw [rounds_succ]
    go_wp2_with (first | (go_at_call 10; refine (rd10 _ _ _ (HG.out.cell (gm_24 _ _ _))).mono ?_; rintro e w5 ⟨rfl, rfl⟩) | (go_at_call 12; refine (rd12 _ a0 _ (HG.out.cell (gm_21 _ _ _))).mono ?_; rintro e w5 ⟨rfl, rfl⟩) | (go_at_call 13; refine (rd13 _ a2 _ (HG.out.cell (gm_22 _ _ _))).mono ?_; rintro e w5 ⟨rfl, rfl⟩))
    go_ret
    exact ⟨rfl, HB⟩

theorem walk (a0 : Int) (a1 : Bool) (a2 : Int) (a3 : Option Addr) (len3 cap3 : Nat) (z3 : List Int) (w : World) (w3 : IsRow .i64 w a3 len3 cap3 z3) :
    Calls Try.prog 4 #[.int .i64 a0, .bool a1, .int .i64 a2, .slice a3 len3 cap3] w fun e w' => e = .returned (.bool true) ∧ Below w.heap.size w w' := by
  obtain ⟨hm, h⟩ := row_parts w3
  by_cases hl : len3 ≤ 131072
  · rcases h with rfl | ⟨b, off, rfl, hpos, hb, hc⟩
    · exact walk_zero a0 a1 a2 a3 cap3 w
    · exact walk_pos a0 a1 a2 b off len3 cap3 z3 w hl hpos hb hc
  · exact walk_long a0 a1 a2 a3 len3 cap3 w hm hl

end Go.Proofs.Qxb6614291a.fnFailedTryFailsExactlyOnceOverATurnScript
