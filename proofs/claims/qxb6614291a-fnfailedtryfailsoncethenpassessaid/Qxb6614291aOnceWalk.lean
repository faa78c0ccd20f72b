/-
  THE WALK of FnFailedTryFailsOnceThenPasses. The callees' contracts: Qxb6614291aParts.lean, Qxb6614291aSame.lean.
-/
import Derived.Test.Qxb6614291aSame
namespace Go.Proofs.Qxb6614291a.fnFailedTryFailsOnceThenPasses
open Go.ChangeShapes Go.WideShapes Go.ChangeAt Go.RowKit
open Go.ChangeMaps (open_string shut_string)
set_option linter.unusedVariables false

/-- WHAT THE WALK IS TOLD OF A SLICE OF INTEGERS THAT CAME IN: it is nil; or it leads to a row of 'cap' cells, the numbers 'zs' (the first 'len' are its elements, the rest its spare room), each fitting its kind. -/
def IsRow (k : IntKind) (w : World) (a : Option Addr) (len cap : Nat) (zs : List Int) : Prop :=
  (a = none ∧ len = 0 ∧ cap = 0 ∧ zs = []) ∨
  ∃ x, a = some x ∧ len ≤ cap ∧ cap ≤ maxLen ∧ zs.length = cap ∧ (∀ i, i < zs.length → w.cell? (x.add i) = some (.int k (zs.getD i 0))) ∧ ∀ n ∈ zs, (Lit.int k n).wf = true

theorem row_parts {w : World} {a : Option Addr} {len cap : Nat} {zs : List Int} (h : IsRow .i64 w a len cap zs) :
    len ≤ maxLen ∧ (len = 0 ∨ ∃ b off, a = some ⟨b, off, none⟩ ∧ 0 < len ∧ b < w.heap.size ∧ ∀ i, i < len → w.cell? ⟨b, off + i, none⟩ = some (.int .i64 (zs.getD i 0))) := by
  rcases h with ⟨rfl, rfl, rfl, rfl⟩ | ⟨x, rfl, hl, hm, hz, hc, _⟩
  · exact ⟨Nat.zero_le _, .inl rfl⟩
  · refine ⟨Nat.le_trans hl hm, ?_⟩
    by_cases h0 : len = 0
    · exact .inl h0
    · obtain ⟨b, off, spot⟩ := x
      have h00 := hc 0 (by omega)
      have hspot : spot = none := by simpa [Addr.add] using World.cell?_spot h00
      subst hspot
      refine .inr ⟨b, off, rfl, by omega, ?_, fun i hi => ?_⟩
      · have := World.block_lt_of_cell? w _ h00
        simpa [Addr.add] using this
      · rw [← Addr.add_mid]; exact hc i (by omega)

/-- Too long: the law answers true at once. -/
theorem walk_long (a0 a1 a2 a3 a4 : Int) (a5 a6 : Bool) (a7 : Option Addr) (len7 cap7 : Nat) (a8 : Int) (w : World) (hm : len7 ≤ maxLen) (h : ¬ len7 ≤ 131072) :
    Calls Try.prog 3 #[.int .i64 a0, .int .i64 a1, .int .i64 a2, .int .i64 a3, .int .i64 a4, .bool a5, .bool a6, .slice a7 len7 cap7, .int .i64 a8] w fun e w' => e = .returned (.bool true) ∧ Below w.heap.size w w' := by
  by_cases hb : len7 ≤ 1048576
  · unfold maxLen at hm
    go_enter Try.func3, Try.ntmps3
    go_wp2_with (go_at_call 5; refine (bytes5_yes _ _ _ _ _ _ _ _ _ _ _ _ hb).mono ?_; rintro e w' ⟨rfl, rfl⟩)
    go_ret
    exact ⟨rfl, Below.refl _ _⟩
  · have H := fun a0 a1 a2 a3 a4 a8 a5 a6 a cap w => bytes5_no a0 a1 a2 a3 a4 a8 a5 a6 a len7 cap w hb hm
    unfold maxLen at hm
    go_enter Try.func3, Try.ntmps3
    go_wp2_with (go_at_call 5; refine (H _ _ _ _ _ _ _ _ _ _ _).mono ?_; rintro e w' ⟨rfl, rfl⟩)
    go_ret
    exact ⟨rfl, Below.refl _ _⟩

/-- The game's cells, by place. -/
def ng (p m t ft ct : Int) (fin ff : Bool) (o : Option Addr) (n : Nat) : List Value := newGame p m t ft ct fin ff (.slice o n n)
theorem ng_set (p m t ft ct : Int) (fin ff : Bool) (o : Option Addr) (n : Nat) : (ng p m t ft ct fin ff o n).set 24 (.bool true) = ng p m t ft ct fin true o n := rfl
theorem ng_21 (p m t ft ct : Int) (fin ff : Bool) (o : Option Addr) (n : Nat) : (ng p m t ft ct fin ff o n)[21]? = some (.int .i64 ft) := rfl
theorem ng_24 (p m t ft ct : Int) (fin ff : Bool) (o : Option Addr) (n : Nat) : (ng p m t ft ct fin ff o n)[24]? = some (.bool ff) := rfl
/-- zzSameFailGame over such a game. -/
theorem same_ng (b : Nat) (p m t ft ct : Int) (fin ff : Bool) (oa ob : Option Addr) (len : Nat) (w : World) (hG : Game w b (ng p m t ft ct fin ff oa len))
    (hE : Calls Try.prog 19 #[.slice oa len len, .slice ob len len] w fun e w' => e = .returned (.bool true) ∧ Below w.heap.size w w') :
    Calls Try.prog 9 #[.pointer (some ⟨b, 0, none⟩), .int .i64 p, .int .i64 m, .int .i64 t, .int .i64 ft, .int .i64 ct, .bool fin, .bool ff, .slice ob len len] w fun e w' => e = .returned (.bool true) ∧ Below w.heap.size w w' :=
  same9 b p m t ft ct fin ff oa ob len _ w hG rfl rfl rfl rfl rfl rfl rfl rfl hE

/-- What the law's rest is told, whatever the owners are: both copies are made, the game is laid. -/
structure Laid (w w3 : World) (g : Nat) (p m t ft ct : Int) (fin ff : Bool) (o1 o2 : Option Addr) (n : Nat) : Prop where
  game : Game w3 g (ng p m t ft ct fin ff o2 n)
  below : Below w.heap.size w w3
  eq : ∀ W, Below w3.heap.size w3 W → Calls Try.prog 19 #[.slice o2 n n, .slice o1 n n] W fun e w' => e = .returned (.bool true) ∧ Below W.heap.size W w'

/-- A slice that holds the numbers zs. -/
def IsCopy (w : World) (o : Option Addr) (len : Nat) (zs : List Int) : Prop := len = 0 ∨ ∃ B, o = some ⟨B, 0, none⟩ ∧ 0 < len ∧ B < w.heap.size ∧ ∀ i, i < len → w.cell? ⟨B, i, none⟩ = some (.int .i64 (zs.getD i 0))
theorem IsCopy.below {w w' : World} {o : Option Addr} {len : Nat} {zs : List Int} (h : IsCopy w o len zs) (hb : Below w.heap.size w w') : IsCopy w' o len zs := by
  rcases h with h | ⟨B, ho, hp, hB, hc⟩
  · exact .inl h
  · exact .inr ⟨B, ho, hp, Nat.lt_of_lt_of_le hB hb.size, fun i hi => (hb.cell (by exact hB)).trans (hc i hi)⟩
theorem clone_copy (a : Option Addr) (len cap : Nat) (zs : List Int) (w : World) (hm : len ≤ 131072) (h : len = 0 ∨ ∃ b off, a = some ⟨b, off, none⟩ ∧ 0 < len ∧ b < w.heap.size ∧ ∀ i, i < len → w.cell? ⟨b, off + i, none⟩ = some (.int .i64 (zs.getD i 0))) :
    Calls Try.prog 6 #[.slice a len cap] w fun e w' => ∃ o, e = .returned (.slice o len len) ∧ IsCopy w' o len zs ∧ Below w.heap.size w w' := by
  rcases h with rfl | ⟨b, off, rfl, hp, hb, hc⟩
  · refine (clone_zero a cap w).mono ?_
    rintro e w' ⟨o, rfl, hb⟩
    exact ⟨o, rfl, .inl rfl, hb⟩
  · refine (clone_some b off len cap zs w hm hb hc).mono ?_
    rintro e w' ⟨rfl, hr, hb'⟩
    exact ⟨_, rfl, .inr ⟨_, rfl, hp, hr.lt, fun i hi => hr.cell hi⟩, hb'⟩
theorem clone_again (o : Option Addr) (len : Nat) (zs : List Int) (w : World) (hm : len ≤ 131072) (h : IsCopy w o len zs) :
    Calls Try.prog 6 #[.slice o len len] w fun e w' => ∃ o', e = .returned (.slice o' len len) ∧ IsCopy w' o' len zs ∧ Below w.heap.size w w' := by
  refine clone_copy o len len zs w hm ?_
  rcases h with h | ⟨B, ho, hp, hB, hc⟩
  · exact .inl h
  · exact .inr ⟨B, 0, ho, hp, hB, fun i hi => by simpa using hc i hi⟩
theorem equal_copy (o1 o2 : Option Addr) (len : Nat) (zs : List Int) (w : World) (hm : len ≤ 131072) (h1 : IsCopy w o1 len zs) (h2 : IsCopy w o2 len zs) :
    Calls Try.prog 19 #[.slice o1 len len, .slice o2 len len] w fun e w' => e = .returned (.bool true) ∧ Below w.heap.size w w' := by
  rcases h1 with rfl | ⟨B1, rfl, hp, hB1, c1⟩
  · exact equal_zero o1 o2 0 0 w
  · rcases h2 with rfl | ⟨B2, rfl, _, hB2, c2⟩
    · exact equal_zero _ _ 0 0 w
    · exact equal_pos B1 B2 len len len zs w hm c1 c2

/-! ### STEP 1: THE WALK -/
set_option maxHeartbeats 2000000 in
theorem walk_nn (a0 a1 a2 a3 a4 : Int) (a5 : Bool) (a7 : Option Addr) (len7 cap7 : Nat) (z7 : List Int) (a8 : Int) (hne0 : a8 ≠ a3) (w : World) (hm : len7 ≤ 131072) (h : len7 = 0 ∨ ∃ b off, a7 = some ⟨b, off, none⟩ ∧ 0 < len7 ∧ b < w.heap.size ∧ ∀ i, i < len7 → w.cell? ⟨b, off + i, none⟩ = some (.int .i64 (z7.getD i 0))) :
    Calls Try.prog 3 #[.int .i64 a0, .int .i64 a1, .int .i64 a2, .int .i64 a3, .int .i64 a4, .bool a5, .bool false, .slice a7 len7 cap7, .int .i64 a8] w fun e w' => e = .returned (.bool true) ∧ Below w.heap.size w w' := by
  have Hrow : Hid (len7 = 0 ∨ ∃ b off, a7 = some ⟨b, off, none⟩ ∧ 0 < len7 ∧ b < w.heap.size ∧ ∀ i, i < len7 → w.cell? ⟨b, off + i, none⟩ = some (.int .i64 (z7.getD i 0))) := h
  clear h
  go_enter Try.func3, Try.ntmps3
  go_wp2_with (go_at_call 5; refine (bytes5_yes _ _ _ _ _ _ _ _ _ _ _ _ (by omega)).mono ?_; rintro e w' ⟨rfl, rfl⟩)
  go_wp2_with fail
  refine (clone_copy a7 len7 cap7 z7 w' hm Hrow.out).mono ?_
  rintro e w1 ⟨o1, rfl, hc1, hb1⟩
  have Hc1 : Hid (IsCopy w1 o1 len7 z7) := hc1
  have Hb1 : Hid (Below w'.heap.size w' w1) := hb1
  clear hc1 hb1 Hrow
  go_wp2_with fail
  refine (clone_again o1 len7 z7 w1 hm Hc1.out).mono ?_
  rintro e w2 ⟨o2, rfl, hc2, hb2⟩
  have Hc2 : Hid (IsCopy w2 o2 len7 z7) := hc2
  have Hb2 : Hid (Below w1.heap.size w1 w2) := hb2
  clear hc2 hb2
  go_wp2_with fail
  refine (new7 a0 a1 a2 a3 a4 a5 false o2 len7 len7 w2).mono ?_
  rintro e w3 ⟨rfl, hG, hb3⟩
  have hL : Hid (Laid w' w3 w2.heap.size a0 a1 a2 a3 a4 a5 false o1 o2 len7) :=
    ⟨hG, (Hb1.out.trans (Hb2.out.mono Hb1.out.size)).trans (hb3.mono (Nat.le_trans Hb1.out.size Hb2.out.size)), fun W hW => equal_copy o2 o1 len7 z7 W hm ((Hc2.out.below hb3).below hW) (((Hc1.out.below Hb2.out).below hb3).below hW)⟩
  clear hG hb3 Hc1 Hc2 Hb1 Hb2
  have hne : Hid (a8 ≠ a3) := hne0
  have hd : (a8 == a3) = false := by simpa using hne0
  clear hne0
  go_wp2_with fail
  refine (ztry_no _ a8 a3 false w3 (hL.out.game.cell (ng_21 _ _ _ _ _ _ _ _ _)) (hL.out.game.cell (ng_24 _ _ _ _ _ _ _ _ _)) (.inl hne.out)).mono ?_
  rintro e w4 ⟨rfl, rfl⟩
  go_wp2_with fail
  refine (same_ng _ a0 a1 a2 a3 a4 a5 _ _ _ len7 w4 hL.out.game (hL.out.eq _ (Below.refl _ _))).mono ?_
  rintro e w5 ⟨rfl, hb5⟩
  have hG5 : Hid (Game w5 _ (ng a0 a1 a2 a3 a4 a5 false _ len7)) := hL.out.game.below hb5 hL.out.game.lt
  have HB5 : Hid (Below w'.heap.size w' w5) := hL.out.below.trans (hb5.mono hL.out.below.size)
  clear hb5
  go_wp2_with fail
  refine (ztry_yes _ a3 _ w5 hG5.out (ng_21 _ _ _ _ _ _ _ _ _) (ng_24 _ _ _ _ _ _ _ _ _)).mono ?_
  rintro e w6 ⟨rfl, hG6, hb6⟩
  go_wp2_with fail
  go_ret
  exact ⟨rfl, HB5.out.trans (hb6.mono HB5.out.size)⟩

set_option maxHeartbeats 2000000 in
theorem walk_nf (a0 a1 a2 a3 a4 : Int) (a5 : Bool) (a7 : Option Addr) (len7 cap7 : Nat) (z7 : List Int) (a8 : Int) (hne0 : a8 ≠ a3) (w : World) (hm : len7 ≤ 131072) (h : len7 = 0 ∨ ∃ b off, a7 = some ⟨b, off, none⟩ ∧ 0 < len7 ∧ b < w.heap.size ∧ ∀ i, i < len7 → w.cell? ⟨b, off + i, none⟩ = some (.int .i64 (z7.getD i 0))) :
    Calls Try.prog 3 #[.int .i64 a0, .int .i64 a1, .int .i64 a2, .int .i64 a3, .int .i64 a4, .bool a5, .bool true, .slice a7 len7 cap7, .int .i64 a8] w fun e w' => e = .returned (.bool true) ∧ Below w.heap.size w w' := by
  have Hrow : Hid (len7 = 0 ∨ ∃ b off, a7 = some ⟨b, off, none⟩ ∧ 0 < len7 ∧ b < w.heap.size ∧ ∀ i, i < len7 → w.cell? ⟨b, off + i, none⟩ = some (.int .i64 (z7.getD i 0))) := h
  clear h
  go_enter Try.func3, Try.ntmps3
  go_wp2_with (go_at_call 5; refine (bytes5_yes _ _ _ _ _ _ _ _ _ _ _ _ (by omega)).mono ?_; rintro e w' ⟨rfl, rfl⟩)
  go_wp2_with fail
  refine (clone_copy a7 len7 cap7 z7 w' hm Hrow.out).mono ?_
  rintro e w1 ⟨o1, rfl, hc1, hb1⟩
  have Hc1 : Hid (IsCopy w1 o1 len7 z7) := hc1
  have Hb1 : Hid (Below w'.heap.size w' w1) := hb1
  clear hc1 hb1 Hrow
  go_wp2_with fail
  refine (clone_again o1 len7 z7 w1 hm Hc1.out).mono ?_
  rintro e w2 ⟨o2, rfl, hc2, hb2⟩
  have Hc2 : Hid (IsCopy w2 o2 len7 z7) := hc2
  have Hb2 : Hid (Below w1.heap.size w1 w2) := hb2
  clear hc2 hb2
  go_wp2_with fail
  refine (new7 a0 a1 a2 a3 a4 a5 true o2 len7 len7 w2).mono ?_
  rintro e w3 ⟨rfl, hG, hb3⟩
  have hL : Hid (Laid w' w3 w2.heap.size a0 a1 a2 a3 a4 a5 true o1 o2 len7) :=
    ⟨hG, (Hb1.out.trans (Hb2.out.mono Hb1.out.size)).trans (hb3.mono (Nat.le_trans Hb1.out.size Hb2.out.size)), fun W hW => equal_copy o2 o1 len7 z7 W hm ((Hc2.out.below hb3).below hW) (((Hc1.out.below Hb2.out).below hb3).below hW)⟩
  clear hG hb3 Hc1 Hc2 Hb1 Hb2
  have hd : (a8 == a3) = false := by simpa using hne0
  clear hne0
  go_wp2_with fail
  refine (ztry_no _ a8 a3 true w3 (hL.out.game.cell (ng_21 _ _ _ _ _ _ _ _ _)) (hL.out.game.cell (ng_24 _ _ _ _ _ _ _ _ _)) (.inr rfl)).mono ?_
  rintro e w4 ⟨rfl, rfl⟩
  go_wp2_with fail
  refine (same_ng _ a0 a1 a2 a3 a4 a5 _ _ _ len7 w4 hL.out.game (hL.out.eq _ (Below.refl _ _))).mono ?_
  rintro e w5 ⟨rfl, hb5⟩
  have hG5 : Hid (Game w5 _ (ng a0 a1 a2 a3 a4 a5 true _ len7)) := hL.out.game.below hb5 hL.out.game.lt
  have HB5 : Hid (Below w'.heap.size w' w5) := hL.out.below.trans (hb5.mono hL.out.below.size)
  clear hb5
  go_wp2_with fail
  refine (ztry_no _ a3 a3 true w5 (hG5.out.cell (ng_21 _ _ _ _ _ _ _ _ _)) (hG5.out.cell (ng_24 _ _ _ _ _ _ _ _ _)) (.inr rfl)).mono ?_
  rintro e w6 ⟨rfl, rfl⟩
  go_wp2_with fail
  go_ret
  exact ⟨rfl, HB5⟩

set_option maxHeartbeats 2000000 in
theorem walk_ff (a0 a1 a2 a3 a4 : Int) (a5 : Bool) (a7 : Option Addr) (len7 cap7 : Nat) (z7 : List Int)  (w : World) (hm : len7 ≤ 131072) (h : len7 = 0 ∨ ∃ b off, a7 = some ⟨b, off, none⟩ ∧ 0 < len7 ∧ b < w.heap.size ∧ ∀ i, i < len7 → w.cell? ⟨b, off + i, none⟩ = some (.int .i64 (z7.getD i 0))) :
    Calls Try.prog 3 #[.int .i64 a0, .int .i64 a1, .int .i64 a2, .int .i64 a3, .int .i64 a4, .bool a5, .bool true, .slice a7 len7 cap7, .int .i64 a3] w fun e w' => e = .returned (.bool true) ∧ Below w.heap.size w w' := by
  have Hrow : Hid (len7 = 0 ∨ ∃ b off, a7 = some ⟨b, off, none⟩ ∧ 0 < len7 ∧ b < w.heap.size ∧ ∀ i, i < len7 → w.cell? ⟨b, off + i, none⟩ = some (.int .i64 (z7.getD i 0))) := h
  clear h
  go_enter Try.func3, Try.ntmps3
  go_wp2_with (go_at_call 5; refine (bytes5_yes _ _ _ _ _ _ _ _ _ _ _ _ (by omega)).mono ?_; rintro e w' ⟨rfl, rfl⟩)
  go_wp2_with fail
  refine (clone_copy a7 len7 cap7 z7 w' hm Hrow.out).mono ?_
  rintro e w1 ⟨o1, rfl, hc1, hb1⟩
  have Hc1 : Hid (IsCopy w1 o1 len7 z7) := hc1
  have Hb1 : Hid (Below w'.heap.size w' w1) := hb1
  clear hc1 hb1 Hrow
  go_wp2_with fail
  refine (clone_again o1 len7 z7 w1 hm Hc1.out).mono ?_
  rintro e w2 ⟨o2, rfl, hc2, hb2⟩
  have Hc2 : Hid (IsCopy w2 o2 len7 z7) := hc2
  have Hb2 : Hid (Below w1.heap.size w1 w2) := hb2
  clear hc2 hb2
  go_wp2_with fail
  refine (new7 a0 a1 a2 a3 a4 a5 true o2 len7 len7 w2).mono ?_
  rintro e w3 ⟨rfl, hG, hb3⟩
  have hL : Hid (Laid w' w3 w2.heap.size a0 a1 a2 a3 a4 a5 true o1 o2 len7) :=
    ⟨hG, (Hb1.out.trans (Hb2.out.mono Hb1.out.size)).trans (hb3.mono (Nat.le_trans Hb1.out.size Hb2.out.size)), fun W hW => equal_copy o2 o1 len7 z7 W hm ((Hc2.out.below hb3).below hW) (((Hc1.out.below Hb2.out).below hb3).below hW)⟩
  clear hG hb3 Hc1 Hc2 Hb1 Hb2
  go_wp2_with fail
  refine (ztry_no _ a3 a3 true w3 (hL.out.game.cell (ng_21 _ _ _ _ _ _ _ _ _)) (hL.out.game.cell (ng_24 _ _ _ _ _ _ _ _ _)) (.inr rfl)).mono ?_
  rintro e w4 ⟨rfl, rfl⟩
  go_wp2_with fail
  refine (same_ng _ a0 a1 a2 a3 a4 a5 _ _ _ len7 w4 hL.out.game (hL.out.eq _ (Below.refl _ _))).mono ?_
  rintro e w5 ⟨rfl, hb5⟩
  have hG5 : Hid (Game w5 _ (ng a0 a1 a2 a3 a4 a5 true _ len7)) := hL.out.game.below hb5 hL.out.game.lt
  have HB5 : Hid (Below w'.heap.size w' w5) := hL.out.below.trans (hb5.mono hL.out.below.size)
  clear hb5
  go_wp2_with fail
  refine (ztry_no _ a3 a3 true w5 (hG5.out.cell (ng_21 _ _ _ _ _ _ _ _ _)) (hG5.out.cell (ng_24 _ _ _ _ _ _ _ _ _)) (.inr rfl)).mono ?_
  rintro e w6 ⟨rfl, rfl⟩
  go_wp2_with fail
  go_ret
  exact ⟨rfl, HB5⟩

set_option maxHeartbeats 2000000 in
theorem walk_fire (a0 a1 a2 a3 a4 : Int) (a5 : Bool) (a7 : Option Addr) (len7 cap7 : Nat) (z7 : List Int)  (w : World) (hm : len7 ≤ 131072) (h : len7 = 0 ∨ ∃ b off, a7 = some ⟨b, off, none⟩ ∧ 0 < len7 ∧ b < w.heap.size ∧ ∀ i, i < len7 → w.cell? ⟨b, off + i, none⟩ = some (.int .i64 (z7.getD i 0))) :
    Calls Try.prog 3 #[.int .i64 a0, .int .i64 a1, .int .i64 a2, .int .i64 a3, .int .i64 a4, .bool a5, .bool false, .slice a7 len7 cap7, .int .i64 a3] w fun e w' => e = .returned (.bool true) ∧ Below w.heap.size w w' := by
  have Hrow : Hid (len7 = 0 ∨ ∃ b off, a7 = some ⟨b, off, none⟩ ∧ 0 < len7 ∧ b < w.heap.size ∧ ∀ i, i < len7 → w.cell? ⟨b, off + i, none⟩ = some (.int .i64 (z7.getD i 0))) := h
  clear h
  go_enter Try.func3, Try.ntmps3
  go_wp2_with (go_at_call 5; refine (bytes5_yes _ _ _ _ _ _ _ _ _ _ _ _ (by omega)).mono ?_; rintro e w' ⟨rfl, rfl⟩)
  go_wp2_with fail
  refine (clone_copy a7 len7 cap7 z7 w' hm Hrow.out).mono ?_
  rintro e w1 ⟨o1, rfl, hc1, hb1⟩
  have Hc1 : Hid (IsCopy w1 o1 len7 z7) := hc1
  have Hb1 : Hid (Below w'.heap.size w' w1) := hb1
  clear hc1 hb1 Hrow
  go_wp2_with fail
  refine (clone_again o1 len7 z7 w1 hm Hc1.out).mono ?_
  rintro e w2 ⟨o2, rfl, hc2, hb2⟩
  have Hc2 : Hid (IsCopy w2 o2 len7 z7) := hc2
  have Hb2 : Hid (Below w1.heap.size w1 w2) := hb2
  clear hc2 hb2
  go_wp2_with fail
  refine (new7 a0 a1 a2 a3 a4 a5 false o2 len7 len7 w2).mono ?_
  rintro e w3 ⟨rfl, hG, hb3⟩
  have hL : Hid (Laid w' w3 w2.heap.size a0 a1 a2 a3 a4 a5 false o1 o2 len7) :=
    ⟨hG, (Hb1.out.trans (Hb2.out.mono Hb1.out.size)).trans (hb3.mono (Nat.le_trans Hb1.out.size Hb2.out.size)), fun W hW => equal_copy o2 o1 len7 z7 W hm ((Hc2.out.below hb3).below hW) (((Hc1.out.below Hb2.out).below hb3).below hW)⟩
  clear hG hb3 Hc1 Hc2 Hb1 Hb2
  go_wp2_with fail
  refine (ztry_yes _ a3 _ w3 hL.out.game (ng_21 _ _ _ _ _ _ _ _ _) (ng_24 _ _ _ _ _ _ _ _ _)).mono ?_
  rintro e w4 ⟨rfl, hG4, hb4⟩
  rw [ng_set] at hG4
  have hN4 : Hid (Game w4 w3.heap.size (ng a0 a1 a2 a3 a4 a5 true _ len7)) := hG4
  have hO4 : Hid (Game w4 _ (ng a0 a1 a2 a3 a4 a5 false _ len7)) := hL.out.game.below hb4 hL.out.game.lt
  have HB4 : Hid (Below w3.heap.size w3 w4) := hb4
  clear hG4 hb4
  go_wp2_with fail
  refine (same_ng _ a0 a1 a2 a3 a4 a5 _ _ _ len7 w4 hO4.out (hL.out.eq _ HB4.out)).mono ?_
  rintro e w5 ⟨rfl, hb5⟩
  have hN5 : Hid (Game w5 w3.heap.size (ng a0 a1 a2 a3 a4 a5 true _ len7)) := hN4.out.below hb5 hN4.out.lt
  have hO5 : Hid (Game w5 _ (ng a0 a1 a2 a3 a4 a5 false _ len7)) := hO4.out.below hb5 hO4.out.lt
  have HB5 : Hid (Below w3.heap.size w3 w5) := HB4.out.trans (hb5.mono HB4.out.size)
  clear hb5 hN4 hO4 HB4
  go_wp2_with fail
  refine (same_ng _ a0 a1 a2 a3 a4 a5 _ _ _ len7 w5 hN5.out (hL.out.eq _ HB5.out)).mono ?_
  rintro e w6 ⟨rfl, hb6⟩
  have hN6 : Hid (Game w6 w3.heap.size (ng a0 a1 a2 a3 a4 a5 true _ len7)) := hN5.out.below hb6 hN5.out.lt
  have hO6 : Hid (Game w6 _ (ng a0 a1 a2 a3 a4 a5 false _ len7)) := hO5.out.below hb6 hO5.out.lt
  have HB6 : Hid (Below w'.heap.size w' w6) := hL.out.below.trans ((HB5.out.trans (hb6.mono HB5.out.size)).mono hL.out.below.size)
  clear hb6 hN5 hO5 HB5
  go_wp2_with fail
  refine (ztry_no _ a3 a3 true w6 (hN6.out.cell (ng_21 _ _ _ _ _ _ _ _ _)) (hN6.out.cell (ng_24 _ _ _ _ _ _ _ _ _)) (.inr rfl)).mono ?_
  rintro e w7 ⟨rfl, rfl⟩
  go_wp2_with fail
  refine (ztry_yes _ a3 _ w7 hO6.out (ng_21 _ _ _ _ _ _ _ _ _) (ng_24 _ _ _ _ _ _ _ _ _)).mono ?_
  rintro e w8 ⟨rfl, hG8, hb8⟩
  rw [ng_set] at hG8
  have H8 : Hid (Game w8 w7.heap.size (ng a0 a1 a2 a3 a4 a5 true _ len7)) := hG8
  have HB8 : Hid (Below w'.heap.size w' w8) := HB6.out.trans (hb8.mono HB6.out.size)
  clear hG8 hb8
  go_wp2_with fail
  refine (rd10 _ true w8 (H8.out.cell (ng_24 _ _ _ _ _ _ _ _ _))).mono ?_
  rintro e w9 ⟨rfl, rfl⟩
  go_wp2_with fail
  go_ret
  exact ⟨rfl, HB8⟩

theorem walk (a0 a1 a2 a3 a4 : Int) (a5 a6 : Bool) (a7 : Option Addr) (len7 cap7 : Nat) (z7 : List Int) (a8 : Int) (w : World) (w7 : IsRow .i64 w a7 len7 cap7 z7) :
    Calls Try.prog 3 #[.int .i64 a0, .int .i64 a1, .int .i64 a2, .int .i64 a3, .int .i64 a4, .bool a5, .bool a6, .slice a7 len7 cap7, .int .i64 a8] w fun e w' => e = .returned (.bool true) ∧ Below w.heap.size w w' := by
  obtain ⟨hm, h⟩ := row_parts w7
  by_cases hl : len7 ≤ 131072
  · by_cases he : a8 = a3
    · subst he
      cases a6
      · exact walk_fire a0 a1 a2 a8 a4 a5 a7 len7 cap7 z7 w hl h
      · exact walk_ff a0 a1 a2 a8 a4 a5 a7 len7 cap7 z7 w hl h
    · cases a6
      · exact walk_nn a0 a1 a2 a3 a4 a5 a7 len7 cap7 z7 a8 he w hl h
      · exact walk_nf a0 a1 a2 a3 a4 a5 a7 len7 cap7 z7 a8 he w hl h
  · exact walk_long a0 a1 a2 a3 a4 a5 a6 a7 len7 cap7 a8 w hm hl
end Go.Proofs.Qxb6614291a.fnFailedTryFailsOnceThenPasses
