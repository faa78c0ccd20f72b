/-
  The arguments as they lie, and the functions that only read them.
-/
import Derived.Test.Qxb6613626aRows
import Derived.WalkKit
import Derived.ProofKit
import Derived.OpenShut
import Derived.ShutString
import Derived.ChangeOld
import Derived.Below
import Derived.Deep.OwnRows
import Derived.Deep.QuietTactic
import Derived.BigQuiet
import Derived.WalkSmall
namespace Go.Proofs.Qxb6613626a
open Go.ChangeShapes Go.WideShapes Go.ChangeAt Go.RowKit

/-- A slice's cells: element i is V i. -/
def Lies (w : World) (B : Nat) (a : Option Addr) (n : Nat) (V : Nat → Value) : Prop :=
  n = 0 ∨ ∃ b off, a = some ⟨b, off, none⟩ ∧ b < B ∧ ∀ i, i < n → w.cell? ⟨b, off + i, none⟩ = some (V i)

theorem Lies.below {w w' : World} {B : Nat} {a : Option Addr} {n : Nat} {V : Nat → Value} (h : Lies w B a n V) (hb : Below B w w') : Lies w' B a n V := by
  rcases h with h | ⟨b, off, e, hB, hr⟩
  · exact .inl h
  · exact .inr ⟨b, off, e, hB, fun i hi => (hb.cell (by exact hB)).trans (hr i hi)⟩

theorem Lies.mono {w : World} {B B' : Nat} {a : Option Addr} {n : Nat} {V : Nat → Value} (h : Lies w B a n V) (hb : B ≤ B') : Lies w B' a n V := by
  rcases h with h | ⟨b, off, e, hB, hr⟩
  · exact .inl h
  · exact .inr ⟨b, off, e, by omega, hr⟩

def Ret8 (n : Nat) (m : Nat → Nat) (e : Ending) : Prop := ∃ x, e = .returned (.int .i64 x) ∧ (x ≤ 1048576 → n ≤ 1048576 ∧ ∀ i, i < n → m i ≤ 1048576)
def Ret26 (n : Nat) (J : Nat → Int) (N : Nat) (e : Ending) : Prop := ∃ b, e = .returned (.bool b) ∧ (b = true → ∀ k, k < n → 0 ≤ J k ∧ J k < N)

theorem ints24 (sum : Int) (a : Option Addr) (n c : Nat) (w : World) (hm : n ≤ maxLen) :
    Calls Try.prog 24 #[.int .i64 sum, .slice a n c] w (fun e w' => (∃ x, e = .returned (.int .i64 x) ∧ (x ≤ 1048576 → n ≤ 1048576)) ∧ w' = w) := by
  unfold maxLen at hm
  by_cases h : sum ≤ 1048576
  · by_cases h1 : n ≤ 1048576
    · go_enter Try.func24, Try.ntmps24
      go_wp2
      go_ret
      exact ⟨⟨_, rfl, fun _ => h1⟩, rfl⟩
    · have h1' : (1048576 : Int) < n := by omega
      go_enter Try.func24, Try.ntmps24
      go_wp2
      go_ret
      exact ⟨⟨_, rfl, fun h => by omega⟩, rfl⟩
  · have h' : (1048576 : Int) < sum := by omega
    go_enter Try.func24, Try.ntmps24
    go_wp2
    go_ret
    exact ⟨⟨_, rfl, fun h => by omega⟩, rfl⟩

set_option maxRecDepth 10000 in
theorem strs7 (sum : Int) (a : Option Addr) (n c : Nat) (S : Nat → ByteArray) (B : Nat) (w : World) (hS : Lies w B a n (fun i => .string (S i))) (hm : n ≤ maxLen) :
    Calls Try.prog 7 #[.int .i64 sum, .slice a n c] w (fun e w' => (∃ x, e = .returned (.int .i64 x)) ∧ w' = w) := by
  unfold maxLen at hm
  have HS : Hid (Lies w B a n (fun i => .string (S i))) := hS
  clear hS
  by_cases h : sum ≤ 1048576
  · by_cases h1 : n ≤ 1048576
    · go_enter Try.func7, Try.ntmps7
      go_wp2
      go_loop [0, 5] (fun s i => ∃ k : Nat, k ≤ n ∧ i = .int .i64 k ∧ ∃ x, s = .int .i64 x) (fun _ i => (1048577 - intOf i).toNat)
      case atStart => exact ⟨0, Nat.zero_le _, rfl, _, rfl⟩
      case round =>
        obtain ⟨k, hk, rfl, x, rfl⟩ := hrel
        by_cases hlt : k < n
        · rcases HS.out with h0 | ⟨b, off, rfl, hb, hr⟩
          · omega
          have ck : w.cell? ⟨b, off + k, none⟩ = some (.string (S k)) := hr k hlt
          clear hr
          by_cases hx : x ≤ 1048576
          · by_cases hz : ((S k).size : Int) ≤ 1048576
            · go_wp2
              go_round
              case rel => exact ⟨k + 1, by omega, by go_num, _, rfl⟩
              case measure => simp [intOf]; omega
            · have hz' : (1048576 : Int) < ((S k).size : Int) := by omega
              go_wp2
              go_ret
              exact ⟨⟨_, rfl⟩, rfl⟩
          · have hx' : (1048576 : Int) < x := by omega
            go_wp2
            go_ret
            exact ⟨⟨_, rfl⟩, rfl⟩
        · go_wp2
          go_ret
          exact ⟨⟨_, rfl⟩, rfl⟩
    · have h1' : (1048576 : Int) < n := by omega
      go_enter Try.func7, Try.ntmps7
      go_wp2
      go_ret
      exact ⟨⟨_, rfl⟩, rfl⟩
  · have h' : (1048576 : Int) < sum := by omega
    go_enter Try.func7, Try.ntmps7
    go_wp2
    go_ret
    exact ⟨⟨_, rfl⟩, rfl⟩

set_option maxRecDepth 10000 in
theorem intss8 (sum : Int) (a : Option Addr) (n c : Nat) (ra : Nat → Option Addr) (m rc : Nat → Nat) (B : Nat) (w : World) (hR : Lies w B a n (fun i => .slice (ra i) (m i) (rc i)))
    (hmm : ∀ i, i < n → m i ≤ maxLen) (hm : n ≤ maxLen) :
    Calls Try.prog 8 #[.int .i64 sum, .slice a n c] w (fun e w' => Ret8 n m e ∧ w' = w) := by
  unfold maxLen at hm
  have HR : Hid (Lies w B a n (fun i => .slice (ra i) (m i) (rc i))) := hR
  have HM : Hid (∀ i, i < n → m i ≤ maxLen) := hmm
  clear hR hmm
  by_cases h : sum ≤ 1048576
  · by_cases h1 : n ≤ 1048576
    · go_enter Try.func8, Try.ntmps8
      go_wp2
      go_loop [0, 5] (fun s i => ∃ k : Nat, k ≤ n ∧ i = .int .i64 k ∧ (∃ x, s = .int .i64 x) ∧ ∀ j, j < k → m j ≤ 1048576) (fun _ i => (1048577 - intOf i).toNat)
      case atStart => exact ⟨0, Nat.zero_le _, rfl, ⟨_, rfl⟩, fun j hj => by omega⟩
      case round =>
        obtain ⟨k, hk, rfl, ⟨x, rfl⟩, hd⟩ := hrel
        have HD : Hid (∀ j, j < k → m j ≤ 1048576) := hd
        clear hd
        by_cases hlt : k < n
        · rcases HR.out with h0 | ⟨b, off, rfl, hb, hr⟩
          · omega
          have ck : w.cell? ⟨b, off + k, none⟩ = some (.slice (ra k) (m k) (rc k)) := hr k hlt
          clear hr
          go_wp2_with (go_at_call 24
                       refine (ints24 x (ra k) (m k) (rc k) w (HM.out k hlt)).mono ?_
                       rintro e w' ⟨⟨y, rfl, hy⟩, rfl⟩
                       have HY : Hid (y ≤ 1048576 → m k ≤ 1048576) := hy
                       clear hy
                       rcases Int.lt_or_le 1048576 y with hy | hy)
          · go_ret
            exact ⟨⟨y, rfl, fun h => by omega⟩, rfl⟩
          · go_round
            case rel =>
              refine ⟨k + 1, by omega, by go_num, ⟨_, rfl⟩, fun j hj => ?_⟩
              rcases Nat.lt_or_ge j k with h2 | h2
              · exact HD.out j h2
              · obtain rfl : j = k := by omega
                exact HY.out hy
            case measure => simp [intOf]; omega
        · go_wp2
          go_ret
          exact ⟨⟨x, rfl, fun _ => ⟨h1, fun i hi => HD.out i (by omega)⟩⟩, rfl⟩
    · have h1' : (1048576 : Int) < n := by omega
      go_enter Try.func8, Try.ntmps8
      go_wp2
      go_ret
      exact ⟨⟨_, rfl, fun h => by omega⟩, rfl⟩
  · have h' : (1048576 : Int) < sum := by omega
    go_enter Try.func8, Try.ntmps8
    go_wp2
    go_ret
    exact ⟨⟨_, rfl, fun h => by omega⟩, rfl⟩

set_option maxRecDepth 10000 in
theorem indices26 (a : Option Addr) (n c : Nat) (J : Nat → Int) (N : Nat) (B : Nat) (w : World) (hJ : Lies w B a n (fun i => .int .i64 (J i))) (hm : n ≤ 1048576) :
    Calls Try.prog 26 #[.slice a n c, .int .i64 N] w (fun e w' => Ret26 n J N e ∧ w' = w) := by
  have HJ : Hid (Lies w B a n (fun i => .int .i64 (J i))) := hJ
  clear hJ
  go_enter Try.func26, Try.ntmps26
  go_wp2
  go_loop [5] (fun i => ∃ k : Nat, k ≤ n ∧ i = .int .i64 k ∧ ∀ j, j < k → 0 ≤ J j ∧ J j < N) (fun i => (1048577 - intOf i).toNat)
  case atStart => exact ⟨0, Nat.zero_le _, rfl, fun j hj => by omega⟩
  case round =>
    obtain ⟨k, hk, rfl, hd⟩ := hrel
    have HD : Hid (∀ j, j < k → 0 ≤ J j ∧ J j < N) := hd
    clear hd
    by_cases hlt : k < n
    · rcases HJ.out with h0 | ⟨b, off, rfl, hb, hr⟩
      · omega
      have ck : w.cell? ⟨b, off + k, none⟩ = some (.int .i64 (J k)) := hr k hlt
      clear hr
      by_cases h0 : 0 ≤ J k
      · by_cases h1 : J k < N
        · go_wp2
          go_round
          case rel =>
            refine ⟨k + 1, by omega, by go_num, fun j hj => ?_⟩
            rcases Nat.lt_or_ge j k with h2 | h2
            · exact HD.out j h2
            · obtain rfl : j = k := by omega
              exact ⟨h0, h1⟩
          case measure => simp [intOf]; omega
        · have h1' : (N : Int) ≤ J k := by omega
          go_wp2
          go_ret
          exact ⟨⟨false, rfl, fun h => by cases h⟩, rfl⟩
      · have h0' : J k < 0 := by omega
        go_wp2
        go_ret
        exact ⟨⟨false, rfl, fun h => by cases h⟩, rfl⟩
    · go_wp2
      go_ret
      exact ⟨⟨true, rfl, fun _ i hi => HD.out i (by omega)⟩, rfl⟩

end Go.Proofs.Qxb6613626a
