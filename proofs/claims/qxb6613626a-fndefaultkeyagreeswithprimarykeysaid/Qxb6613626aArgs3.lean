/-
  zzFirstUnique, zzBytes.
-/
import Derived.Test.Qxb6613626aArgs2
namespace Go.Proofs.Qxb6613626a
open Go.ChangeShapes Go.WideShapes Go.ChangeAt Go.RowKit

/-- The first index below n at which P holds. -/
def First (P : Nat → Prop) (n : Nat) (r : Option Nat) : Prop := (∃ i, r = some i ∧ i < n ∧ P i ∧ ∀ j, j < i → ¬ P j) ∨ (r = none ∧ ∀ j, j < n → ¬ P j)
theorem First.unique {P : Nat → Prop} {n : Nat} {r r' : Option Nat} (h : First P n r) (h' : First P n r') : r = r' := by
  rcases h with ⟨i, rfl, hi, hp, hn⟩ | ⟨rfl, hn⟩ <;> rcases h' with ⟨i', rfl, hi', hp', hn'⟩ | ⟨rfl, hn'⟩
  · rcases Nat.lt_trichotomy i i' with h | h | h
    · exact absurd hp (hn' i h)
    · rw [h]
    · exact absurd hp' (hn i' h)
  · exact absurd hp (hn' i hi)
  · exact absurd hp' (hn i' hi')
  · rfl

def Uq (S : Nat → ByteArray) (m : Nat → Nat) (i : Nat) : Prop := (S i).toList = [85, 78, 73, 81, 85, 69] ∧ 0 < m i
def rowAt (ra : Nat → Option Addr) (m rc : Nat → Nat) : Option Nat → Value
  | some i => .slice (ra i) (m i) (rc i)
  | none => .slice none 0 0

def Ret11 (n : Nat) (S : Nat → ByteArray) (ra : Nat → Option Addr) (m rc : Nat → Nat) (e : Ending) : Prop := ∃ r, First (Uq S m) n r ∧ e = .returned (rowAt ra m rc r)

set_option maxRecDepth 10000 in
set_option maxHeartbeats 1600000 in
theorem unique11 (a2 a3 : Option Addr) (n c2 c3 : Nat) (S : Nat → ByteArray) (ra : Nat → Option Addr) (m rc : Nat → Nat) (B : Nat) (w : World)
    (hS : Lies w B a2 n (fun i => .string (S i))) (hR : Lies w B a3 n (fun i => .slice (ra i) (m i) (rc i))) (h3 : n ≤ 1048576) (hmm : ∀ i, i < n → m i ≤ 1048576) :
    Calls Try.prog 11 #[.slice a2 n c2, .slice a3 n c3] w (fun e w' => Ret11 n S ra m rc e ∧ w' = w) := by
  have HS : Hid (Lies w B a2 n (fun i => .string (S i))) := hS
  have HR : Hid (Lies w B a3 n (fun i => .slice (ra i) (m i) (rc i))) := hR
  have HM : Hid (∀ i, i < n → m i ≤ 1048576) := hmm
  clear hS hR hmm
  go_enter Try.func11, Try.ntmps11
  go_wp2_with fail
  go_loop [5] (fun i => ∃ k : Nat, k ≤ n ∧ i = .int .i64 k ∧ ∀ j, j < k → ¬ Uq S m j) (fun i => (1048577 - intOf i).toNat)
  case atStart => exact ⟨0, Nat.zero_le _, rfl, fun j hj => by omega⟩
  case round =>
    obtain ⟨k, hk, rfl, hd⟩ := hrel
    have HD : Hid (∀ j, j < k → ¬ Uq S m j) := hd
    clear hd
    by_cases hlt : k < n
    · rcases HR.out with h0 | ⟨b, off, rfl, hb, hr⟩
      · omega
      rcases HS.out with h0 | ⟨b', off', rfl, hb', hr'⟩
      · omega
      have ck : w.cell? ⟨b, off + k, none⟩ = some (.slice (ra k) (m k) (rc k)) := hr k hlt
      have sk : w.cell? ⟨b', off' + k, none⟩ = some (.string (S k)) := hr' k hlt
      have hmk := HM.out k hlt
      clear hr hr'
      have step : ¬ Uq S m k → ∀ j, j < k + 1 → ¬ Uq S m j := fun hn j hj => by
        rcases Nat.lt_or_ge j k with h4 | h4
        · exact HD.out j h4
        · obtain rfl : j = k := by omega
          exact hn
      have ST : Hid (¬ Uq S m k → ∀ j, j < k + 1 → ¬ Uq S m j) := step
      clear step
      by_cases hu : (S k).toList = [85, 78, 73, 81, 85, 69]
      · by_cases hm : 0 < m k
        · go_wp2
          go_ret
          exact ⟨⟨some k, .inl ⟨k, rfl, hlt, ⟨hu, hm⟩, HD.out⟩, rfl⟩, rfl⟩
        · go_wp2
          exact ⟨⟨k + 1, by omega, by go_num, ST.out (fun h => hm h.2)⟩, by simp [intOf]; omega⟩
      · go_wp2
        exact ⟨⟨k + 1, by omega, by go_num, ST.out (fun h => hu h.1)⟩, by simp [intOf]; omega⟩
    · go_wp2
      go_ret
      exact ⟨⟨none, .inr ⟨rfl, fun j hj => HD.out j (by omega)⟩, rfl⟩, rfl⟩

theorem meas {n k : Nat} (h : k < n) (hn : n ≤ 1048576) : (1048577 - intOf (.int .i64 ((k : Int) + 1))).toNat < (1048577 - intOf (.int .i64 (k : Int))).toNat := by
  simp [intOf]; omega

def Ret6 (n1 n2 n3 : Nat) (e : Ending) : Prop := ∃ b, e = .returned (.bool b) ∧ (b = true → n1 ≤ 1048576 ∧ n2 ≤ 1048576 ∧ n3 ≤ 1048576)

set_option maxRecDepth 10000 in
set_option maxHeartbeats 1600000 in
theorem bytes6 (a1 a2 a3 : Option Addr) (n1 c1 n2 c2 n3 c3 : Nat) (S1 S2 : Nat → ByteArray) (ra : Nat → Option Addr) (m rc : Nat → Nat) (B : Nat) (w : World)
    (hS1 : Lies w B a1 n1 (fun i => .string (S1 i))) (hS2 : Lies w B a2 n2 (fun i => .string (S2 i))) (hR : Lies w B a3 n3 (fun i => .slice (ra i) (m i) (rc i)))
    (h1 : n1 ≤ maxLen) (h2 : n2 ≤ maxLen) (h3 : n3 ≤ maxLen) :
    Calls Try.prog 6 #[.slice a1 n1 c1, .slice a2 n2 c2, .slice a3 n3 c3] w (fun e w' => Ret6 n1 n2 n3 e ∧ w' = w) := by
  unfold maxLen at h1 h2 h3
  have HS1 : Hid (Lies w B a1 n1 (fun i => .string (S1 i))) := hS1
  have HS2 : Hid (Lies w B a2 n2 (fun i => .string (S2 i))) := hS2
  have HR : Hid (Lies w B a3 n3 (fun i => .slice (ra i) (m i) (rc i))) := hR
  clear hS1 hS2 hR
  have no : ∀ {e : Ending}, e = .returned (.bool false) → Ret6 n1 n2 n3 e := fun h => ⟨false, h, fun h => by cases h⟩
  have NO : Hid (∀ {e : Ending}, e = .returned (.bool false) → Ret6 n1 n2 n3 e) := no
  clear no
  by_cases g1 : n1 ≤ 1048576
  · go_enter Try.func6, Try.ntmps6
    go_wp2
    go_loop [7, 8] (fun s i => ∃ k : Nat, k ≤ n1 ∧ i = .int .i64 k ∧ ∃ x, s = .int .i64 x) (fun _ i => (1048577 - intOf i).toNat)
    case atStart => exact ⟨0, Nat.zero_le _, rfl, _, rfl⟩
    case round =>
      obtain ⟨k, hk, rfl, x, rfl⟩ := hrel
      by_cases hlt : k < n1
      · rcases HS1.out with h0 | ⟨b, off, rfl, hb, hr⟩
        · omega
        have ck : w.cell? ⟨b, off + k, none⟩ = some (.string (S1 k)) := hr k hlt
        clear hr
        go_wp2
        all_goals first
          | (go_ret; exact ⟨NO.out rfl, rfl⟩)
          | exact ⟨⟨k + 1, by omega, by go_num, _, rfl⟩, meas hlt g1⟩
      · by_cases g2 : n2 ≤ 1048576
        · go_wp2
          · go_ret
            exact ⟨NO.out rfl, rfl⟩
          · go_loop [7, 9] (fun s i => ∃ k : Nat, k ≤ n2 ∧ i = .int .i64 k ∧ ∃ x, s = .int .i64 x) (fun _ i => (1048577 - intOf i).toNat)
            case atStart => exact ⟨0, Nat.zero_le _, rfl, _, rfl⟩
            case round =>
              obtain ⟨k, hk, rfl, x, rfl⟩ := hrel
              by_cases hlt : k < n2
              · rcases HS2.out with h0 | ⟨b, off, rfl, hb, hr⟩
                · omega
                have ck : w.cell? ⟨b, off + k, none⟩ = some (.string (S2 k)) := hr k hlt
                clear hr
                go_wp2
                all_goals first
                  | (go_ret; exact ⟨NO.out rfl, rfl⟩)
                  | exact ⟨⟨k + 1, by omega, by go_num, _, rfl⟩, meas hlt g2⟩
              · by_cases g3 : n3 ≤ 1048576
                · go_wp2
                  · go_ret
                    exact ⟨NO.out rfl, rfl⟩
                  · go_loop [7, 10] (fun s i => ∃ k : Nat, k ≤ n3 ∧ i = .int .i64 k ∧ ∃ x, s = .int .i64 x) (fun _ i => (1048577 - intOf i).toNat)
                    case atStart => exact ⟨0, Nat.zero_le _, rfl, _, rfl⟩
                    case round =>
                      obtain ⟨k, hk, rfl, x, rfl⟩ := hrel
                      by_cases hlt : k < n3
                      · rcases HR.out with h0 | ⟨b, off, rfl, hb, hr⟩
                        · omega
                        have ck : w.cell? ⟨b, off + k, none⟩ = some (.slice (ra k) (m k) (rc k)) := hr k hlt
                        clear hr
                        go_wp2
                        all_goals first
                          | (go_ret; exact ⟨NO.out rfl, rfl⟩)
                          | exact ⟨⟨k + 1, by omega, by go_num, _, rfl⟩, meas hlt g3⟩
                      · go_wp2
                        go_ret
                        exact ⟨⟨true, rfl, fun _ => ⟨g1, g2, g3⟩⟩, rfl⟩
                · have g3' : (1048576 : Int) < n3 := by omega
                  go_wp2
                  go_ret
                  exact ⟨NO.out rfl, rfl⟩
        · have g2' : (1048576 : Int) < n2 := by omega
          go_wp2
          go_ret
          exact ⟨NO.out rfl, rfl⟩
  · have g1' : (1048576 : Int) < n1 := by omega
    go_enter Try.func6, Try.ntmps6
    go_wp2
    go_ret
    exact ⟨NO.out rfl, rfl⟩
end Go.Proofs.Qxb6613626a
