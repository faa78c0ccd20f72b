/-
  zzDistinct, zzKeysOK, zzFirstUnique, zzBytes.
-/
import Derived.Test.Qxb6613626aArgs
namespace Go.Proofs.Qxb6613626a
open Go.ChangeShapes Go.WideShapes Go.ChangeAt Go.RowKit

def RetB (e : Ending) : Prop := ∃ b, e = .returned (.bool b)

set_option maxRecDepth 10000 in
set_option maxHeartbeats 1600000 in
theorem distinct25 (a : Option Addr) (n c : Nat) (S : Nat → ByteArray) (B : Nat) (w : World) (hS : Lies w B a n (fun i => .string (S i))) (hm : n ≤ 4096) :
    Calls Try.prog 25 #[.slice a n c] w (fun e w' => RetB e ∧ ∃ q, w' = w.drewN q) := by
  have HS : Hid (Lies w B a n (fun i => .string (S i))) := hS
  clear hS
  go_enter Try.func25, Try.ntmps25
  go_wp2_with fail
  go_loopw [3] (fun i wr => ∃ k : Nat, k ≤ n ∧ i = .int .i64 k ∧ ∃ q, wr = w.drewN q) (fun i _ => (4097 - intOf i).toNat)
  case atStart => exact ⟨0, Nat.zero_le _, rfl, 0, rfl⟩
  case round =>
    obtain ⟨k, hk, rfl, q, rfl⟩ := hrel
    by_cases hlt : k < n
    · rcases HS.out with h0 | ⟨b, off, rfl, hb, hr⟩
      · omega
      have HR : Hid (∀ i, i < n → w.cell? ⟨b, off + i, none⟩ = some (.string (S i))) := hr
      clear hr
      have ck : w.cell? ⟨b, off + k, none⟩ = some (.string (S k)) := HR.out k hlt
      go_wp2_with fail
      go_loopw [4] (fun i wr => ∃ j : Nat, j ≤ n ∧ i = .int .i64 j ∧ ∃ q, wr = w.drewN q) (fun i _ => (4097 - intOf i).toNat)
      case atStart => exact ⟨k + 1, by omega, by go_num, q, rfl⟩
      case round =>
        obtain ⟨j, hj, rfl, q1, rfl⟩ := hrel
        by_cases hlj : j < n
        · have cj : w.cell? ⟨b, off + j, none⟩ = some (.string (S j)) := HR.out j hlj
          go_wp2_with fail
          go_quiet (fail)
          go_wp2
          · go_ret
            exact ⟨⟨_, rfl⟩, _, World.drewN_drewN _ _ _⟩
          · exact ⟨⟨j + 1, by omega, by go_num, _, rfl⟩, by simp [intOf]; omega⟩
        · go_wp2
          exact ⟨⟨k + 1, by omega, by go_num, _, rfl⟩, by simp [intOf]; omega⟩
    · go_wp2
      go_ret
      exact ⟨⟨_, rfl⟩, _, rfl⟩

/-- What zzKeysOK says where it says yes. -/
def Fits (n1 n2 n3 : Nat) (m : Nat → Nat) (J : Nat → Nat → Int) : Prop := n1 ≤ 4096 ∧ n2 = n3 ∧ ∀ i, i < n3 → ∀ k, k < m i → 0 ≤ J i k ∧ J i k < n1
def Ret9 (n1 n2 n3 : Nat) (m : Nat → Nat) (J : Nat → Nat → Int) (e : Ending) : Prop := ∃ b, e = .returned (.bool b) ∧ (b = true → Fits n1 n2 n3 m J)

set_option maxRecDepth 10000 in
set_option maxHeartbeats 1600000 in
theorem keysok9 (a1 a2 a3 : Option Addr) (n1 c1 n2 c2 n3 c3 : Nat) (S : Nat → ByteArray) (ra : Nat → Option Addr) (m rc : Nat → Nat) (J : Nat → Nat → Int) (B : Nat) (w : World)
    (hS : Lies w B a1 n1 (fun i => .string (S i))) (hR : Lies w B a3 n3 (fun i => .slice (ra i) (m i) (rc i))) (hJ : ∀ i, i < n3 → Lies w B (ra i) (m i) (fun k => .int .i64 (J i k)))
    (hmm : ∀ i, i < n3 → m i ≤ 1048576) (h1 : n1 ≤ 1048576) (h2 : n2 ≤ 1048576) (h3 : n3 ≤ 1048576) :
    Calls Try.prog 9 #[.slice a1 n1 c1, .slice a2 n2 c2, .slice a3 n3 c3] w (fun e w' => Ret9 n1 n2 n3 m J e ∧ ∃ q, w' = w.drewN q) := by
  have HS : Hid (Lies w B a1 n1 (fun i => .string (S i))) := hS
  have HR : Hid (Lies w B a3 n3 (fun i => .slice (ra i) (m i) (rc i))) := hR
  have HJ : Hid (∀ i, i < n3 → Lies w B (ra i) (m i) (fun k => .int .i64 (J i k))) := hJ
  have HM : Hid (∀ i, i < n3 → m i ≤ 1048576) := hmm
  clear hS hR hJ hmm
  by_cases g1 : n1 ≤ 4096
  · by_cases g2 : n2 = n3
    · subst g2
      go_enter Try.func9, Try.ntmps9
      go_wp2_with (go_at_call 25
                   refine (distinct25 a1 n1 c1 S B w HS.out g1).mono ?_
                   rintro e w1 ⟨⟨bd, rfl⟩, q0, rfl⟩
                   rcases bd with _ | _)
      · go_ret
        exact ⟨⟨false, rfl, fun h => by cases h⟩, _, rfl⟩
      · go_loopw [7] (fun i wr => ∃ k : Nat, k ≤ n2 ∧ i = .int .i64 k ∧ (∀ i, i < k → ∀ l, l < m i → 0 ≤ J i l ∧ J i l < n1) ∧ wr = w.drewN q0) (fun i _ => (1048577 - intOf i).toNat)
        case atStart => exact ⟨0, Nat.zero_le _, rfl, fun i hi => by omega, rfl⟩
        case round =>
          obtain ⟨k, hk, rfl, hd, rfl⟩ := hrel
          have HD : Hid (∀ i, i < k → ∀ l, l < m i → 0 ≤ J i l ∧ J i l < n1) := hd
          clear hd
          by_cases hlt : k < n2
          · rcases HR.out with h0 | ⟨b, off, rfl, hb, hr⟩
            · omega
            have ck : w.cell? ⟨b, off + k, none⟩ = some (.slice (ra k) (m k) (rc k)) := hr k hlt
            clear hr
            go_wp2_with (go_at_call 26
                         refine (indices26 (ra k) (m k) (rc k) (J k) n1 B (w.drewN q0) ((HJ.out k hlt).below (below_drewN (Below.refl _ _) _)) (HM.out k hlt)).mono ?_
                         rintro e w2 ⟨⟨bi, rfl, hbi⟩, rfl⟩
                         have HI : Hid (bi = true → ∀ l, l < m k → 0 ≤ J k l ∧ J k l < n1) := hbi
                         clear hbi
                         rcases bi with _ | _)
            · go_ret
              exact ⟨⟨false, rfl, fun h => by cases h⟩, _, rfl⟩
            · refine ⟨⟨k + 1, by omega, by go_num, fun i hi => ?_, trivial⟩, by simp [intOf]; omega⟩
              rcases Nat.lt_or_ge i k with h4 | h4
              · exact HD.out i h4
              · obtain rfl : i = k := by omega
                exact HI.out trivial
          · go_wp2
            go_ret
            exact ⟨⟨true, rfl, fun _ => ⟨g1, rfl, fun i hi => HD.out i (by omega)⟩⟩, _, rfl⟩
    · have g2' : ((n2 : Int) != (n3 : Int)) = true := by simp; omega
      have g2'' : ¬ (n2 : Int) = n3 := by omega
      go_enter Try.func9, Try.ntmps9
      go_wp2
      go_ret
      exact ⟨⟨false, rfl, fun h => by cases h⟩, 0, rfl⟩
  · have g1' : (4096 : Int) < n1 := by omega
    go_enter Try.func9, Try.ntmps9
    go_wp2
    go_ret
    exact ⟨⟨false, rfl, fun h => by cases h⟩, 0, rfl⟩

end Go.Proofs.Qxb6613626a
