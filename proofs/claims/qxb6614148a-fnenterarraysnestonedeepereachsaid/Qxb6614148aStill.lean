/-
  The two laws where nothing is entered: in a header, or no key.
-/
import Derived.Test.Qxb6614148aBuild
namespace Go.Proofs.Qxb6614148a
open Go.ChangeShapes Go.WideShapes Go.ChangeAt Go.RowKit

/-- The keys, as they came in. -/
def Keys (w : World) (B : Nat) (a : Option Addr) (len : Nat) (K : Nat → Int) : Prop :=
  len = 0 ∨ ∃ b off, a = some ⟨b, off, none⟩ ∧ b < B ∧ ∀ i, i < len → w.cell? ⟨b, off + i, none⟩ = some (.int .i64 (K i))

theorem Hid.intro {p : Prop} (h : p) : Hid p := h

set_option maxRecDepth 100000 in
set_option maxHeartbeats 1600000 in
theorem arr_header (w : World) (lim tab dep val dots : Int) (ik : Bool) (a7 : Option Addr) (l7 c7 : Nat) (L : Nat → Lv) (a8 : Option Addr) (l8 c8 : Nat) (K : Nat → Int)
    (hp : Prior w w.heap.size a7 l7 L) (hk8 : Keys w w.heap.size a8 l8 K)
    (h7 : l7 ≤ 32768) (h8 : l8 ≤ 131072) (hs : 40 * l7 + 8 * l8 ≤ 1048576) :
    Calls Try.prog 3 #[.int .i64 lim, .int .i64 tab, .int .i64 dep, .int .i64 val, .int .i64 dots, .bool ik, .bool true, .slice a7 l7 c7, .slice a8 l8 c8] w
      (fun e w' => e = .returned (.bool true) ∧ Below w.heap.size w w') := by
  have HP : Hid (Prior w w.heap.size a7 l7 L) := hp
  have HK : Hid (Keys w w.heap.size a8 l8 K) := hk8
  have hs' : (40 : Int) * l7 + 8 * l8 ≤ 1048576 := by omega
  clear hp hk8
  cases ik
  all_goals
    go_enter Try.func3, Try.ntmps3
    go_wp2_with (first
      | (go_at_call 5
         refine (bytes5 lim tab dep val dots _ true a7 _ l7 c7 l8 c8 w (by unfold maxLen; omega) (by unfold maxLen; omega)).mono ?_
         rintro e W ⟨rfl, rfl⟩
         rw [decide_eq_true (show l7 + l8 ≤ 1048576 by omega)])
      | (go_at_call 6
         refine (build6 W lim tab dep val dots _ true a7 l7 c7 L HP.out h7).mono ?_
         rintro e w0 ⟨rfl, ⟨ao0, cap0, hN⟩, hB⟩
         have HN := Hid.intro hN
         have HB : Hid (Below W.heap.size W w0) := hB
         clear hN hB))
    go_loopw [21] (fun i wr => ∃ k : Nat, k ≤ l8 ∧ i = .int .i64 k ∧ wr = w0) (fun i _ => (131072 - intOf i).toNat)
    case atStart => exact ⟨0, Nat.zero_le _, rfl, rfl⟩
    case round =>
      obtain ⟨k, hk, rfl, rfl⟩ := hrel
      by_cases hlt : k < l8
      · rcases HK.out with h0 | ⟨kb, ko, rfl, hkb, hkc⟩
        · omega
        have ck : World.cell? _ ⟨kb, ko + k, none⟩ = some (.int .i64 (K k)) := (HB.out.cell (by exact hkb)).trans (hkc k hlt)
        clear hkc
        go_wp2_with (go_at_call 7
                     refine (enter7_header _ W.heap.size lim tab dep val dots _ ao0 l7 cap0 _ false (K k) HN.out).mono ?_
                     rintro e w1 ⟨rfl, rfl⟩)
        exact ⟨⟨k + 1, by omega, by go_num, trivial⟩, by simp [intOf]; omega⟩
      · have ek : k = l8 := by omega
        subst k
        go_wp2_with (first
          | (go_at_call 8
             refine (fields8 _ _ lim tab dep val dots _ true ao0 l7 cap0 _ HN.out).mono ?_
             rintro e w2 ⟨rfl, m, rfl⟩
             have HN2 := Hid.intro (HN.out.drewN m)
             have HB2 := Hid.intro (below_drewN HB.out m)
             clear HN HB
             generalize World.drewN _ m = w2 at *)
          | (go_at_call 9
             refine (prior9 w2 _ W.heap.size lim tab dep val dots _ true ao0 l7 cap0 L a7 l7 c7 L HN2.out (HP.out.below HB2.out) HB2.out.size (Nat.le_refl _) (fun _ _ => rfl) h7).mono ?_
             rintro e w3 ⟨rfl, hB3⟩
             have HB3 : Hid (Below W.heap.size W w3) := HB2.out.trans (hB3.mono HB2.out.size)
             clear HN2 HB2 hB3))
        go_ret
        exact ⟨rfl, HB3.out⟩

set_option maxRecDepth 100000 in
set_option maxHeartbeats 1600000 in
theorem arr_none (w : World) (lim tab dep val dots : Int) (ik : Bool) (a7 : Option Addr) (l7 c7 : Nat) (L : Nat → Lv) (a8 : Option Addr) (l8 c8 : Nat)
    (hp : Prior w w.heap.size a7 l7 L)
    (h7 : l7 ≤ 32768) (h8 : l8 ≤ 131072) (hs : 40 * l7 + 8 * l8 ≤ 1048576) (h0 : l8 = 0) :
    Calls Try.prog 3 #[.int .i64 lim, .int .i64 tab, .int .i64 dep, .int .i64 val, .int .i64 dots, .bool ik, .bool false, .slice a7 l7 c7, .slice a8 l8 c8] w
      (fun e w' => e = .returned (.bool true) ∧ Below w.heap.size w w') := by
  have HP : Hid (Prior w w.heap.size a7 l7 L) := hp
  have hs' : (40 : Int) * l7 + 8 * l8 ≤ 1048576 := by omega
  have h0' : (l8 : Int) ≤ 0 := by omega
  clear hp h0
  cases ik
  all_goals
    go_enter Try.func3, Try.ntmps3
    go_wp2_with (first
      | (go_at_call 5
         refine (bytes5 lim tab dep val dots _ false a7 _ l7 c7 l8 c8 w (by unfold maxLen; omega) (by unfold maxLen; omega)).mono ?_
         rintro e W ⟨rfl, rfl⟩
         rw [decide_eq_true (show l7 + l8 ≤ 1048576 by omega)])
      | (go_at_call 6
         refine (build6 W lim tab dep val dots _ false a7 l7 c7 L HP.out h7).mono ?_
         rintro e w0 ⟨rfl, ⟨ao0, cap0, hN⟩, hB⟩
         have HN := Hid.intro hN
         have HB : Hid (Below W.heap.size W w0) := hB
         clear hN hB))
    go_loopw [21] (fun i wr => ∃ k : Nat, k ≤ l8 ∧ i = .int .i64 k ∧ wr = w0) (fun i _ => (131072 - intOf i).toNat)
    case atStart => exact ⟨0, Nat.zero_le _, rfl, rfl⟩
    case round =>
      obtain ⟨k, hk, rfl, rfl⟩ := hrel
      by_cases hlt : k < l8
      · omega
      · have ek : k = l8 := by omega
        subst k
        go_wp2_with (first
          | (go_at_call 8
             refine (fields8 _ _ lim tab dep val dots _ false ao0 l7 cap0 _ HN.out).mono ?_
             rintro e w2 ⟨rfl, m, rfl⟩
             have HN2 := Hid.intro (HN.out.drewN m)
             have HB2 := Hid.intro (below_drewN HB.out m)
             clear HN HB
             generalize World.drewN _ m = w2 at *)
          | (go_at_call 9
             refine (prior9 w2 _ W.heap.size lim tab dep val dots _ false ao0 l7 cap0 L a7 l7 c7 L HN2.out (HP.out.below HB2.out) HB2.out.size (Nat.le_refl _) (fun _ _ => rfl) h7).mono ?_
             rintro e w3 ⟨rfl, hB3⟩
             have HB3 : Hid (Below W.heap.size W w3) := HB2.out.trans (hB3.mono HB2.out.size)
             clear HN2 HB2 hB3))
        go_ret
        exact ⟨rfl, HB3.out⟩

set_option maxRecDepth 100000 in
set_option maxHeartbeats 1600000 in
theorem tab_header (w : World) (lim tab dep val dots : Int) (ik : Bool) (a7 : Option Addr) (l7 c7 : Nat) (L : Nat → Lv) (a8 : Option Addr) (l8 c8 : Nat) (K : Nat → Int)
    (hp : Prior w w.heap.size a7 l7 L) (hk8 : Keys w w.heap.size a8 l8 K)
    (h7 : l7 ≤ 32768) (h8 : l8 ≤ 131072) (hs : 40 * l7 + 8 * l8 ≤ 1048576) :
    Calls Try.prog 4 #[.int .i64 lim, .int .i64 tab, .int .i64 dep, .int .i64 val, .int .i64 dots, .bool ik, .bool true, .slice a7 l7 c7, .slice a8 l8 c8] w
      (fun e w' => e = .returned (.bool true) ∧ Below w.heap.size w w') := by
  have HP : Hid (Prior w w.heap.size a7 l7 L) := hp
  have HK : Hid (Keys w w.heap.size a8 l8 K) := hk8
  have hs' : (40 : Int) * l7 + 8 * l8 ≤ 1048576 := by omega
  clear hp hk8
  cases ik
  all_goals
    go_enter Try.func4, Try.ntmps4
    go_wp2_with (first
      | (go_at_call 11
         refine (bytes11 lim tab dep val dots _ true a7 _ l7 c7 l8 c8 w (by unfold maxLen; omega) (by unfold maxLen; omega)).mono ?_
         rintro e W ⟨rfl, rfl⟩
         rw [decide_eq_true (show l7 + l8 ≤ 1048576 by omega)])
      | (go_at_call 6
         refine (build6 W lim tab dep val dots _ true a7 l7 c7 L HP.out h7).mono ?_
         rintro e w0 ⟨rfl, ⟨ao0, cap0, hN⟩, hB⟩
         have HN := Hid.intro hN
         have HB : Hid (Below W.heap.size W w0) := hB
         clear hN hB))
    go_loopw [21] (fun i wr => ∃ k : Nat, k ≤ l8 ∧ i = .int .i64 k ∧ wr = w0) (fun i _ => (131072 - intOf i).toNat)
    case atStart => exact ⟨0, Nat.zero_le _, rfl, rfl⟩
    case round =>
      obtain ⟨k, hk, rfl, rfl⟩ := hrel
      by_cases hlt : k < l8
      · rcases HK.out with h0 | ⟨kb, ko, rfl, hkb, hkc⟩
        · omega
        have ck : World.cell? _ ⟨kb, ko + k, none⟩ = some (.int .i64 (K k)) := (HB.out.cell (by exact hkb)).trans (hkc k hlt)
        clear hkc
        go_wp2_with (go_at_call 7
                     refine (enter7_header _ W.heap.size lim tab dep val dots _ ao0 l7 cap0 _ true (K k) HN.out).mono ?_
                     rintro e w1 ⟨rfl, rfl⟩)
        exact ⟨⟨k + 1, by omega, by go_num, trivial⟩, by simp [intOf]; omega⟩
      · have ek : k = l8 := by omega
        subst k
        go_wp2_with (first
          | (go_at_call 8
             refine (fields8 _ _ lim tab dep val dots _ true ao0 l7 cap0 _ HN.out).mono ?_
             rintro e w2 ⟨rfl, m, rfl⟩
             have HN2 := Hid.intro (HN.out.drewN m)
             have HB2 := Hid.intro (below_drewN HB.out m)
             clear HN HB
             generalize World.drewN _ m = w2 at *)
          | (go_at_call 9
             refine (prior9 w2 _ W.heap.size lim tab dep val dots _ true ao0 l7 cap0 L a7 l7 c7 L HN2.out (HP.out.below HB2.out) HB2.out.size (Nat.le_refl _) (fun _ _ => rfl) h7).mono ?_
             rintro e w3 ⟨rfl, hB3⟩
             have HB3 : Hid (Below W.heap.size W w3) := HB2.out.trans (hB3.mono HB2.out.size)
             clear HN2 HB2 hB3))
        go_ret
        exact ⟨rfl, HB3.out⟩

set_option maxRecDepth 100000 in
set_option maxHeartbeats 1600000 in
theorem tab_none (w : World) (lim tab dep val dots : Int) (ik : Bool) (a7 : Option Addr) (l7 c7 : Nat) (L : Nat → Lv) (a8 : Option Addr) (l8 c8 : Nat)
    (hp : Prior w w.heap.size a7 l7 L)
    (h7 : l7 ≤ 32768) (h8 : l8 ≤ 131072) (hs : 40 * l7 + 8 * l8 ≤ 1048576) (h0 : l8 = 0) :
    Calls Try.prog 4 #[.int .i64 lim, .int .i64 tab, .int .i64 dep, .int .i64 val, .int .i64 dots, .bool ik, .bool false, .slice a7 l7 c7, .slice a8 l8 c8] w
      (fun e w' => e = .returned (.bool true) ∧ Below w.heap.size w w') := by
  have HP : Hid (Prior w w.heap.size a7 l7 L) := hp
  have hs' : (40 : Int) * l7 + 8 * l8 ≤ 1048576 := by omega
  have h0' : (l8 : Int) ≤ 0 := by omega
  clear hp h0
  cases ik
  all_goals
    go_enter Try.func4, Try.ntmps4
    go_wp2_with (first
      | (go_at_call 11
         refine (bytes11 lim tab dep val dots _ false a7 _ l7 c7 l8 c8 w (by unfold maxLen; omega) (by unfold maxLen; omega)).mono ?_
         rintro e W ⟨rfl, rfl⟩
         rw [decide_eq_true (show l7 + l8 ≤ 1048576 by omega)])
      | (go_at_call 6
         refine (build6 W lim tab dep val dots _ false a7 l7 c7 L HP.out h7).mono ?_
         rintro e w0 ⟨rfl, ⟨ao0, cap0, hN⟩, hB⟩
         have HN := Hid.intro hN
         have HB : Hid (Below W.heap.size W w0) := hB
         clear hN hB))
    go_loopw [21] (fun i wr => ∃ k : Nat, k ≤ l8 ∧ i = .int .i64 k ∧ wr = w0) (fun i _ => (131072 - intOf i).toNat)
    case atStart => exact ⟨0, Nat.zero_le _, rfl, rfl⟩
    case round =>
      obtain ⟨k, hk, rfl, rfl⟩ := hrel
      by_cases hlt : k < l8
      · omega
      · have ek : k = l8 := by omega
        subst k
        go_wp2_with (first
          | (go_at_call 8
             refine (fields8 _ _ lim tab dep val dots _ false ao0 l7 cap0 _ HN.out).mono ?_
             rintro e w2 ⟨rfl, m, rfl⟩
             have HN2 := Hid.intro (HN.out.drewN m)
             have HB2 := Hid.intro (below_drewN HB.out m)
             clear HN HB
             generalize World.drewN _ m = w2 at *)
          | (go_at_call 9
             refine (prior9 w2 _ W.heap.size lim tab dep val dots _ false ao0 l7 cap0 L a7 l7 c7 L HN2.out (HP.out.below HB2.out) HB2.out.size (Nat.le_refl _) (fun _ _ => rfl) h7).mono ?_
             rintro e w3 ⟨rfl, hB3⟩
             have HB3 : Hid (Below W.heap.size W w3) := HB2.out.trans (hB3.mono HB2.out.size)
             clear HN2 HB2 hB3))
        go_ret
        exact ⟨rfl, HB3.out⟩

end Go.Proofs.Qxb6614148a
