/-
  buildNesting, priorKept, and the two size tests.
-/
import Derived.Test.Qxb6614148aLevel
namespace Go.Proofs.Qxb6614148a
open Go.ChangeShapes Go.WideShapes Go.ChangeAt Go.RowKit

/-- The prior levels, as they came in. -/
def Prior (w : World) (B : Nat) (a : Option Addr) (len : Nat) (L : Nat → Lv) : Prop :=
  len = 0 ∨ ∃ b off, a = some ⟨b, off, none⟩ ∧ b < B ∧ ∀ i, i < len → w.rangeAt b (off + i * 5) (L i).cells

theorem Prior.below {w w' : World} {B : Nat} {a : Option Addr} {len : Nat} {L : Nat → Lv} (h : Prior w B a len L) (hb : Below B w w') : Prior w' B a len L := by
  rcases h with h | ⟨b, off, e, hB, hr⟩
  · exact .inl h
  · exact .inr ⟨b, off, e, hB, fun i hi j v hv => (hb.cell (by exact hB)).trans (hr i hi j v hv)⟩

theorem build6 (w : World) (lim tab dep val dots : Int) (ik hd : Bool) (a : Option Addr) (len cap : Nat) (L : Nat → Lv)
    (hp : Prior w w.heap.size a len L) (hn : len ≤ 32768) :
    Calls Try.prog 6 #[.int .i64 lim, .int .i64 tab, .int .i64 dep, .int .i64 val, .int .i64 dots, .bool ik, .bool hd, .slice a len cap] w (fun e w' =>
      e = .returned (.pointer (some ⟨w.heap.size, 0, none⟩)) ∧ (∃ ao' cap', Nest w' w.heap.size lim tab dep val dots ik hd ao' len cap' (flat L len)) ∧ Below w.heap.size w w') := by
  have HP : Hid (Prior w w.heap.size a len L) := hp
  clear hp
  go_enter Try.func6, Try.ntmps6
  go_wp2_with (go_at_call 12; refine (new12 w lim tab dep val dots ik hd).mono ?_; rintro e w0 ⟨rfl, hN, hB⟩; have HN : Hid (Nest w0 w.heap.size lim tab dep val dots ik hd none 0 0 []) := hN; have HB : Hid (Below w.heap.size w w0) := hB; clear hN hB)
  go_loopw [18] (fun i wr => ∃ k : Nat, k ≤ len ∧ i = .int .i64 k ∧ (∃ ao' cap', Nest wr w.heap.size lim tab dep val dots ik hd ao' k cap' (flat L k)) ∧ Below w.heap.size w wr) (fun i _ => (131072 - intOf i).toNat)
  case atStart => exact ⟨0, Nat.zero_le _, rfl, ⟨_, _, HN.out⟩, HB.out⟩
  case round =>
    clear HN HB
    obtain ⟨k, hk, rfl, ⟨ao', cap', hN⟩, hB⟩ := hrel
    have HN : Hid (Nest wr w.heap.size lim tab dep val dots ik hd ao' k cap' (flat L k)) := hN
    have HB : Hid (Below w.heap.size w wr) := hB
    clear hN hB
    by_cases hlt : k < len
    · have hP := (HP.out.below HB.out)
      rcases hP with h0 | ⟨b, off, rfl, hb, hr⟩
      · omega
      have hr' : wr.rangeAt b (off + k * 5) [.int .i64 (L k).o, .int .i64 (L k).v, .bool (L k).t, .int .i64 (L k).k, .bool (L k).a] := hr k hlt
      have hi5 : Hid ((Try.prog.info? 35).map (·.size) = some (L k).cells.length) := info35s
      clear hr
      go_wp2_with (first
        | (refine wpList_load_mid rfl 35 _ rfl b (off + k * 5) rfl [.int .i64 (L k).o, .int .i64 (L k).v, .bool (L k).t, .int .i64 (L k).k, .bool (L k).a] _ hr' Try.underlying35 rfl hi5.out ?_)
        | (go_at_call 13
           refine (push13 _ w.heap.size lim tab dep val dots ik hd ao' k cap' (flat L k) (L k) (HN.out.below ((Below.refl _ _).alloc (Nat.le_refl _) _)) (by omega)).mono ?_
           rintro e w1 ⟨rfl, ⟨ao1, cap1, hN1⟩, hB1⟩
           have HN1 : Hid (Nest w1 w.heap.size lim tab dep val dots ik hd ao1 (k + 1) cap1 (flat L (k + 1))) := hN1
           have HB1 : Hid (Below w.heap.size w w1) := (HB.out.alloc HB.out.size _).trans hB1
           clear hN1 hB1))
      go_roundw
      case rel => exact ⟨k + 1, by omega, by go_num, ⟨_, _, HN1.out⟩, HB1.out⟩
      case measure => simp [intOf]; omega
    · obtain rfl : k = len := by omega
      go_wp2
      go_ret
      exact ⟨rfl, ⟨_, _, HN.out⟩, HB.out⟩

theorem prior9 (w : World) (nb B : Nat) (lim tab dep val dots : Int) (ik hd : Bool) (ao : Option Addr) (n cn : Nat) (N : Nat → Lv) (a : Option Addr) (len cap : Nat) (L : Nat → Lv)
    (hN : Nest w nb lim tab dep val dots ik hd ao n cn (flat N n)) (hp : Prior w B a len L) (hB : B ≤ w.heap.size) (hl : len ≤ n) (he : ∀ j, j < len → N j = L j) (hn : len ≤ 32768) :
    Calls Try.prog 9 #[.pointer (some ⟨nb, 0, none⟩), .slice a len cap] w (fun e w' => e = .returned (.bool true) ∧ Below w.heap.size w w') := by
  have HP : Hid (Prior w B a len L) := hp
  have HN : Hid (Nest w nb lim tab dep val dots ik hd ao n cn (flat N n)) := hN
  have HE : Hid (∀ j, j < len → N j = L j) := he
  clear hp hN he
  go_enter Try.func9, Try.ntmps9
  go_wp2_with fail
  go_loopw [5] (fun i wr => ∃ k : Nat, k ≤ len ∧ i = .int .i64 k ∧ Below w.heap.size w wr) (fun i _ => (131072 - intOf i).toNat)
  case atStart => exact ⟨0, Nat.zero_le _, rfl, Below.refl _ _⟩
  case round =>
    obtain ⟨k, hk, rfl, hb0⟩ := hrel
    have HB : Hid (Below w.heap.size w wr) := hb0
    clear hb0
    by_cases hlt : k < len
    · have hP := (HP.out.below (HB.out.mono hB))
      rcases hP with h0 | ⟨b, off, rfl, hb, hr⟩
      · omega
      have hi5 : Hid ((Try.prog.info? 35).map (·.size) = some (L k).cells.length) := info35s
      have hr0 : Hid (wr.rangeAt b (off + k * 5) (L k).cells) := hr k hlt
      clear hr
      go_wp2_with (first
        | (refine wpList_load_mid rfl 35 _ rfl b (off + k * 5) rfl [.int .i64 (L k).o, .int .i64 (L k).v, .bool (L k).t, .int .i64 (L k).k, .bool (L k).a] _ hr1.out Try.underlying35 rfl hi5.out ?_)
        | (go_at_call 10
           refine (level10 wr nb lim tab dep val dots ik hd ao n cn N k (HN.out.below HB.out) (by omega)).mono ?_
           rintro e w1 ⟨rfl, hB1⟩
           rw [HE.out k hlt]
           have HB1 : Hid (Below w.heap.size w w1) := HB.out.trans (hB1.mono HB.out.size)
           have hr1 : Hid (w1.rangeAt b (off + k * 5) (L k).cells) := fun j v hv => (hB1.cell (by have := HB.out.size; show b < _; omega)).trans (hr0.out j v hv)
           clear hB1))
      go_roundw
      case rel => exact ⟨k + 1, by omega, by go_num, (HB1.out.alloc HB1.out.size _)⟩
      case measure => simp [intOf]; omega
    · obtain rfl : k = len := by omega
      go_wp2
      go_ret
      exact ⟨rfl, HB.out⟩

theorem bytes5 (lim tab dep val dots : Int) (ik hd : Bool) (a a' : Option Addr) (l c l' c' : Nat) (w : World) (h : l ≤ maxLen) (h' : l' ≤ maxLen) :
    Calls Try.prog 5 #[.int .i64 lim, .int .i64 tab, .int .i64 dep, .int .i64 val, .int .i64 dots, .bool ik, .bool hd, .slice a l c, .slice a' l' c'] w (fun e w' =>
      e = .returned (.bool (decide (l + l' ≤ 1048576))) ∧ w' = w) := by
  unfold maxLen at h h'
  by_cases h1 : l ≤ 1048576
  · by_cases h2 : l' ≤ 1048576
    · by_cases h3 : l + l' ≤ 1048576
      · go_enter Try.func5, Try.ntmps5
        go_wp2
        go_ret
        exact ⟨by rw [decide_eq_true h3]; rfl, rfl⟩
      · go_enter Try.func5, Try.ntmps5
        go_wp2
        go_ret
        exact ⟨by rw [decide_eq_false h3]; rfl, rfl⟩
    · have h2' : (1048576 : Int) < l' := by omega
      go_enter Try.func5, Try.ntmps5
      go_wp2
      go_ret
      exact ⟨by rw [decide_eq_false (show ¬ (l + l' ≤ 1048576) by omega)]; rfl, rfl⟩
  · have h1' : (1048576 : Int) < l := by omega
    go_enter Try.func5, Try.ntmps5
    go_wp2
    go_ret
    exact ⟨by rw [decide_eq_false (show ¬ (l + l' ≤ 1048576) by omega)]; rfl, rfl⟩

theorem bytes11 (lim tab dep val dots : Int) (ik hd : Bool) (a a' : Option Addr) (l c l' c' : Nat) (w : World) (h : l ≤ maxLen) (h' : l' ≤ maxLen) :
    Calls Try.prog 11 #[.int .i64 lim, .int .i64 tab, .int .i64 dep, .int .i64 val, .int .i64 dots, .bool ik, .bool hd, .slice a l c, .slice a' l' c'] w (fun e w' =>
      e = .returned (.bool (decide (l + l' ≤ 1048576))) ∧ w' = w) := by
  unfold maxLen at h h'
  by_cases h1 : l ≤ 1048576
  · by_cases h2 : l' ≤ 1048576
    · by_cases h3 : l + l' ≤ 1048576
      · go_enter Try.func11, Try.ntmps11
        go_wp2
        go_ret
        exact ⟨by rw [decide_eq_true h3]; rfl, rfl⟩
      · go_enter Try.func11, Try.ntmps11
        go_wp2
        go_ret
        exact ⟨by rw [decide_eq_false h3]; rfl, rfl⟩
    · have h2' : (1048576 : Int) < l' := by omega
      go_enter Try.func11, Try.ntmps11
      go_wp2
      go_ret
      exact ⟨by rw [decide_eq_false (show ¬ (l + l' ≤ 1048576) by omega)]; rfl, rfl⟩
  · have h1' : (1048576 : Int) < l := by omega
    go_enter Try.func11, Try.ntmps11
    go_wp2
    go_ret
    exact ⟨by rw [decide_eq_false (show ¬ (l + l' ≤ 1048576) by omega)]; rfl, rfl⟩

end Go.Proofs.Qxb6614148a
