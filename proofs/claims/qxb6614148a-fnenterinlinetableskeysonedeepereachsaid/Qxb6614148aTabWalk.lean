/-
  The law of the inline tables, whole.
-/
import Derived.Test.Qxb6614148aTabK
import Derived.Test.Qxb6614148aStill
namespace Go.Proofs.Qxb6614148a
open Go.ChangeShapes Go.WideShapes Go.ChangeAt Go.RowKit

set_option maxRecDepth 100000 in
theorem tab_big (w : World) (lim tab dep val dots : Int) (ik hd : Bool) (a7 : Option Addr) (l7 c7 : Nat) (a8 : Option Addr) (l8 c8 : Nat)
    (m7 : l7 ≤ maxLen) (m8 : l8 ≤ maxLen) (h : ¬ (l7 ≤ 32768 ∧ l8 ≤ 131072 ∧ 40 * l7 + 8 * l8 ≤ 1048576)) :
    Calls Try.prog 4 #[.int .i64 lim, .int .i64 tab, .int .i64 dep, .int .i64 val, .int .i64 dots, .bool ik, .bool hd, .slice a7 l7 c7, .slice a8 l8 c8] w
      (fun e w' => e = .returned (.bool true) ∧ w' = w) := by
  by_cases hb : l7 + l8 ≤ 1048576
  · by_cases h1 : l7 ≤ 32768
    · have h1' : (l7 : Int) ≤ 32768 := by omega
      by_cases h2 : l8 ≤ 131072
      · have h2' : (l8 : Int) ≤ 131072 := by omega
        have h3' : (1048576 : Int) < 40 * l7 + 8 * l8 := by omega
        clear h
        go_enter Try.func4, Try.ntmps4
        go_wp2_with (go_at_call 11
                     refine (bytes11 lim tab dep val dots ik hd a7 a8 l7 c7 l8 c8 w m7 m8).mono ?_
                     rintro e W ⟨rfl, rfl⟩
                     rw [decide_eq_true hb])
        go_ret
        exact ⟨rfl, rfl⟩
      · have h2' : (131072 : Int) < l8 := by omega
        clear h
        go_enter Try.func4, Try.ntmps4
        go_wp2_with (go_at_call 11
                     refine (bytes11 lim tab dep val dots ik hd a7 a8 l7 c7 l8 c8 w m7 m8).mono ?_
                     rintro e W ⟨rfl, rfl⟩
                     rw [decide_eq_true hb])
        go_ret
        exact ⟨rfl, rfl⟩
    · have h1' : (32768 : Int) < l7 := by omega
      clear h
      go_enter Try.func4, Try.ntmps4
      go_wp2_with (go_at_call 11
                   refine (bytes11 lim tab dep val dots ik hd a7 a8 l7 c7 l8 c8 w m7 m8).mono ?_
                   rintro e W ⟨rfl, rfl⟩
                   rw [decide_eq_true hb])
      go_ret
      exact ⟨rfl, rfl⟩
  · clear h
    go_enter Try.func4, Try.ntmps4
    go_wp2_with (go_at_call 11
                 refine (bytes11 lim tab dep val dots ik hd a7 a8 l7 c7 l8 c8 w m7 m8).mono ?_
                 rintro e W ⟨rfl, rfl⟩
                 rw [decide_eq_false hb])
    go_ret
    exact ⟨rfl, rfl⟩

theorem tab_walk (w : World) (lim tab dep val dots : Int) (ik hd : Bool) (a7 : Option Addr) (l7 c7 : Nat) (L : Nat → Lv) (a8 : Option Addr) (l8 c8 : Nat) (K : Nat → Int)
    (m7 : l7 ≤ maxLen) (m8 : l8 ≤ maxLen) (hp : Prior w w.heap.size a7 l7 L) (hk : Keys w w.heap.size a8 l8 K) (hw : wrap64 val = val) :
    Calls Try.prog 4 #[.int .i64 lim, .int .i64 tab, .int .i64 dep, .int .i64 val, .int .i64 dots, .bool ik, .bool hd, .slice a7 l7 c7, .slice a8 l8 c8] w
      (fun e w' => e = .returned (.bool true) ∧ Below w.heap.size w w') := by
  by_cases h : l7 ≤ 32768 ∧ l8 ≤ 131072 ∧ 40 * l7 + 8 * l8 ≤ 1048576
  · obtain ⟨h7, h8, hs⟩ := h
    cases hd
    · rcases hk with h0 | ⟨kb, ko, rfl, hkb, hkc⟩
      · exact tab_none w lim tab dep val dots ik a7 l7 c7 L a8 l8 c8 hp h7 h8 hs h0
      · by_cases h0 : l8 = 0
        · exact tab_none w lim tab dep val dots ik a7 l7 c7 L _ l8 c8 hp h7 h8 hs h0
        · cases ik
          · exact tab_main_v w lim tab dep val dots a7 l7 c7 L kb ko l8 c8 K hp hkb hkc h7 h8 hs (by omega) hw
          · exact tab_main_k w lim tab dep val dots a7 l7 c7 L kb ko l8 c8 K hp hkb hkc h7 h8 hs (by omega)
    · exact tab_header w lim tab dep val dots ik a7 l7 c7 L a8 l8 c8 K hp hk h7 h8 hs
  · refine (tab_big w lim tab dep val dots ik hd a7 l7 c7 a8 l8 c8 m7 m8 h).mono ?_
    rintro e w' ⟨he, rfl⟩
    exact ⟨he, Below.refl _ _⟩

end Go.Proofs.Qxb6614148a
