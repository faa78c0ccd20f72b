/-
  The law of the inline tables, outside a key.
-/
import Derived.Test.Qxb6614148aRun
namespace Go.Proofs.Qxb6614148a
open Go.ChangeShapes Go.WideShapes Go.ChangeAt Go.RowKit

theorem tab_dp (v0 : Int) (k : Nat) (x : Int) : dp true v0 (k + 1) x = wrap64 (v0 + (k : Int)) := by
  unfold dp
  rw [if_neg (by omega)]
  congr 1
  simp

theorem tab_dp' (v0 : Int) (k : Nat) (x : Int) (h : 0 < k) : dp true v0 k x = wrap64 (v0 + ((k : Int) - 1)) := by
  unfold dp
  rw [if_neg (by omega)]
  simp

theorem wrap_wrap (x : Int) : wrap64 (wrap64 x) = wrap64 x := by
  simp only [wrap64]; omega

set_option maxRecDepth 100000 in
set_option maxHeartbeats 1600000 in
theorem tab_main_v (w : World) (lim tab dep val dots : Int) (a7 : Option Addr) (l7 c7 : Nat) (L : Nat → Lv) (kb ko l8 c8 : Nat) (K : Nat → Int)
    (hp : Prior w w.heap.size a7 l7 L) (hkb : kb < w.heap.size) (hkc : ∀ i, i < l8 → w.cell? ⟨kb, ko + i, none⟩ = some (.int .i64 (K i)))
    (h7 : l7 ≤ 32768) (h8 : l8 ≤ 131072) (hs : 40 * l7 + 8 * l8 ≤ 1048576) (hpos : 0 < l8) (hw : wrap64 val = val) :
    Calls Try.prog 4 #[.int .i64 lim, .int .i64 tab, .int .i64 dep, .int .i64 val, .int .i64 dots, .bool false, .bool false, .slice a7 l7 c7, .slice (some ⟨kb, ko, none⟩) l8 c8] w
      (fun e w' => e = .returned (.bool true) ∧ Below w.heap.size w w') := by
  have HP : Hid (Prior w w.heap.size a7 l7 L) := hp
  have HK : Hid (∀ i, i < l8 → w.cell? ⟨kb, ko + i, none⟩ = some (.int .i64 (K i))) := hkc
  have hs' : (40 : Int) * l7 + 8 * l8 ≤ 1048576 := by omega
  have HW : Hid (wrap64 val = val) := hw
  clear hp hkc hw
  go_enter Try.func4, Try.ntmps4
  go_wp2_with (first
    | (go_at_call 11
       refine (bytes11 lim tab dep val dots false false a7 _ l7 c7 l8 c8 w (by unfold maxLen; omega) (by unfold maxLen; omega)).mono ?_
       rintro e W ⟨rfl, rfl⟩
       rw [decide_eq_true (show l7 + l8 ≤ 1048576 by omega)])
    | (go_at_call 6
       refine (build6 W lim tab dep val dots false false a7 l7 c7 L HP.out h7).mono ?_
       rintro e w0 ⟨rfl, ⟨ao0, cap0, hN⟩, hB⟩
       have HR : Hid (Run w0 W.heap.size lim tab dep val dots false true l7 L K val 0) := Run.start hN
       have HB : Hid (Below W.heap.size W w0) := hB
       clear hN hB))
  go_loopw [21] (fun i wr => ∃ k : Nat, k ≤ l8 ∧ i = .int .i64 k ∧ Run wr W.heap.size lim tab dep val dots false true l7 L K val k ∧ Below W.heap.size W wr) (fun i _ => (131072 - intOf i).toNat)
  case atStart => exact ⟨0, Nat.zero_le _, rfl, HR.out, HB.out⟩
  case round =>
    clear HR HB
    obtain ⟨k, hk, rfl, hR, hB⟩ := hrel
    have HR : Hid (Run wr W.heap.size lim tab dep val dots false true l7 L K val k) := hR
    have HB : Hid (Below W.heap.size W wr) := hB
    clear hR hB
    by_cases hlt : k < l8
    · have ck : wr.cell? ⟨kb, ko + k, none⟩ = some (.int .i64 (K k)) := (HB.out.cell (by exact hkb)).trans (HK.out k hlt)
      go_wp2_with (first
        | (go_at_call 7
           refine (HR.out.step rfl HW.out (by omega)).mono ?_
           rintro e w1 ⟨rfl, hR1, hB1⟩
           have HR1 : Hid (Run w1 W.heap.size lim tab dep val dots false true l7 L K val (k + 1)) := hR1
           have HB1 : Hid (Below W.heap.size W w1) := HB.out.trans hB1
           clear hR1 hB1
           rw [tab_dp]))
      exact ⟨⟨k + 1, by omega, by go_num, HR1.out, HB1.out⟩, by simp [intOf]; omega⟩
    · have ek : k = l8 := by omega
      subst k
      go_wp2_with (first
        | (go_at_call 8
           refine (HR.out.fields).mono ?_
           rintro e w2 ⟨rfl, m, rfl⟩
           have HR2 : Hid (Run (wr.drewN m) W.heap.size lim tab dep val dots false true l7 L K val l8) := HR.out.below (below_drewN (Below.refl _ _) m)
           have HB2 : Hid (Below W.heap.size W (wr.drewN m)) := below_drewN HB.out m
           clear HR HB
           rw [tab_dp' val l8 dep hpos, tab_dp' val l8 val hpos, show dt l8 dots = 0 from if_neg (by omega), show kf true l8 false = true from if_neg (by omega), show ((l7 + l8 : Nat) : Int) = (l7 : Int) + l8 from by omega]
           generalize wr.drewN m = w2 at *)
        | (go_at_call 9
           refine (HR2.out.prior (cap := c7) (HP.out.below HB2.out) HB2.out.size h7).mono ?_
           rintro e w3 ⟨rfl, hB3⟩
           have HR3 : Hid (Run w3 W.heap.size lim tab dep val dots false true l7 L K val l8) := HR2.out.below hB3
           have HB3 : Hid (Below W.heap.size W w3) := HB2.out.trans (hB3.mono HB2.out.size)
           clear HR2 HB2 hB3))
      go_loopw [33] (fun i wr => ∃ k : Nat, k ≤ l8 ∧ i = .int .i64 k ∧ Run wr W.heap.size lim tab dep val dots false true l7 L K val l8 ∧ Below W.heap.size W wr) (fun i _ => (131072 - intOf i).toNat)
      case atStart => exact ⟨0, Nat.zero_le _, rfl, HR3.out, HB3.out⟩
      case round =>
        clear HR3 HB3
        obtain ⟨j, hj, rfl, hR, hB⟩ := hrel
        have HR : Hid (Run wr W.heap.size lim tab dep val dots false true l7 L K val l8) := hR
        have HB : Hid (Below W.heap.size W wr) := hB
        clear hR hB
        by_cases hlt : j < l8
        · by_cases hj0 : j = 0
          · have hj1 : (j : Int) ≤ 0 := by omega
            clear hj0
            go_wp2_with (go_at_call 10
                         refine (HR.out.level hlt).mono ?_
                         rintro e w1 ⟨rfl, hB1⟩
                         have HR1 : Hid (Run w1 W.heap.size lim tab dep val dots false true l7 L K val l8) := HR.out.below hB1
                         have HB1 : Hid (Below W.heap.size W w1) := HB.out.trans (hB1.mono HB.out.size)
                         have ck : w1.cell? ⟨kb, ko + j, none⟩ = some (.int .i64 (K j)) := (HB1.out.cell (by exact hkb)).trans (HK.out j hlt)
                         clear hB1
                         rw [show dp true val j dep = dep from if_pos (by omega)])
            exact ⟨⟨j + 1, by omega, by go_num, HR1.out, HB1.out⟩, by simp [intOf]; omega⟩
          · have hj1 : (0 : Int) < j := by omega
            have hj2 : 0 < j := by omega
            clear hj0
            go_wp2_with (go_at_call 10
                         refine (HR.out.level hlt).mono ?_
                         rintro e w1 ⟨rfl, hB1⟩
                         have HR1 : Hid (Run w1 W.heap.size lim tab dep val dots false true l7 L K val l8) := HR.out.below hB1
                         have HB1 : Hid (Below W.heap.size W w1) := HB.out.trans (hB1.mono HB.out.size)
                         have ck : w1.cell? ⟨kb, ko + j, none⟩ = some (.int .i64 (K j)) := (HB1.out.cell (by exact hkb)).trans (HK.out j hlt)
                         clear hB1
                         rw [tab_dp' val j dep hj2])
            exact ⟨⟨j + 1, by omega, by go_num, HR1.out, HB1.out⟩, by simp [intOf]; omega⟩
        · have ek : j = l8 := by omega
          subst j
          go_wp2
          go_ret
          exact ⟨rfl, HB.out⟩

end Go.Proofs.Qxb6614148a
