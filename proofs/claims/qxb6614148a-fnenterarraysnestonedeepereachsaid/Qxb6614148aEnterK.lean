/-
  enter, in a key.
-/
import Derived.Test.Qxb6614148aEnter0
import Derived.Deep.RegionLaw
import Derived.BigRegion
namespace Go.Proofs.Qxb6614148a
open Go.ChangeShapes Go.WideShapes Go.ChangeAt Go.RowKit

set_option maxHeartbeats 3200000 in
theorem enter_k0 (w : World) (nb : Nat) (lim tab dep val dots : Int) (ao : Option Addr) (n cap : Nat) (xs : List Value) (tb : Bool) (key : Int)
    (h : Nest w nb lim tab dep val dots true false ao n cap xs) (hn : n ≤ 1048576) :
    Calls Try.prog 14 #[.pointer (some ⟨nb, 0, none⟩), .bool tb, .int .i64 key] w (fun e w' =>
      e = .returned (.bool (decide (lim < ent tb (wrap64 (wrap64 (dep + dots) + 1))))) ∧
      (∃ ao' cap', Nest w' nb lim tab (ent tb (wrap64 (wrap64 (dep + dots) + 1))) (ent tb (wrap64 (wrap64 (dep + dots) + 1))) 0 tb false ao' (n + 1) cap'
        (xs ++ Lv.cells ⟨dep, (wrap64 (wrap64 (dep + dots) + 1)), tb, key, !tb⟩)) ∧ Below nb w w') := by
  obtain ⟨i0, hi0, hz0, hz1, hz2⟩ := info_parts info42
  have c3 : w.cell? ⟨nb, 3, none⟩ = some (.int .i64 dep) := h.row.cell (i := 3) (by omega)
  have c4 : w.cell? ⟨nb, 4, none⟩ = some (.int .i64 val) := h.row.cell (i := 4) (by omega)
  have f4 := h.row.frozen 4
  have c5 : w.cell? ⟨nb, 5, none⟩ = some (.int .i64 dots) := h.row.cell (i := 5) (by omega)
  have c6 : w.cell? ⟨nb, 6, none⟩ = some (.bool true) := h.row.cell (i := 6) (by omega)
  have c7 : w.cell? ⟨nb, 7, none⟩ = some (.bool false) := h.row.cell (i := 7) (by omega)
  have H0 : Hid (Nest w nb lim tab dep val dots true false ao n cap xs) := h
  clear h
  go_enter Try.func14, Try.ntmps14
  go_wp2_with fail
  go_region_held3 (fun w' => w'.cell? ⟨nb,3,none⟩ = some (.int .i64 dep) ∧ w'.cell? ⟨nb,5,none⟩ = some (.int .i64 dots)) (first | (go_keep; done) | exact ⟨(far _ _ _ _ _ (by decide)).trans c3, (far _ _ _ _ _ (by decide)).trans c5⟩) (fail)
  rw [wrapEq, wrapEq]
  have N1 := (H0.out.val (wrap64 (wrap64 (dep + dots) + 1))).drew
  have B1 : Below nb w (w.setCell ⟨nb, 4, none⟩ (.int .i64 (wrap64 (wrap64 (dep + dots) + 1)))).drew := ((Below.refl nb w).setCell (Nat.le_refl _) _).drew
  clear H0 c3 c4 f4 c5 c6 c7
  generalize hx : wrap64 (wrap64 (dep + dots) + 1) = x at *
  generalize (w.setCell ⟨nb, 4, none⟩ (.int .i64 x)).drew = w1 at *
  have c1 : w1.cell? ⟨nb, 1, none⟩ = some (.slice ao n cap) := N1.row.cell (i := 1) (by omega)
  have f1 := N1.row.frozen 1
  have c3 : w1.cell? ⟨nb, 3, none⟩ = some (.int .i64 dep) := N1.row.cell (i := 3) (by omega)
  have c4 : w1.cell? ⟨nb, 4, none⟩ = some (.int .i64 x) := N1.row.cell (i := 4) (by omega)
  have hlt := N1.lt
  have ag : (Value.slice ao n cap).ownBlock ≠ some nb := N1.apart
  have H : Hid (Nest w1 nb lim tab dep x dots true false ao n cap xs) := N1
  have HB : Hid (Below nb w w1) := B1
  clear N1 B1
  go_wp2_with fail
  apply cut_tail
  · intro tail
    go_region_law
      ((refine step_append_lies _ (by rfl) _ _ _ (by rfl) (nb+1) 42 i0 _ 5 40 Try.underlying38 hi0 hz0 hz1 hz2 rfl (by omega) (.slice ao n cap) n xs (by rfl) ((H.out.own.alloc _).drew)
          ⟨w1.heap.size, 0, none⟩ 1 1 (Lv.cells ⟨dep, x, tb, key, !tb⟩) (by rfl) (by rfl) (World.news_of_block (cs := #[.int .i64 dep, .int .i64 x, .bool tb, .int .i64 key, .bool !tb]) (t := 42) (fr := (0, 0)) (heap_alloc_new w1 _)) (cells_one _)
          (by omega) (by unfold maxLen; omega) (by omega) (by simp; omega) (w1.heap.size + 1) (by simp) ?_; intro g cap' w2 hown hgrow hat hl2; have f1' := frozG hgrow hlt ag f1; have c1' := (farG (j := 1) hgrow hlt ag).trans c1))
    all_goals
      obtain ⟨N3, B3⟩ := nest_pushed' H.out hown hgrow
      clear hown hgrow f1' c1' hat hl2
      generalize w2.setCell ⟨nb, 1, none⟩ (.slice (some ⟨g, 0, none⟩) (n + 1) cap') = w3 at *
      revert w3 cap' g
      exact tail.out
  · clear H c1 f1 c3 c4 hlt ag
    intro g cap' w3 N3 B3
    have c0 : w3.cell? ⟨nb, 0, none⟩ = some (.int .i64 lim) := N3.row.cell (i := 0) (by omega)
    have c3 : w3.cell? ⟨nb, 3, none⟩ = some (.int .i64 dep) := N3.row.cell (i := 3) (by omega)
    have c4 : w3.cell? ⟨nb, 4, none⟩ = some (.int .i64 x) := N3.row.cell (i := 4) (by omega)
    have c5 : w3.cell? ⟨nb, 5, none⟩ = some (.int .i64 dots) := N3.row.cell (i := 5) (by omega)
    have c6 : w3.cell? ⟨nb, 6, none⟩ = some (.bool true) := N3.row.cell (i := 6) (by omega)
    have f3 := N3.row.frozen 3
    have f4 := N3.row.frozen 4
    have f5 := N3.row.frozen 5
    have f6 := N3.row.frozen 6
    have H3 : Hid (Nest w3 nb lim tab dep x dots true false (some ⟨g, 0, none⟩) (n + 1) cap' (xs ++ Lv.cells ⟨dep, x, tb, key, !tb⟩)) := N3
    have HB3 : Hid (Below nb w w3) := HB.out.trans B3
    clear N3 B3
    cases tb
    · go_wp2_with fail
      have N5 := ((((H3.out.dep x).dots 0).ik false).dep (wrap64 (x + 1))).val (wrap64 (x + 1))
      have B5 := (((((HB3.out.setCell (p := ⟨nb, 3, none⟩) (Nat.le_refl _) (.int .i64 x)).setCell (p := ⟨nb, 5, none⟩) (Nat.le_refl _) (.int .i64 0)).setCell (p := ⟨nb, 6, none⟩) (Nat.le_refl _) (.bool false)).setCell (p := ⟨nb, 3, none⟩) (Nat.le_refl _) (.int .i64 (wrap64 (x + 1)))).setCell (p := ⟨nb, 4, none⟩) (Nat.le_refl _) (.int .i64 (wrap64 (x + 1))))
      clear c0 c3 c4 c5 c6 f3 f4 f5 f6 H3 HB3
      generalize (((((w3.setCell ⟨nb, 3, none⟩ (.int .i64 x)).setCell ⟨nb, 5, none⟩ (.int .i64 0)).setCell ⟨nb, 6, none⟩ (.bool false)).setCell ⟨nb, 3, none⟩ (.int .i64 (wrap64 (x + 1)))).setCell ⟨nb, 4, none⟩ (.int .i64 (wrap64 (x + 1)))) = w5 at *
      have c0 : w5.cell? ⟨nb, 0, none⟩ = some (.int .i64 lim) := N5.row.cell (i := 0) (by omega)
      have c3 : w5.cell? ⟨nb, 3, none⟩ = some (.int .i64 (wrap64 (x + 1))) := N5.row.cell (i := 3) (by omega)
      have H5 : Hid (Nest w5 nb lim tab (wrap64 (x + 1)) (wrap64 (x + 1)) 0 false false (some ⟨g, 0, none⟩) (n + 1) cap' (xs ++ Lv.cells ⟨dep, x, false, key, true⟩)) := N5
      have HB5 : Hid (Below nb w w5) := B5
      clear N5 B5
      go_quiet (fail)
      go_wp2
      go_ret
      subst hx
      exact ⟨rfl, ⟨_, _, H5.out.drewN _⟩, below_drewN HB5.out _⟩
    · go_wp2_with fail
      have N5 := (((H3.out.dep x).dots 0).ik true)
      have B5 := (((HB3.out.setCell (p := ⟨nb, 3, none⟩) (Nat.le_refl _) (.int .i64 x)).setCell (p := ⟨nb, 5, none⟩) (Nat.le_refl _) (.int .i64 0)).setCell (p := ⟨nb, 6, none⟩) (Nat.le_refl _) (.bool true))
      clear c0 c3 c4 c5 c6 f3 f4 f5 f6 H3 HB3
      generalize (((w3.setCell ⟨nb, 3, none⟩ (.int .i64 x)).setCell ⟨nb, 5, none⟩ (.int .i64 0)).setCell ⟨nb, 6, none⟩ (.bool true)) = w5 at *
      have c0 : w5.cell? ⟨nb, 0, none⟩ = some (.int .i64 lim) := N5.row.cell (i := 0) (by omega)
      have c3 : w5.cell? ⟨nb, 3, none⟩ = some (.int .i64 x) := N5.row.cell (i := 3) (by omega)
      have H5 : Hid (Nest w5 nb lim tab x x 0 true false (some ⟨g, 0, none⟩) (n + 1) cap' (xs ++ Lv.cells ⟨dep, x, true, key, false⟩)) := N5
      have HB5 : Hid (Below nb w w5) := B5
      clear N5 B5
      go_quiet (fail)
      go_wp2
      go_ret
      subst hx
      exact ⟨rfl, ⟨_, _, H5.out.drewN _⟩, below_drewN HB5.out _⟩

end Go.Proofs.Qxb6614148a
