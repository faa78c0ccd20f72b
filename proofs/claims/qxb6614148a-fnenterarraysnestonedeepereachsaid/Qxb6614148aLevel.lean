/-
  The readers: a level, the fields; and the wrapper of enter.
-/
import Derived.Test.Qxb6614148aEnterV
import Derived.Test.Qxb6614148aEnterK
namespace Go.Proofs.Qxb6614148a
open Go.ChangeShapes Go.WideShapes Go.ChangeAt Go.RowKit

theorem info42s : (Try.prog.info? 42).map (·.size) = some 5 := by kernel_rfl
theorem info35s : (Try.prog.info? 35).map (·.size) = some 5 := by kernel_rfl

theorem Nest.below {w w' : World} {nb : Nat} {lim tab dep val dots : Int} {ik hd : Bool} {ao : Option Addr} {n cap : Nat} {xs : List Value}
    (h : Nest w nb lim tab dep val dots ik hd ao n cap xs) (hb : Below w.heap.size w w') : Nest w' nb lim tab dep val dots ik hd ao n cap xs := by
  refine ⟨h.row.of_block (hb.block nb h.lt), h.own.1, ?_⟩
  rcases h.own.2 with e | ⟨g, cap1, cur, e, hg, hh, hr⟩
  · exact .inl e
  · refine .inr ⟨g, cap1, cur, e, hg, ?_, hr⟩
    rw [hb.block g ?_]
    · exact hh
    · rcases Nat.lt_or_ge g w.heap.size with h1 | h1
      · exact h1
      · rw [Array.getElem?_eq_none h1] at hh
        cases hh

/-- Where the levels lie. -/
theorem Nest.levels {w : World} {nb : Nat} {lim tab dep val dots : Int} {ik hd : Bool} {ao : Option Addr} {n cap : Nat} {N : Nat → Lv}
    (h : Nest w nb lim tab dep val dots ik hd ao n cap (flat N n)) {i : Nat} (hi : i < n) :
    ∃ g, ao = some ⟨g, 0, none⟩ ∧ w.rangeAt g (i * 5) (N i).cells := by
  rcases h.own.2 with ⟨e, e0⟩ | ⟨g, cap1, cur, e, hg, hh, hc, hm, hs, ht⟩
  · omega
  · injection e with e1 _ _
    refine ⟨g, e1, fun j v hv => ?_⟩
    have hj : j < 5 := by
      rcases Nat.lt_or_ge j 5 with h1 | h1
      · exact h1
      · rw [List.getElem?_eq_none (by show 5 ≤ j; exact h1)] at hv; cases hv
    rw [cell_of_row w g (i * 5 + j) cur 42 _ hh]
    have h1 := flat_get N hi hj
    rw [← ht, hv, List.getElem?_take] at h1
    rw [if_pos (by omega)] at h1
    simpa using h1

theorem level10 (w : World) (nb : Nat) (lim tab dep val dots : Int) (ik hd : Bool) (ao : Option Addr) (n cap : Nat) (N : Nat → Lv) (i : Nat)
    (h : Nest w nb lim tab dep val dots ik hd ao n cap (flat N n)) (hi : i < n) :
    Calls Try.prog 10 #[.pointer (some ⟨nb, 0, none⟩), .int .i64 i] w (fun e w' =>
      e = .returned (.tuple #[.int .i64 (N i).o, .int .i64 (N i).v, .bool (N i).t, .int .i64 (N i).k, .bool (N i).a]) ∧ Below w.heap.size w w') := by
  obtain ⟨g, rfl, hr⟩ := h.levels hi
  have c1 : w.cell? ⟨nb, 1, none⟩ = some (.slice (some ⟨g, 0, none⟩) n cap) := h.row.cell (i := 1) (by omega)
  have hii : (i : Int) < n := by omega
  have hi5 : Hid ((Try.prog.info? 42).map (·.size) = some (N i).cells.length) := info42s
  clear h
  go_enter Try.func10, Try.ntmps10
  go_wp2_with (refine wpList_load_mid rfl 42 _ rfl g (i * 5) rfl [.int .i64 (N i).o, .int .i64 (N i).v, .bool (N i).t, .int .i64 (N i).k, .bool (N i).a] _ hr Try.underlying42 rfl hi5.out ?_)
  have B1 : Below w.heap.size w (w.alloc (.cells #[.int .i64 (N i).o, .int .i64 (N i).v, .bool (N i).t, .int .i64 (N i).k, .bool (N i).a] 42)) := (Below.refl _ _).alloc (Nat.le_refl _) _
  have R1 : (w.alloc (.cells #[.int .i64 (N i).o, .int .i64 (N i).v, .bool (N i).t, .int .i64 (N i).k, .bool (N i).a] 42)).rowIs w.heap.size 42 5 (fun j => (N i).cells[j]?.getD undef) :=
    World.rowIs_alloc w _ 42 _ (fun j hj => by
      match j, hj with
      | 0, _ | 1, _ | 2, _ | 3, _ | 4, _ => rfl)
  generalize w.alloc (.cells #[.int .i64 (N i).o, .int .i64 (N i).v, .bool (N i).t, .int .i64 (N i).k, .bool (N i).a] 42) = w1 at *
  have d0 : w1.cell? ⟨w.heap.size, 0, none⟩ = some (.int .i64 (N i).o) := R1.cell (i := 0) (by omega)
  have d1 : w1.cell? ⟨w.heap.size, 1, none⟩ = some (.int .i64 (N i).v) := R1.cell (i := 1) (by omega)
  have d2 : w1.cell? ⟨w.heap.size, 2, none⟩ = some (.bool (N i).t) := R1.cell (i := 2) (by omega)
  have d3 : w1.cell? ⟨w.heap.size, 3, none⟩ = some (.int .i64 (N i).k) := R1.cell (i := 3) (by omega)
  have d4 : w1.cell? ⟨w.heap.size, 4, none⟩ = some (.bool (N i).a) := R1.cell (i := 4) (by omega)
  have HB : Hid (Below w.heap.size w w1) := B1
  clear R1 B1 hr c1
  go_quiet (fail)
  go_wp2
  exact bodyPost_ret (v := .tuple #[.int .i64 (N i).o, .int .i64 (N i).v, .bool (N i).t, .int .i64 (N i).k, .bool (N i).a]) (by simp [results, Try.results10, go_sem]) rfl ⟨rfl, below_drewN HB.out _⟩

set_option maxHeartbeats 1600000 in
theorem fields8 (w : World) (nb : Nat) (lim tab dep val dots : Int) (ik hd : Bool) (ao : Option Addr) (n cap : Nat) (xs : List Value)
    (h : Nest w nb lim tab dep val dots ik hd ao n cap xs) :
    Calls Try.prog 8 #[.pointer (some ⟨nb, 0, none⟩)] w (fun e w' =>
      e = .returned (.tuple #[.int .i64 lim, .int .i64 tab, .int .i64 dep, .int .i64 val, .int .i64 dots, .bool ik, .bool hd, .int .i64 n]) ∧ ∃ m, w' = w.drewN m) := by
  have c0 : w.cell? ⟨nb, 0, none⟩ = some (.int .i64 lim) := h.row.cell (i := 0) (by omega)
  have c1 : w.cell? ⟨nb, 1, none⟩ = some (.slice ao n cap) := h.row.cell (i := 1) (by omega)
  have c2 : w.cell? ⟨nb, 2, none⟩ = some (.int .i64 tab) := h.row.cell (i := 2) (by omega)
  have c3 : w.cell? ⟨nb, 3, none⟩ = some (.int .i64 dep) := h.row.cell (i := 3) (by omega)
  have c4 : w.cell? ⟨nb, 4, none⟩ = some (.int .i64 val) := h.row.cell (i := 4) (by omega)
  have c5 : w.cell? ⟨nb, 5, none⟩ = some (.int .i64 dots) := h.row.cell (i := 5) (by omega)
  have c6 : w.cell? ⟨nb, 6, none⟩ = some (.bool ik) := h.row.cell (i := 6) (by omega)
  have c7 : w.cell? ⟨nb, 7, none⟩ = some (.bool hd) := h.row.cell (i := 7) (by omega)
  clear h
  go_enter Try.func8, Try.ntmps8
  go_wp2_with fail
  go_quiet (fail)
  go_wp2
  exact bodyPost_ret (v := .tuple #[.int .i64 lim, .int .i64 tab, .int .i64 dep, .int .i64 val, .int .i64 dots, .bool ik, .bool hd, .int .i64 n]) (by simp [results, Try.results8, go_sem]) rfl ⟨rfl, _, rfl⟩

/-- enter, whatever the key's state (no header). -/
theorem enter14 (w : World) (nb : Nat) (lim tab dep val dots : Int) (ik : Bool) (ao : Option Addr) (n cap : Nat) (xs : List Value) (tb : Bool) (key : Int)
    (h : Nest w nb lim tab dep val dots ik false ao n cap xs) (hn : n ≤ 1048576) :
    Calls Try.prog 14 #[.pointer (some ⟨nb, 0, none⟩), .bool tb, .int .i64 key] w (fun e w' =>
      e = .returned (.bool (decide (lim < ent tb (nv dep val dots ik)))) ∧
      (∃ ao' cap', Nest w' nb lim tab (ent tb (nv dep val dots ik)) (ent tb (nv dep val dots ik)) 0 tb false ao' (n + 1) cap'
        (xs ++ Lv.cells ⟨dep, nv dep val dots ik, tb, key, !tb⟩)) ∧ Below nb w w') := by
  cases ik
  · exact enter_v w nb lim tab dep val dots ao n cap xs tb key h hn
  · exact enter_k0 w nb lim tab dep val dots ao n cap xs tb key h hn

theorem enter7 (w : World) (nb : Nat) (lim tab dep val dots : Int) (ik : Bool) (ao : Option Addr) (n cap : Nat) (xs : List Value) (tb : Bool) (key : Int)
    (h : Nest w nb lim tab dep val dots ik false ao n cap xs) (hn : n ≤ 1048576) :
    Calls Try.prog 7 #[.pointer (some ⟨nb, 0, none⟩), .bool tb, .int .i64 key] w (fun e w' =>
      e = .returned (.bool (decide (lim < ent tb (nv dep val dots ik)))) ∧
      (∃ ao' cap', Nest w' nb lim tab (ent tb (nv dep val dots ik)) (ent tb (nv dep val dots ik)) 0 tb false ao' (n + 1) cap'
        (xs ++ Lv.cells ⟨dep, nv dep val dots ik, tb, key, !tb⟩)) ∧ Below nb w w') := by
  have H' : Hid (Calls Try.prog 14 #[.pointer (some ⟨nb, 0, none⟩), .bool tb, .int .i64 key] w (fun e w' =>
      e = .returned (.bool (decide (lim < ent tb (nv dep val dots ik)))) ∧
      (∃ ao' cap', Nest w' nb lim tab (ent tb (nv dep val dots ik)) (ent tb (nv dep val dots ik)) 0 tb false ao' (n + 1) cap'
        (xs ++ Lv.cells ⟨dep, nv dep val dots ik, tb, key, !tb⟩)) ∧ Below nb w w')) := enter14 w nb lim tab dep val dots ik ao n cap xs tb key h hn
  clear h
  go_enter Try.func7, Try.ntmps7
  go_wp2_with (go_at_call 14; refine (H'.out).mono ?_; rintro e w' ⟨rfl, hN, hB⟩)
  go_ret
  exact ⟨rfl, hN, hB⟩

theorem enter7_header (w : World) (nb : Nat) (lim tab dep val dots : Int) (ik : Bool) (ao : Option Addr) (n cap : Nat) (xs : List Value) (tb : Bool) (key : Int)
    (h : Nest w nb lim tab dep val dots ik true ao n cap xs) :
    Calls Try.prog 7 #[.pointer (some ⟨nb, 0, none⟩), .bool tb, .int .i64 key] w (fun e w' => e = .returned (.bool false) ∧ w' = w) := by
  have H' : Hid (Calls Try.prog 14 #[.pointer (some ⟨nb, 0, none⟩), .bool tb, .int .i64 key] w (fun e w' => e = .returned (.bool false) ∧ w' = w)) := enter_header w nb lim tab dep val dots ik ao n cap xs tb key h
  clear h
  go_enter Try.func7, Try.ntmps7
  go_wp2_with (go_at_call 14; refine (H'.out).mono ?_; rintro e w' ⟨rfl, rfl⟩)
  go_ret
  exact ⟨rfl, rfl⟩
end Go.Proofs.Qxb6614148a
