/-
  enter: the walk of (*nesting).enter, four ways, and her wrapper.
-/
import Derived.Test.Qxb6614148aParts
namespace Go.Proofs.Qxb6614148a
open Go.ChangeShapes Go.WideShapes Go.ChangeAt Go.RowKit

theorem wrapEq (x : Int) : IntKind.i64.wrap x = wrap64 x := by rw [IntKind.wrap_i64, wrap64]

theorem enter_header (w : World) (nb : Nat) (lim tab dep val dots : Int) (ik : Bool) (ao : Option Addr) (n cap : Nat) (xs : List Value) (tb : Bool) (key : Int)
    (h : Nest w nb lim tab dep val dots ik true ao n cap xs) :
    Calls Try.prog 14 #[.pointer (some ⟨nb, 0, none⟩), .bool tb, .int .i64 key] w (fun e w' => e = .returned (.bool false) ∧ w' = w) := by
  have c7 : w.cell? ⟨nb, 7, none⟩ = some (.bool true) := h.row.cell (i := 7) (by omega)
  clear h
  go_enter Try.func14, Try.ntmps14
  go_wp2
  go_ret
  exact ⟨rfl, rfl⟩

/-- What the value's depth is when a level is entered. -/
def nv (dep val dots : Int) (ik : Bool) : Int := bif ik then wrap64 (wrap64 (dep + dots) + 1) else val

/-- What the depth is behind the entry: a table's keys stand at the value, an array's elements one deeper. -/
def ent (tb : Bool) (x : Int) : Int := bif tb then x else wrap64 (x + 1)

theorem far (w : World) (nb i j : Nat) (u : Value) (h : i ≠ j) : ((w.setCell ⟨nb, i, none⟩ u).drew).cell? ⟨nb, j, none⟩ = w.cell? ⟨nb, j, none⟩ := by
  show (w.setCell ⟨nb, i, none⟩ u).cell? _ = _
  exact World.cell?_setCell_other _ _ _ _ (by intro e; injection e with _ e2 _; exact h e2)

theorem near (w : World) (nb i j : Nat) (u : Value) (h : i ≠ j) : (w.setCell ⟨nb, i, none⟩ u).cell? ⟨nb, j, none⟩ = w.cell? ⟨nb, j, none⟩ :=
  World.cell?_setCell_other _ _ _ _ (by intro e; injection e with _ e2 _; exact h e2)

theorem set_val {w : World} {nb : Nat} {lim tab dep val dots : Int} {ik hd : Bool} {v : Value}
    (h : w.rowIs nb 40 8 (nst lim tab dep val dots ik hd v)) (x : Int) :
    (w.setCell ⟨nb, 4, none⟩ (.int .i64 x)).rowIs nb 40 8 (nst lim tab dep x dots ik hd v) :=
  (h.set 4 _).congr fun i hi => by
    match i, hi with
    | 0, _ | 1, _ | 2, _ | 3, _ | 4, _ | 5, _ | 6, _ | 7, _ => rfl
theorem set_dep {w : World} {nb : Nat} {lim tab dep val dots : Int} {ik hd : Bool} {v : Value}
    (h : w.rowIs nb 40 8 (nst lim tab dep val dots ik hd v)) (x : Int) :
    (w.setCell ⟨nb, 3, none⟩ (.int .i64 x)).rowIs nb 40 8 (nst lim tab x val dots ik hd v) :=
  (h.set 3 _).congr fun i hi => by
    match i, hi with
    | 0, _ | 1, _ | 2, _ | 3, _ | 4, _ | 5, _ | 6, _ | 7, _ => rfl
theorem set_dots {w : World} {nb : Nat} {lim tab dep val dots : Int} {ik hd : Bool} {v : Value}
    (h : w.rowIs nb 40 8 (nst lim tab dep val dots ik hd v)) (x : Int) :
    (w.setCell ⟨nb, 5, none⟩ (.int .i64 x)).rowIs nb 40 8 (nst lim tab dep val x ik hd v) :=
  (h.set 5 _).congr fun i hi => by
    match i, hi with
    | 0, _ | 1, _ | 2, _ | 3, _ | 4, _ | 5, _ | 6, _ | 7, _ => rfl
theorem set_ik {w : World} {nb : Nat} {lim tab dep val dots : Int} {ik hd : Bool} {v : Value}
    (h : w.rowIs nb 40 8 (nst lim tab dep val dots ik hd v)) (x : Bool) :
    (w.setCell ⟨nb, 6, none⟩ (.bool x)).rowIs nb 40 8 (nst lim tab dep val dots x hd v) :=
  (h.set 6 _).congr fun i hi => by
    match i, hi with
    | 0, _ | 1, _ | 2, _ | 3, _ | 4, _ | 5, _ | 6, _ | 7, _ => rfl

theorem Nest.val {w : World} {nb : Nat} {lim tab dep val dots : Int} {ik hd : Bool} {ao : Option Addr} {n cap : Nat} {xs : List Value}
    (h : Nest w nb lim tab dep val dots ik hd ao n cap xs) (x : Int) :
    Nest (w.setCell ⟨nb, 4, none⟩ (.int .i64 x)) nb lim tab dep x dots ik hd ao n cap xs :=
  ⟨set_val h.row x, ownsRow_setCell_below h.own (by show nb < nb + 1; omega) _⟩
theorem Nest.dep {w : World} {nb : Nat} {lim tab dep val dots : Int} {ik hd : Bool} {ao : Option Addr} {n cap : Nat} {xs : List Value}
    (h : Nest w nb lim tab dep val dots ik hd ao n cap xs) (x : Int) :
    Nest (w.setCell ⟨nb, 3, none⟩ (.int .i64 x)) nb lim tab x val dots ik hd ao n cap xs :=
  ⟨set_dep h.row x, ownsRow_setCell_below h.own (by show nb < nb + 1; omega) _⟩
theorem Nest.dots {w : World} {nb : Nat} {lim tab dep val dots : Int} {ik hd : Bool} {ao : Option Addr} {n cap : Nat} {xs : List Value}
    (h : Nest w nb lim tab dep val dots ik hd ao n cap xs) (x : Int) :
    Nest (w.setCell ⟨nb, 5, none⟩ (.int .i64 x)) nb lim tab dep val x ik hd ao n cap xs :=
  ⟨set_dots h.row x, ownsRow_setCell_below h.own (by show nb < nb + 1; omega) _⟩
theorem Nest.ik {w : World} {nb : Nat} {lim tab dep val dots : Int} {ik hd : Bool} {ao : Option Addr} {n cap : Nat} {xs : List Value}
    (h : Nest w nb lim tab dep val dots ik hd ao n cap xs) (x : Bool) :
    Nest (w.setCell ⟨nb, 6, none⟩ (.bool x)) nb lim tab dep val dots x hd ao n cap xs :=
  ⟨set_ik h.row x, ownsRow_setCell_below h.own (by show nb < nb + 1; omega) _⟩
theorem Nest.drew {w : World} {nb : Nat} {lim tab dep val dots : Int} {ik hd : Bool} {ao : Option Addr} {n cap : Nat} {xs : List Value}
    (h : Nest w nb lim tab dep val dots ik hd ao n cap xs) : Nest w.drew nb lim tab dep val dots ik hd ao n cap xs := ⟨h.row.drew, h.own.drew⟩

theorem Nest.drewN {w : World} {nb : Nat} {lim tab dep val dots : Int} {ik hd : Bool} {ao : Option Addr} {n cap : Nat} {xs : List Value}
    (h : Nest w nb lim tab dep val dots ik hd ao n cap xs) (m : Nat) : Nest (w.drewN m) nb lim tab dep val dots ik hd ao n cap xs := ⟨h.row.of_block rfl, h.own⟩

/-- What is left is shown once; how it reads is found on the way. -/
theorem cut_tail {T G : Prop} (k : Hid T → G) (p : T) : G := k p

theorem Nest.apart {w : World} {nb : Nat} {lim tab dep val dots : Int} {ik hd : Bool} {ao : Option Addr} {n cap : Nat} {xs : List Value}
    (h : Nest w nb lim tab dep val dots ik hd ao n cap xs) : (Value.slice ao n cap).ownBlock ≠ some nb := by
  intro hk
  rcases h.own.2 with ⟨e, _⟩ | ⟨g', cap1, cur, e, hg, _⟩
  · rw [e] at hk; simp [Value.ownBlock] at hk
  · rw [e] at hk
    simp [Value.ownBlock] at hk
    omega

theorem farG {w w2 : World} {o : Obj} {row : Option Nat} {nb j : Nat} (hg : ((w.alloc o).drew).grownBy w2 row) (hlt : nb < w.heap.size) (ag : row ≠ some nb) :
    w2.cell? ⟨nb, j, none⟩ = w.cell? ⟨nb, j, none⟩ :=
  (hg.cell_far ⟨nb, j, none⟩ (by show nb < (w.alloc o).heap.size; simp; omega) (Ne.symm ag)).trans (World.cell?_of_block (w := w) (Below.heap_alloc w o nb hlt))
theorem frozG {w w2 : World} {o : Obj} {row : Option Nat} {nb j : Nat} (hg : ((w.alloc o).drew).grownBy w2 row) (hlt : nb < w.heap.size) (ag : row ≠ some nb)
    (f : w.frozen? ⟨nb, j, none⟩ = false) : w2.frozen? ⟨nb, j, none⟩ = false :=
  ((hg.frozen_far ⟨nb, j, none⟩ (by show nb < (w.alloc o).heap.size; simp; omega) (Ne.symm ag)).trans (World.frozen?_of_block (w := w) (Below.heap_alloc w o nb hlt))).trans f

theorem nest_pushed' {w w1 : World} {o : Obj} {nb g : Nat} {lim tab dep val dots : Int} {ik hd : Bool} {ao : Option Addr} {n cap cap' : Nat} {xs news : List Value}
    (h : Nest w nb lim tab dep val dots ik hd ao n cap xs)
    (hown : w1.ownsRow (nb + 1) 42 5 (.slice (some ⟨g, 0, none⟩) (n + 1) cap') (n + 1) (xs ++ news))
    (hgrow : ((w.alloc o).drew).grownBy w1 (Value.slice ao n cap).ownBlock) :
    Nest (w1.setCell ⟨nb, 1, none⟩ (.slice (some ⟨g, 0, none⟩) (n + 1) cap')) nb lim tab dep val dots ik hd (some ⟨g, 0, none⟩) (n + 1) cap' (xs ++ news) ∧
    Below nb w (w1.setCell ⟨nb, 1, none⟩ (.slice (some ⟨g, 0, none⟩) (n + 1) cap')) :=
  have hg : (w.alloc o).grownBy w1 (Value.slice ao n cap).ownBlock := ⟨hgrow.1, hgrow.2, hgrow.3, hgrow.4, hgrow.5⟩
  (nest_pushed h hown hg).2

end Go.Proofs.Qxb6614148a
