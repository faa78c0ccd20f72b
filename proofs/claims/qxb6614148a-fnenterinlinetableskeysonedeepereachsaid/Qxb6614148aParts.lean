/-
  Parts of the nesting's roads: the shape of a nesting in the world, and the contracts of its maker and of the push.
-/
import Derived.Test.Qxb6614148aRows
import Derived.WalkKit
import Derived.ProofKit
import Derived.OpenShut
import Derived.ShutString
import Derived.ChangeOld
import Derived.Below
import Derived.Deep.OwnRows
import Derived.Deep.MidRow
import Derived.Deep.AppendLies
import Derived.Deep.RegionHeld3
import Derived.Deep.QuietTactic
import Derived.BigQuiet
import Derived.WalkSmall
namespace Go.Proofs.Qxb6614148a
open Go.ChangeShapes Go.WideShapes Go.ChangeAt Go.RowKit

theorem info42 : (Try.prog.info? 42).map (fun i => (i.zero, i.size, i.bytes)) = some (some (.agg #[.int .i64 0, .int .i64 0, .bool false, .int .i64 0, .bool false]), 5, 40) := by kernel_rfl

/-- One level of a nesting. -/
structure Lv where
  o : Int
  v : Int
  t : Bool
  k : Int
  a : Bool

def Lv.cells (l : Lv) : List Value := [.int .i64 l.o, .int .i64 l.v, .bool l.t, .int .i64 l.k, .bool l.a]

def flat (N : Nat → Lv) : Nat → List Value
  | 0 => []
  | n + 1 => flat N n ++ (N n).cells

theorem flat_len (N : Nat → Lv) (n : Nat) : (flat N n).length = n * 5 := by
  induction n with
  | zero => rfl
  | succ n ih => simp [flat, ih, Lv.cells, Nat.succ_mul]

theorem flat_get (N : Nat → Lv) {n i j : Nat} (hi : i < n) (hj : j < 5) : (flat N n)[i * 5 + j]? = (N i).cells[j]? := by
  induction n with
  | zero => omega
  | succ n ih =>
    by_cases h : i < n
    · rw [flat, List.getElem?_append_left (by rw [flat_len]; omega)]
      exact ih h
    · have e : i = n := by omega
      subst e
      rw [flat, List.getElem?_append_right (by rw [flat_len]; omega), flat_len]
      congr 1
      omega

theorem cells_one (l : Lv) : ∀ v ∈ l.cells, v.oneCell' = true := by
  intro v hv
  simp only [Lv.cells, List.mem_cons, List.not_mem_nil, or_false] at hv
  rcases hv with rfl | rfl | rfl | rfl | rfl <;> rfl

def nst (lim tab dep val dots : Int) (ik hd : Bool) (v : Value) : Nat → Value
  | 0 => .int .i64 lim
  | 1 => v
  | 2 => .int .i64 tab
  | 3 => .int .i64 dep
  | 4 => .int .i64 val
  | 5 => .int .i64 dots
  | 6 => .bool ik
  | _ => .bool hd

structure Nest (w : World) (nb : Nat) (lim tab dep val dots : Int) (ik hd : Bool) (ao : Option Addr) (n cap : Nat) (xs : List Value) : Prop where
  row : w.rowIs nb 40 8 (nst lim tab dep val dots ik hd (.slice ao n cap))
  own : w.ownsRow (nb + 1) 42 5 (.slice ao n cap) n xs

theorem Nest.lt {w : World} {nb : Nat} {lim tab dep val dots : Int} {ik hd : Bool} {ao : Option Addr} {n cap : Nat} {xs : List Value}
    (h : Nest w nb lim tab dep val dots ik hd ao n cap xs) : nb < w.heap.size := h.row.lt

theorem new12 (w : World) (lim tab dep val dots : Int) (ik hd : Bool) :
    Calls Try.prog 12 #[.int .i64 lim, .int .i64 tab, .int .i64 dep, .int .i64 val, .int .i64 dots, .bool ik, .bool hd] w (fun e w' =>
      e = .returned (.pointer (some ⟨w.heap.size, 0, none⟩)) ∧ Nest w' w.heap.size lim tab dep val dots ik hd none 0 0 [] ∧ Below w.heap.size w w') := by
  go_enter Try.func12, Try.ntmps12
  go_wp2
  go_ret
  refine ⟨rfl, ⟨World.rowIs_alloc w _ 40 _ ?_, World.ownsRow_nil _ _ _ _⟩, (Below.refl _ _).alloc (Nat.le_refl _) _⟩
  intro i hi
  match i, hi with
  | 0, _ | 1, _ | 2, _ | 3, _ | 4, _ | 5, _ | 6, _ | 7, _ => rfl

theorem set_open {w : World} {nb : Nat} {lim tab dep val dots : Int} {ik hd : Bool} {v : Value}
    (h : w.rowIs nb 40 8 (nst lim tab dep val dots ik hd v)) (u : Value) :
    (w.setCell ⟨nb, 1, none⟩ u).rowIs nb 40 8 (nst lim tab dep val dots ik hd u) :=
  (h.set 1 u).congr fun i hi => by
    match i, hi with
    | 0, _ | 1, _ | 2, _ | 3, _ | 4, _ | 5, _ | 6, _ | 7, _ => rfl

theorem nest_pushed {w w1 : World} {o : Obj} {nb g : Nat} {lim tab dep val dots : Int} {ik hd : Bool} {ao : Option Addr} {n cap cap' : Nat} {xs news : List Value}
    (h : Nest w nb lim tab dep val dots ik hd ao n cap xs)
    (hown : w1.ownsRow (nb + 1) 42 5 (.slice (some ⟨g, 0, none⟩) (n + 1) cap') (n + 1) (xs ++ news))
    (hgrow : (w.alloc o).grownBy w1 (Value.slice ao n cap).ownBlock) :
    w1.rowIs nb 40 8 (nst lim tab dep val dots ik hd (.slice ao n cap)) ∧
    Nest (w1.setCell ⟨nb, 1, none⟩ (.slice (some ⟨g, 0, none⟩) (n + 1) cap')) nb lim tab dep val dots ik hd (some ⟨g, 0, none⟩) (n + 1) cap' (xs ++ news) ∧
    Below nb w (w1.setCell ⟨nb, 1, none⟩ (.slice (some ⟨g, 0, none⟩) (n + 1) cap')) := by
  have hlt := h.lt
  have hne : ∀ k, (Value.slice ao n cap).ownBlock = some k → nb + 1 ≤ k := by
    intro k hk
    rcases h.own.2 with ⟨e, _⟩ | ⟨g', cap1, cur, e, hg, _⟩
    · rw [e] at hk; simp [Value.ownBlock] at hk
    · rw [e] at hk
      simp [Value.ownBlock] at hk
      omega
  have hrow : w1.rowIs nb 40 8 (nst lim tab dep val dots ik hd (.slice ao n cap)) :=
    (h.row.alloc o).of_block (hgrow.block nb (by simp; omega) (by intro e; have := hne nb e.symm; omega))
  refine ⟨hrow, ⟨set_open hrow _, ownsRow_setCell_below hown (by show nb < nb + 1; omega) _⟩, ?_⟩
  exact (((Below.refl nb w).alloc (Nat.le_of_lt hlt) o).grown hgrow (by simp; omega) (fun k hk => by have := hne k hk; omega)).setCell (Nat.le_refl _) _

theorem push13 (w : World) (nb : Nat) (lim tab dep val dots : Int) (ik hd : Bool) (ao : Option Addr) (n cap : Nat) (xs : List Value) (l : Lv)
    (h : Nest w nb lim tab dep val dots ik hd ao n cap xs) (hn : n ≤ 1048576) :
    Calls Try.prog 13 #[.pointer (some ⟨nb, 0, none⟩), .int .i64 l.o, .int .i64 l.v, .bool l.t, .int .i64 l.k, .bool l.a] w (fun e w' =>
      e = .returned (.tuple #[]) ∧ (∃ ao' cap', Nest w' nb lim tab dep val dots ik hd ao' (n + 1) cap' (xs ++ l.cells)) ∧ Below nb w w') := by
  obtain ⟨i0, hi0, hz0, hz1, hz2⟩ := info_parts info42
  have hlt := h.lt
  have c1 : w.cell? ⟨nb, 1, none⟩ = some (.slice ao n cap) := h.row.cell (i := 1) (by omega)
  have f1 := h.row.frozen 1
  have H : Hid (Nest w nb lim tab dep val dots ik hd ao n cap xs) := h
  clear h
  go_enter Try.func13, Try.ntmps13
  go_wp2_with (at_builtin; refine wpList_append_lies _ (by rfl) _ _ _ (by rfl) (nb+1) 42 i0 _ 5 40 Try.underlying38 hi0 hz0 hz1 hz2 rfl (by omega) (.slice ao n cap) n xs (by rfl) (H.out.own.alloc _) ⟨w.heap.size,0,none⟩ 1 1 l.cells (by rfl) (by rfl) (World.news_of_block (cs := #[.int .i64 l.o, .int .i64 l.v, .bool l.t, .int .i64 l.k, .bool l.a]) (t := 42) (fr := (0,0)) (heap_alloc_new w _)) (cells_one l) (by omega) (by unfold maxLen; omega) (by omega) (by simp; omega) (w.heap.size+1) (by simp) ?_)
  intro g cap' w1 hown hgrow _ _
  obtain ⟨hr1, hN1, hB1⟩ := nest_pushed H.out hown hgrow
  have c1' : w1.cell? ⟨nb, 1, none⟩ = some (.slice ao n cap) := hr1.cell (i := 1) (by omega)
  have f1' := hr1.frozen 1
  have hN : Hid (Nest (w1.setCell ⟨nb, 1, none⟩ (.slice (some ⟨g, 0, none⟩) (n + 1) cap')) nb lim tab dep val dots ik hd (some ⟨g, 0, none⟩) (n + 1) cap' (xs ++ l.cells)) := hN1
  have hB : Hid (Below nb w (w1.setCell ⟨nb, 1, none⟩ (.slice (some ⟨g, 0, none⟩) (n + 1) cap'))) := hB1
  clear hr1 hN1 hB1 hown hgrow
  go_wp2
  go_end0
  exact ⟨rfl, ⟨_, _, hN.out⟩, hB.out⟩

end Go.Proofs.Qxb6614148a
