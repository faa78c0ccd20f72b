/-
  A table in memory: its columns.
-/
import Derived.Test.Qxb6613626aOwn
import Derived.Maps.Own
namespace Go.Proofs.Qxb6613626a
open Go.ChangeShapes Go.WideShapes Go.ChangeAt Go.RowKit Go.Maps

abbrev ptr (b : Nat) : Value := .pointer (some ⟨b, 0, none⟩)

def tst (mb : Nat) (ord keys part : Value) : Nat → Value
  | 0 => .map (some mb)
  | 1 => ord
  | 2 => keys
  | 3 => .slice none 0 0
  | 4 => .slice none 0 0
  | 5 => .slice none 0 0
  | 6 => part
  | _ => .string ⟨#[]⟩

theorem law9 : Keyed Try.prog 9 := string_keyed Try.underlying9
def anyR : Value → Option (DataW Unit × List MemPlace) := fun _ => some (.nil, [])
def MapIs (w : World) (b n : Nat) : Prop := ∃ D : DataW Unit, w.ownsMap Try.prog 9 anyR b n D

theorem MapIs.kept {w w' : World} {b n : Nat} {row : Option Nat} (h : MapIs w b n) (hg : w.grownBy w' row) (hne : some b ≠ row) : MapIs w' b n := by
  obtain ⟨D, h⟩ := h
  exact ⟨D, h.kept hg hne⟩

theorem Own.grown {w w' : World} {B : Nat} {t : TypeId} {v : Value} {xs : List Value} {row : Option Nat} (h : Own w B t v xs) (hg : w.grownBy w' row) (hr : ∀ k, row = some k → k < B) : Own w' B t v xs := by
  refine ⟨h.1, ?_⟩
  rcases h.2 with e | ⟨g, cap1, cur, e, hb, hh, hrr⟩
  · exact .inl e
  · refine .inr ⟨g, cap1, cur, e, hb, ?_, hrr⟩
    have hlt : g < w.heap.size := by
      rcases Nat.lt_or_ge g w.heap.size with h1 | h1
      · exact h1
      · rw [Array.getElem?_eq_none h1] at hh
        cases hh
    rw [hg.block g hlt (fun e => by have := hr g e.symm; omega)]
    exact hh

theorem Own.block {w : World} {B : Nat} {t : TypeId} {v : Value} {xs : List Value} (h : Own w B t v xs) {k : Nat} (hk : v.ownBlock = some k) : B ≤ k ∧ ∃ cur, w.heap[k]? = some (.cells cur t) := by
  rcases h.2 with ⟨e, _⟩ | ⟨g, cap1, cur, e, hb, hh, _⟩
  · rw [e] at hk; simp [Value.ownBlock] at hk
  · rw [e] at hk
    simp [Value.ownBlock] at hk
    subst hk
    exact ⟨hb, cur, hh⟩

theorem Own.setCell {w : World} {B : Nat} {t : TypeId} {v : Value} {xs : List Value} (h : Own w B t v xs) {a : Addr} (ha : a.block < B) (u : Value) : Own (w.setCell a u) B t v xs :=
  ownsRow_setCell_below h ha u

/-- Each column has a block of its own kind. -/
def Blk (w : World) (cs : List Nat) : Prop := ∀ c, c ∈ cs → ∃ ca, w.heap[c]? = some (Obj.cells ca 61)
theorem Blk.of {w w' : World} {cs : List Nat} (h : Blk w cs) (hk : ∀ (c : Nat) (ca : Array Value), w.heap[c]? = some (Obj.cells ca 61) → w'.heap[c]? = w.heap[c]?) : Blk w' cs := fun c hc => by
  obtain ⟨ca, h1⟩ := h c hc
  exact ⟨ca, (hk c ca h1).trans h1⟩
theorem lt_of_heap {w : World} {c : Nat} {o : Obj} (h : w.heap[c]? = some o) : c < w.heap.size := by
  rcases Nat.lt_or_ge c w.heap.size with h1 | h1
  · exact h1
  · rw [Array.getElem?_eq_none h1] at h
    cases h

structure Cols (w : World) (B k : Nat) (ord keys part : Value) (cs : List Nat) : Prop where
  row : w.rowIs (B + 1) 57 9 (tst B ord keys part)
  map : MapIs w B k
  own : Own w (B + 2) 34 ord (cs.map ptr)
  blk : Blk w cs

theorem set_ord {w : World} {b mb : Nat} {ord keys part : Value} (h : w.rowIs b 57 9 (tst mb ord keys part)) (u : Value) : (w.setCell ⟨b, 1, none⟩ u).rowIs b 57 9 (tst mb u keys part) :=
  (h.set 1 u).congr fun i hi => by
    match i, hi with
    | 0, _ | 1, _ | 2, _ | 3, _ | 4, _ | 5, _ | 6, _ | 7, _ | 8, _ => rfl
theorem set_keys {w : World} {b mb : Nat} {ord keys part : Value} (h : w.rowIs b 57 9 (tst mb ord keys part)) (u : Value) : (w.setCell ⟨b, 2, none⟩ u).rowIs b 57 9 (tst mb ord u part) :=
  (h.set 2 u).congr fun i hi => by
    match i, hi with
    | 0, _ | 1, _ | 2, _ | 3, _ | 4, _ | 5, _ | 6, _ | 7, _ | 8, _ => rfl
theorem set_part {w : World} {b mb : Nat} {ord keys part : Value} (h : w.rowIs b 57 9 (tst mb ord keys part)) (u : Value) : (w.setCell ⟨b, 6, none⟩ u).rowIs b 57 9 (tst mb ord keys u) :=
  (h.set 6 u).congr fun i hi => by
    match i, hi with
    | 0, _ | 1, _ | 2, _ | 3, _ | 4, _ | 5, _ | 6, _ | 7, _ | 8, _ => rfl

theorem grown_alloc (w : World) (o : Obj) (row : Option Nat) : w.grownBy (w.alloc o) row := World.grownBy_alloc w o row

/-- Behind the map's update. -/
theorem cols_mapped {w w1 : World} {B k : Nat} {o : Obj} {ord keys part : Value} {cs : List Nat} (h : Cols w B k ord keys part cs) {D : DataW Unit} {n : Nat}
    (hm : w1.ownsMap Try.prog 9 anyR B n D) (hg : (w.alloc o).grownBy w1 (some B)) : Cols w1 B n ord keys part cs ∧ Below B w w1 ∧ w1.heap[w.heap.size]? = some o := by
  have hlt := h.row.lt
  have hblk : ∀ c : Nat, c < w.heap.size → c ≠ B → w1.heap[c]? = w.heap[c]? := fun c hc hne =>
    (hg.block c (by simp; omega) (fun e => hne (by injection e))).trans (Below.heap_alloc w o c hc)
  refine ⟨⟨(h.row.alloc o).of_block (hg.block (B + 1) (by simp; omega) (by simp)), ⟨D, hm⟩, (h.own.grown (grown_alloc w o none) (by simp)).grown hg (fun k hk => by cases hk; omega), ?_⟩, ?_, ?_⟩
  · refine h.blk.of (fun c ca hc => hblk c (lt_of_heap hc) ?_)
    rintro rfl
    obtain ⟨D', es, clock, hh, _⟩ := h.map
    rw [hc] at hh
    cases hh
  · exact ((Below.refl B w).alloc (by omega) o).grown hg (by simp; omega) (fun k hk => by cases hk; exact Nat.le_refl _)
  · rw [hg.block w.heap.size (by simp) (fun e => by injection e with e; omega)]
    exact heap_alloc_new w o

/-- Behind the append to the order. -/
theorem cols_pushed {w w2 : World} {B k g n cap c : Nat} {o : Obj} {ord keys part : Value} {cs : List Nat} (h : Cols w B k ord keys part cs) (hn : n = (cs.map ptr).length) (hc : ∃ ca, w.heap[c]? = some (Obj.cells ca 61))
    (hown : w2.ownsRow (B + 2) 34 1 (.slice (some ⟨g, 0, none⟩) (n + 1) cap) (n + 1) (cs.map ptr ++ [ptr c])) (hg : (w.alloc o).grownBy w2 ord.ownBlock) :
    w2.rowIs (B + 1) 57 9 (tst B ord keys part) ∧
    Cols (w2.setCell ⟨B + 1, 1, none⟩ (.slice (some ⟨g, 0, none⟩) (n + 1) cap)) B k (.slice (some ⟨g, 0, none⟩) (n + 1) cap) keys part (cs ++ [c]) ∧
    Below B w (w2.setCell ⟨B + 1, 1, none⟩ (.slice (some ⟨g, 0, none⟩) (n + 1) cap)) := by
  have hlt := h.row.lt
  have hob : ∀ j, ord.ownBlock = some j → B + 2 ≤ j := fun j hj => (h.own.block hj).1
  have hrow : w2.rowIs (B + 1) 57 9 (tst B ord keys part) := (h.row.alloc o).of_block (hg.block (B + 1) (by simp; omega) (fun e => by have := hob _ e.symm; omega))
  have hblk : ∀ (c : Nat) (ca : Array Value), w.heap[c]? = some (Obj.cells ca 61) → (w2.setCell ⟨B + 1, 1, none⟩ (.slice (some ⟨g, 0, none⟩) (n + 1) cap)).heap[c]? = w.heap[c]? := by
    intro c ca hc
    have hlc := lt_of_heap hc
    have hne : c ≠ B + 1 := by
      rintro rfl
      obtain ⟨c', hc', _⟩ := h.row
      rw [hc] at hc'
      injection hc' with hc'
      injection hc' with _ ht
      cases ht
    rw [Below.heap_setCell w2 _ _ c (by exact hne), hg.block c (by simp; omega) ?_, Below.heap_alloc w o c hlc]
    intro e
    obtain ⟨_, cur, hcur⟩ := h.own.block e.symm
    rw [hc] at hcur
    injection hcur with hcur
    injection hcur with _ ht
    cases ht
  refine ⟨hrow, ⟨set_ord hrow _, ?_, ?_, ?_⟩, ?_⟩
  · have h1 : MapIs w2 B k := (h.map.kept (grown_alloc w o none) (by simp)).kept hg (fun e => by have := hob _ e.symm; omega)
    obtain ⟨D, h1⟩ := h1
    refine ⟨D, ?_⟩
    obtain ⟨es, clock, hb, F⟩ := h1
    exact ⟨es, clock, (Below.heap_setCell w2 _ _ B (by show B ≠ B + 1; omega)).trans hb, F⟩
  · subst hn
    unfold Own
    rw [List.map_append, List.length_append]
    exact ownsRow_setCell_below hown (by show B + 1 < B + 2; omega) _
  · refine Blk.of (w := w) ?_ hblk
    intro c' hc'
    rcases List.mem_append.1 hc' with h4 | h4
    · exact h.blk c' h4
    · obtain rfl : c' = c := by simpa using h4
      exact hc
  · exact (((Below.refl B w).alloc (by omega) o).grown hg (by simp; omega) (fun j hj => by have := hob j hj; omega)).setCell (by show B ≤ B + 1; omega) _

theorem cols_start (w : World) : Cols ((w.alloc (.map #[] 0)).alloc (.cells #[.map (some w.heap.size), .slice none 0 0, .slice none 0 0, .slice none 0 0, .slice none 0 0, .slice none 0 0, .slice none 0 0, .string ⟨#[]⟩, .string ⟨#[]⟩] 57))
    w.heap.size 0 (.slice none 0 0) (.slice none 0 0) (.slice none 0 0) [] := by
  refine ⟨?_, ⟨_, (World.ownsMap_made w Try.prog 9 anyR).alloc _⟩, Own.nil _ _ _, fun c hc => by cases hc⟩
  have h := World.rowIs_alloc (w.alloc (.map #[] 0)) #[.map (some w.heap.size), .slice none 0 0, .slice none 0 0, .slice none 0 0, .slice none 0 0, .slice none 0 0, .slice none 0 0, .string ⟨#[]⟩, .string ⟨#[]⟩] 57
    (tst w.heap.size (.slice none 0 0) (.slice none 0 0) (.slice none 0 0)) (fun i hi => by
      match i, hi with
      | 0, _ | 1, _ | 2, _ | 3, _ | 4, _ | 5, _ | 6, _ | 7, _ | 8, _ => rfl)
  rw [show (w.alloc (.map #[] 0)).heap.size = w.heap.size + 1 by simp] at h
  exact h

end Go.Proofs.Qxb6613626a
