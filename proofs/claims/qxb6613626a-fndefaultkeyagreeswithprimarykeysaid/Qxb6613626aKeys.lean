/-
  A table in memory: its keys.
-/
import Derived.Test.Qxb6613626aTable
namespace Go.Proofs.Qxb6613626a
open Go.ChangeShapes Go.WideShapes Go.ChangeAt Go.RowKit Go.Maps

theorem Hid.intro {p : Prop} (h : p) : Hid p := h

theorem Cols.below {w w' : World} {B k : Nat} {ord keys part : Value} {cs : List Nat} (h : Cols w B k ord keys part cs) (hb : Below w.heap.size w w') : Cols w' B k ord keys part cs := by
  refine ⟨h.row.of_block (hb.block _ h.row.lt), ?_, h.own.below hb, h.blk.of (fun c ca hc => hb.block c (lt_of_heap hc))⟩
  obtain ⟨D, hm⟩ := h.map
  have hlt := hm.lt
  obtain ⟨es, clock, hh, F⟩ := hm
  exact ⟨D, es, clock, (hb.block B hlt).trans hh, F⟩

theorem Own.mono {w : World} {B B' : Nat} {t : TypeId} {v : Value} {xs : List Value} (h : Own w B t v xs) (hB : B' ≤ B) : Own w B' t v xs := by
  refine ⟨h.1, ?_⟩
  rcases h.2 with e | ⟨g, cap1, cur, e, hb, hh⟩
  · exact .inl e
  · exact .inr ⟨g, cap1, cur, e, by omega, hh⟩

def kst (s : ByteArray) (cv : Value) : Nat → Value
  | 0 => .string ⟨#[]⟩
  | 1 => .string s
  | _ => cv

structure KeyIs (w : World) (kb : Nat) (s : ByteArray) (cv : Value) (xs : List Value) : Prop where
  row : w.rowIs kb 65 3 (kst s cv)
  own : Own w (kb + 1) 34 cv xs

theorem KeyIs.below {w w' : World} {kb : Nat} {s : ByteArray} {cv : Value} {xs : List Value} (h : KeyIs w kb s cv xs) (hb : Below w.heap.size w w') : KeyIs w' kb s cv xs :=
  ⟨h.row.of_block (hb.block _ h.row.lt), h.own.below hb⟩

theorem set_cv {w : World} {kb : Nat} {s : ByteArray} {cv : Value} (h : w.rowIs kb 65 3 (kst s cv)) (u : Value) : (w.setCell ⟨kb, 2, none⟩ u).rowIs kb 65 3 (kst s u) :=
  (h.set 2 u).congr fun i hi => by
    match i, hi with
    | 0, _ | 1, _ | 2, _ => rfl

/-- Blocks that are neither a table nor a row of keys stand. -/
def Keeps (w w' : World) : Prop := ∀ (b : Nat) (cs : Array Value) (t : TypeId), w.heap[b]? = some (Obj.cells cs t) → t ≠ 57 → t ≠ 62 → w'.heap[b]? = w.heap[b]?

theorem Own.keeps {w w' : World} {B : Nat} {t : TypeId} {v : Value} {xs : List Value} (h : Own w B t v xs) (hk : Keeps w w') (h1 : t ≠ 57) (h2 : t ≠ 62) : Own w' B t v xs := by
  refine ⟨h.1, ?_⟩
  rcases h.2 with e | ⟨g, cap1, cur, e, hb, hh, hr⟩
  · exact .inl e
  · exact .inr ⟨g, cap1, cur, e, hb, (hk g cur t hh h1 h2).trans hh, hr⟩
theorem KeyIs.keeps {w w' : World} {kb : Nat} {s : ByteArray} {cv : Value} {xs : List Value} (h : KeyIs w kb s cv xs) (hk : Keeps w w') : KeyIs w' kb s cv xs := by
  refine ⟨?_, h.own.keeps hk (by decide) (by decide)⟩
  obtain ⟨c, hc, hr⟩ := h.row
  exact ⟨c, (hk kb c 65 hc (by decide) (by decide)).trans hc, hr⟩

/-- The column at an entry of the keys. -/
def ixC (cs : List Nat) (J : Nat → Nat → Int) (p : Nat × Nat) : Value := ptr (cs.getD (J p.1 p.2).toNat 0)

structure KTab (w : World) (B n1 : Nat) (ord keys : Value) (cs : List Nat) (i : Nat) (ks : List Nat) (S2 : Nat → ByteArray) (m : Nat → Nat) (J : Nat → Nat → Int) : Prop where
  cols : Cols w B n1 ord keys (.slice none 0 0) cs
  own : Own w (B + 2) 62 keys (ks.map ptr)
  len : ks.length = i
  each : ∀ j, j < i → ∃ cv, KeyIs w (ks.getD j 0) (S2 j) cv ((rowIx j (m j)).map (ixC cs J))

theorem KTab.below {w w' : World} {B n1 : Nat} {ord keys : Value} {cs : List Nat} {i : Nat} {ks : List Nat} {S2 : Nat → ByteArray} {m : Nat → Nat} {J : Nat → Nat → Int}
    (h : KTab w B n1 ord keys cs i ks S2 m J) (hb : Below w.heap.size w w') : KTab w' B n1 ord keys cs i ks S2 m J :=
  ⟨h.cols.below hb, h.own.below hb, h.len, fun j hj => by
    obtain ⟨cv, hk⟩ := h.each j hj
    exact ⟨cv, hk.below hb⟩⟩

theorem keys_pushed {w w2 : World} {B n1 g n cap kb : Nat} {o : Obj} {ord keys : Value} {cs : List Nat} {i : Nat} {ks : List Nat} {S2 : Nat → ByteArray} {m : Nat → Nat} {J : Nat → Nat → Int} {cv : Value}
    (h : KTab w B n1 ord keys cs i ks S2 m J) (hkey : KeyIs w kb (S2 i) cv ((rowIx i (m i)).map (ixC cs J))) (hn : n = (ks.map ptr).length)
    (hown : w2.ownsRow (B + 2) 62 1 (.slice (some ⟨g, 0, none⟩) (n + 1) cap) (n + 1) (ks.map ptr ++ [ptr kb])) (hg : (w.alloc o).grownBy w2 keys.ownBlock) :
    w2.rowIs (B + 1) 57 9 (tst B ord keys (.slice none 0 0)) ∧
    KTab (w2.setCell ⟨B + 1, 2, none⟩ (.slice (some ⟨g, 0, none⟩) (n + 1) cap)) B n1 ord (.slice (some ⟨g, 0, none⟩) (n + 1) cap) cs (i + 1) (ks ++ [kb]) S2 m J ∧
    Below B w (w2.setCell ⟨B + 1, 2, none⟩ (.slice (some ⟨g, 0, none⟩) (n + 1) cap)) := by
  have hlt := h.cols.row.lt
  have hob : ∀ j, keys.ownBlock = some j → B + 2 ≤ j := fun j hj => (h.own.block hj).1
  have hrow : w2.rowIs (B + 1) 57 9 (tst B ord keys (.slice none 0 0)) := (h.cols.row.alloc o).of_block (hg.block (B + 1) (by simp; omega) (fun e => by have := hob _ e.symm; omega))
  have hkeep : Keeps w (w2.setCell ⟨B + 1, 2, none⟩ (.slice (some ⟨g, 0, none⟩) (n + 1) cap)) := by
    intro b c t hb h57 h62
    have hblt : b < w.heap.size := by
      rcases Nat.lt_or_ge b w.heap.size with h1 | h1
      · exact h1
      · rw [Array.getElem?_eq_none h1] at hb
        cases hb
    have hne : b ≠ B + 1 := by
      rintro rfl
      obtain ⟨c', hc', _⟩ := h.cols.row
      rw [hb] at hc'
      injection hc' with hc'
      injection hc' with _ ht
      exact h57 ht
    rw [Below.heap_setCell w2 _ _ b (by exact hne), hg.block b (by simp; omega) ?_, Below.heap_alloc w o b hblt]
    intro e
    obtain ⟨_, cur, hcur⟩ := h.own.block e.symm
    rw [hb] at hcur
    injection hcur with hcur
    injection hcur with _ ht
    exact h62 ht
  refine ⟨hrow, ⟨⟨set_keys hrow _, ?_, h.cols.own.keeps hkeep (by decide) (by decide), h.cols.blk.of (fun c ca hc => hkeep c ca 61 hc (by decide) (by decide))⟩, ?_, ?_, ?_⟩, ?_⟩
  · have h1 : MapIs w2 B n1 := (h.cols.map.kept (grown_alloc w o none) (by simp)).kept hg (fun e => by have := hob _ e.symm; omega)
    obtain ⟨D, h1⟩ := h1
    refine ⟨D, ?_⟩
    obtain ⟨es, clock, hb, F⟩ := h1
    exact ⟨es, clock, (Below.heap_setCell w2 _ _ B (by show B ≠ B + 1; omega)).trans hb, F⟩
  · subst hn
    unfold Own
    rw [List.map_append, List.length_append]
    exact ownsRow_setCell_below hown (by show B + 1 < B + 2; omega) _
  · rw [List.length_append, h.len]
    rfl
  · intro j hj
    rcases Nat.lt_or_ge j i with h4 | h4
    · obtain ⟨cv', hk'⟩ := h.each j h4
      refine ⟨cv', ?_⟩
      have e : (ks ++ [kb]).getD j 0 = ks.getD j 0 := by
        rw [List.getD_eq_getElem?_getD, List.getD_eq_getElem?_getD, List.getElem?_append_left (by rw [h.len]; exact h4)]
      rw [e]
      exact hk'.keeps hkeep
    · obtain rfl : j = i := by omega
      refine ⟨cv, ?_⟩
      have e : (ks ++ [kb]).getD j 0 = kb := by
        rw [List.getD_eq_getElem?_getD, List.getElem?_append_right (by rw [h.len]; omega), h.len]
        simp
      rw [e]
      exact hkey.keeps hkeep
  · exact (((Below.refl B w).alloc (by omega) o).grown hg (by simp; omega) (fun j hj => by have := hob j hj; omega)).setCell (by show B ≤ B + 1; omega) _

/-- Behind the append to a key's columns. -/
theorem key_grown {w w2 : World} {kb g n cap : Nat} {o : Obj} {s : ByteArray} {cv x : Value} {xs : List Value} (h : KeyIs w kb s cv xs) (hn : n = xs.length)
    (hown : w2.ownsRow (kb + 1) 34 1 (.slice (some ⟨g, 0, none⟩) (n + 1) cap) (n + 1) (xs ++ [x])) (hg : ((w.alloc o).drew).grownBy w2 cv.ownBlock) :
    KeyIs (w2.setCell ⟨kb, 2, none⟩ (.slice (some ⟨g, 0, none⟩) (n + 1) cap)) kb s (.slice (some ⟨g, 0, none⟩) (n + 1) cap) (xs ++ [x]) ∧
    Below kb w (w2.setCell ⟨kb, 2, none⟩ (.slice (some ⟨g, 0, none⟩) (n + 1) cap)) := by
  have hlt := h.row.lt
  have hob : ∀ j, cv.ownBlock = some j → kb + 1 ≤ j := fun j hj => (h.own.block hj).1
  have hg' : (w.alloc o).grownBy w2 cv.ownBlock := ⟨hg.1, hg.2, hg.3, hg.4, hg.5⟩
  have hrow : w2.rowIs kb 65 3 (kst s cv) := (h.row.alloc o).of_block (hg'.block kb (by simp; omega) (fun e => by have := hob _ e.symm; omega))
  refine ⟨⟨set_cv hrow _, ?_⟩, ?_⟩
  · subst hn
    unfold Own
    rw [List.length_append]
    exact ownsRow_setCell_below hown (by show kb < kb + 1; omega) _
  · exact (((Below.refl kb w).alloc (by omega) o).grown hg' (by simp; omega) (fun j hj => by have := hob j hj; omega)).setCell (Nat.le_refl _) _

theorem key_start (w : World) (s : ByteArray) : KeyIs (w.alloc (.cells #[.string ⟨#[]⟩, .string s, .slice none 0 0] 65)) w.heap.size s (.slice none 0 0) [] :=
  ⟨World.rowIs_alloc w _ 65 _ (fun i hi => by
    match i, hi with
    | 0, _ | 1, _ | 2, _ => rfl), Own.nil _ _ _⟩

end Go.Proofs.Qxb6613626a
