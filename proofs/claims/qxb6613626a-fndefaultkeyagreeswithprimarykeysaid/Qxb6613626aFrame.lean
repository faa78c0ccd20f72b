/-
  How the three slices that came in are opened.
-/
import Derived.Test.Qxb6613626aLaw
import Derived.Deep.Slices
namespace Go.Proofs.Qxb6613626a
open Go.ChangeShapes Go.WideShapes Go.ChangeAt Go.RowKit

section
variable {H : Type} {enc : TypeId × Value → H} {w : World} {base : Nat} {spare : Nat → Bool} {held : Bool}

theorem cells9 : Try.prog.cellsOf 9 = 1 := by kernel_rfl
theorem cells27 : Try.prog.cellsOf 27 = 1 := by kernel_rfl
theorem cells3 : Try.prog.cellsOf 3 = 1 := by kernel_rfl

theorem lies_of {a : Addr} {n : Nat} {V : Nat → Value} (h : ∀ i, i < n → w.cell? (a.add i) = some (V i)) : Lies w w.heap.size (some a) n V := by
  by_cases h0 : n = 0
  · exact .inl h0
  · obtain ⟨b, off, spot⟩ := a
    have h00 := h 0 (by omega)
    have hspot : spot = none := by simpa [Addr.add] using World.cell?_spot h00
    subst hspot
    refine .inr ⟨b, off, rfl, ?_, fun i hi => ?_⟩
    · have := World.block_lt_of_cell? w _ h00
      simpa [Addr.add] using this
    · rw [← add_plain]; exact h i hi

theorem open_strs {fuel : Nat} {a : Option Addr} {len cap : Nat} {x : DataW H × List MemPlace} (h : DataW.trod enc Try.prog w base spare held fuel 22 [.slice a len cap] = some x) :
    len ≤ maxLen ∧ ∃ S : Nat → ByteArray, Lies w w.heap.size a len (fun i => .string (S i)) ∧ ∀ i, i < len → (S i).size ≤ maxLen := by
  rcases Deep.open_slice1 Try.underlying22 cells9 h with ⟨hcs, _⟩ | ⟨a', len', cap', m, n, V, D, Pl, hcs, hb, hl, hm, hmm, _, hx⟩
  · simp at hcs
    obtain ⟨rfl, rfl, rfl⟩ := hcs
    exact ⟨Nat.zero_le _, fun _ => ByteArray.empty, .inl rfl, fun i hi => by omega⟩
  · simp at hcs
    obtain ⟨rfl, rfl, rfl⟩ := hcs
    refine ⟨Nat.le_trans hl hm, ?_⟩
    have hle : len ≤ m := by rw [hmm]; split <;> omega
    obtain ⟨S, hS⟩ := Deep.choose_lt (α := ByteArray) (n := len) (p := fun i s => w.cell? (a'.add i) = some (.string s) ∧ s.size ≤ maxLen) (fun i hi => by
      obtain ⟨h1, h2⟩ := hx i (by omega)
      obtain ⟨s, e, hs⟩ : ∃ s : ByteArray, V i = .string s ∧ s.size ≤ maxLen := by
        cases n with
        | zero => simp [DataW.trod] at h2
        | succ n =>
          cases hV : V i <;> simp [DataW.trod, Try.underlying9, hV] at h2 ⊢
          exact h2.1
      exact ⟨s, by rw [h1, e], hs⟩)
    exact ⟨S, lies_of (fun i hi => (hS i hi).1), fun i hi => (hS i hi).2⟩

theorem open_row {fuel : Nat} {v : Value} {x : DataW H × List MemPlace} (h : DataW.trod enc Try.prog w base spare held fuel 27 [v] = some x) :
    ∃ (a : Option Addr) (len cap : Nat) (K : Nat → Int), v = .slice a len cap ∧ len ≤ maxLen ∧ Lies w w.heap.size a len (fun k => .int .i64 (K k)) := by
  rcases open_ints Try.underlying27 Try.underlying3 cells3 h with ⟨hcs, _⟩ | ⟨x, l, c, zs, hcs, _, hl, hm, hz, _, hcell, hwz⟩
  · simp at hcs
    exact ⟨none, 0, 0, fun _ => 0, hcs, Nat.zero_le _, .inl rfl⟩
  · simp at hcs
    have hz' : l ≤ zs.length := by rw [hz]; split <;> omega
    exact ⟨some x, l, c, fun k => zs.getD k 0, hcs, Nat.le_trans hl hm, lies_of (fun i hi => hcell i (by omega))⟩

theorem open_rows {fuel : Nat} {a : Option Addr} {len cap : Nat} {x : DataW H × List MemPlace} (h : DataW.trod enc Try.prog w base spare held fuel 23 [.slice a len cap] = some x) :
    len ≤ maxLen ∧ ∃ (ra : Nat → Option Addr) (m rc : Nat → Nat) (J : Nat → Nat → Int), Lies w w.heap.size a len (fun i => .slice (ra i) (m i) (rc i)) ∧ (∀ i, i < len → m i ≤ maxLen) ∧
      ∀ i, i < len → Lies w w.heap.size (ra i) (m i) (fun k => .int .i64 (J i k)) := by
  rcases Deep.open_slice1 Try.underlying23 cells27 h with ⟨hcs, _⟩ | ⟨a', len', cap', m, n, V, D, Pl, hcs, hb, hl, hm, hmm, _, hx⟩
  · simp at hcs
    obtain ⟨rfl, rfl, rfl⟩ := hcs
    exact ⟨Nat.zero_le _, fun _ => none, fun _ => 0, fun _ => 0, fun _ _ => 0, .inl rfl, fun i hi => by omega, fun i hi => by omega⟩
  · simp at hcs
    obtain ⟨rfl, rfl, rfl⟩ := hcs
    refine ⟨Nat.le_trans hl hm, ?_⟩
    have hle : len ≤ m := by rw [hmm]; split <;> omega
    obtain ⟨F, hF⟩ := Deep.choose_lt (α := Option Addr × Nat × Nat × (Nat → Int)) (n := len) (p := fun i f => w.cell? (a'.add i) = some (.slice f.1 f.2.1 f.2.2.1) ∧ f.2.1 ≤ maxLen ∧ Lies w w.heap.size f.1 f.2.1 (fun k => .int .i64 (f.2.2.2 k))) (fun i hi => by
      obtain ⟨h1, h2⟩ := hx i (by omega)
      obtain ⟨ra, mm, cc, K, e, hm', hL⟩ := open_row h2
      exact ⟨(ra, mm, cc, K), by rw [h1, e], hm', hL⟩)
    exact ⟨fun i => (F i).1, fun i => (F i).2.1, fun i => (F i).2.2.1, fun i => (F i).2.2.2, lies_of (fun i hi => (hF i hi).1), fun i hi => (hF i hi).2.1, fun i hi => (hF i hi).2.2⟩
end
end Go.Proofs.Qxb6613626a
