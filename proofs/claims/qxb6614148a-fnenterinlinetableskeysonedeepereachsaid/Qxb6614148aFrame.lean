/-
  How the two slices that came in are opened.
-/
import Derived.Test.Qxb6614148aStill
import Derived.Deep.Slices
namespace Go.Proofs.Qxb6614148a
open Go.ChangeShapes Go.WideShapes Go.ChangeAt Go.RowKit

section
variable {H : Type} {enc : TypeId × Value → H} {w : World} {base : Nat} {spare : Nat → Bool} {held : Bool}

theorem cells3 : Try.prog.cellsOf 3 = 1 := by kernel_rfl
theorem cells4 : Try.prog.cellsOf 4 = 1 := by kernel_rfl
theorem cells35 : Try.prog.cellsOf 35 = 5 := by kernel_rfl

theorem lv_of_trod {n : Nat} {cs : List Value} {y : DataW H × List MemPlace} (h : DataW.trod enc Try.prog w base spare held n 35 cs = some y) : ∃ l : Lv, cs = l.cells := by
  obtain ⟨xs, m, _, _, hl, hlen, hf⟩ := DataW.trod_struct Try.underlying35 h
  rw [cells35] at hl
  match cs, hl, xs, hlen with
  | [c0, c1, c2, c3, c4], _, [y0, y1, y2, y3, y4], _ =>
    have h0 : DataW.trod enc Try.prog w base spare held m 3 [c0] = some y0 := by simpa [cells3, cells4] using hf 0 _ rfl
    have h1 : DataW.trod enc Try.prog w base spare held m 3 [c1] = some y1 := by simpa [cells3, cells4] using hf 1 _ rfl
    have h2 : DataW.trod enc Try.prog w base spare held m 4 [c2] = some y2 := by simpa [cells3, cells4] using hf 2 _ rfl
    have h3 : DataW.trod enc Try.prog w base spare held m 3 [c3] = some y3 := by simpa [cells3, cells4] using hf 3 _ rfl
    have h4 : DataW.trod enc Try.prog w base spare held m 4 [c4] = some y4 := by simpa [cells3, cells4] using hf 4 _ rfl
    obtain ⟨o, e0, _, _⟩ := DataW.trod_int Try.underlying3 h0
    obtain ⟨v, e1, _, _⟩ := DataW.trod_int Try.underlying3 h1
    obtain ⟨t, e2, _⟩ := DataW.trod_bool Try.underlying4 h2
    obtain ⟨k, e3, _, _⟩ := DataW.trod_int Try.underlying3 h3
    obtain ⟨a, e4, _⟩ := DataW.trod_bool Try.underlying4 h4
    simp at e0 e1 e2 e3 e4
    subst e0 e1 e2 e3 e4
    exact ⟨⟨o, v, t, k, a⟩, rfl⟩

theorem open_prior {fuel : Nat} {a : Option Addr} {len cap : Nat} {x : DataW H × List MemPlace} (h : DataW.trod enc Try.prog w base spare held fuel 22 [.slice a len cap] = some x) :
    len ≤ maxLen ∧ ∃ L, Prior w w.heap.size a len L := by
  rcases Deep.open_slice Try.underlying22 h with ⟨hcs, _⟩ | ⟨a', len', cap', m, n, D, Pl, hcs, hb, hl, hm, hmm, _, hx⟩
  · simp at hcs
    obtain ⟨rfl, rfl, rfl⟩ := hcs
    exact ⟨Nat.zero_le _, fun _ => ⟨0, 0, false, 0, false⟩, .inl rfl⟩
  · simp at hcs
    obtain ⟨rfl, rfl, rfl⟩ := hcs
    refine ⟨Nat.le_trans hl hm, ?_⟩
    have hle : len ≤ m := by rw [hmm]; split <;> omega
    rw [cells35] at hx
    have hinh : Inhabited Lv := ⟨⟨0, 0, false, 0, false⟩⟩
    obtain ⟨L, hL⟩ := Deep.choose_lt (α := Lv) (n := len) (p := fun i l => w.cells? base (a'.add (i * 5)) 5 = some l.cells) (fun i hi => by
      obtain ⟨cs', h1, h2⟩ := hx i (by omega)
      obtain ⟨l, rfl⟩ := lv_of_trod h2
      exact ⟨l, h1⟩)
    refine ⟨L, ?_⟩
    by_cases h0 : len = 0
    · exact .inl h0
    · obtain ⟨b, off, spot⟩ := a'
      have h00 : w.cell? ((⟨b, off, spot⟩ : Addr).add 0) = some (.int .i64 (L 0).o) := by
        have := (World.cells?_some (hL 0 (by omega))).2.2 0 (by omega)
        rw [Deep.add_add] at this
        exact this
      have hspot : spot = none := by simpa [Addr.add] using World.cell?_spot h00
      subst hspot
      refine .inr ⟨b, off, rfl, ?_, fun i hi j v hv => ?_⟩
      · have := World.block_lt_of_cell? w _ h00
        simpa [Addr.add] using this
      · have hj : j < 5 := by
          rcases Nat.lt_or_ge j 5 with h1 | h1
          · exact h1
          · rw [List.getElem?_eq_none (by show 5 ≤ j; exact h1)] at hv; cases hv
        have := (World.cells?_some (hL i hi)).2.2 j hj
        rw [Deep.add_add, add_plain, hv] at this
        rw [← this]
        congr 2
        omega

theorem open_keys {fuel : Nat} {a : Option Addr} {len cap : Nat} {x : DataW H × List MemPlace} (h : DataW.trod enc Try.prog w base spare held fuel 23 [.slice a len cap] = some x) :
    len ≤ maxLen ∧ ∃ K, Keys w w.heap.size a len K := by
  rcases open_ints Try.underlying23 Try.underlying3 (by kernel_rfl) h with ⟨hcs, _⟩ | ⟨x, l, c, zs, hcs, _, hl, hm, hz, _, hcell, hwz⟩
  · simp at hcs
    obtain ⟨rfl, rfl, rfl⟩ := hcs
    exact ⟨Nat.zero_le _, fun _ => 0, .inl rfl⟩
  · simp at hcs
    obtain ⟨rfl, rfl, rfl⟩ := hcs
    refine ⟨Nat.le_trans hl hm, fun i => zs.getD i 0, ?_⟩
    by_cases h0 : len = 0
    · exact .inl h0
    · have hz' : len ≤ zs.length := by rw [hz]; split <;> omega
      obtain ⟨b, off, spot⟩ := x
      have h00 := hcell 0 (by omega)
      have hspot : spot = none := by simpa [Addr.add] using World.cell?_spot h00
      subst hspot
      refine .inr ⟨b, off, rfl, ?_, fun i hi => ?_⟩
      · have := World.block_lt_of_cell? w _ h00
        simpa [Addr.add] using this
      · rw [← add_plain]; exact hcell i (by omega)

theorem wrap_wf {x : Int} (h : (Lit.int .i64 x).wf = true) : wrap64 x = x := by
  have := bounds_i64 h
  simp only [wrap64]
  omega
end
end Go.Proofs.Qxb6614148a
