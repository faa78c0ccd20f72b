/-
  Rows that a call owns; which entries of the keys are taken; zzPrimaryIndices.
-/
import Derived.Test.Qxb6613626aArgs3
import Derived.Deep.AppendLies
namespace Go.Proofs.Qxb6613626a
open Go.ChangeShapes Go.WideShapes Go.ChangeAt Go.RowKit

theorem info3 : (Try.prog.info? 3).map (fun i => (i.zero, i.size, i.bytes)) = some (some (.int .i64 0), 1, 8) := by kernel_rfl
theorem info34 : (Try.prog.info? 34).map (fun i => (i.zero, i.size, i.bytes)) = some (some (.pointer none), 1, 8) := by kernel_rfl
theorem info62 : (Try.prog.info? 62).map (fun i => (i.zero, i.size, i.bytes)) = some (some (.pointer none), 1, 8) := by kernel_rfl

def rowIx (i : Nat) : Nat → List (Nat × Nat)
  | 0 => []
  | k + 1 => rowIx i k ++ [(i, k)]
/-- The entries (key, place) of the keys below n that P takes, in their order. -/
def selIx (P : Nat → Bool) (m : Nat → Nat) : Nat → List (Nat × Nat)
  | 0 => []
  | i + 1 => selIx P m i ++ (bif P i then rowIx i (m i) else [])

theorem rowIx_len (i k : Nat) : (rowIx i k).length = k := by
  induction k with
  | zero => rfl
  | succ k ih => simp [rowIx, ih]
theorem rowIx_mem {i k : Nat} {p : Nat × Nat} (h : p ∈ rowIx i k) : p.1 = i ∧ p.2 < k := by
  induction k with
  | zero => cases h
  | succ k ih =>
    simp only [rowIx, List.mem_append, List.mem_singleton] at h
    rcases h with h | rfl
    · exact ⟨(ih h).1, by have := (ih h).2; omega⟩
    · exact ⟨rfl, by show k < k + 1; omega⟩
theorem rowIx_get {i n k : Nat} (h : k < n) : (rowIx i n)[k]? = some (i, k) := by
  induction n with
  | zero => omega
  | succ n ih =>
    rw [rowIx]
    by_cases hk : k < n
    · rw [List.getElem?_append_left (by rw [rowIx_len]; exact hk)]
      exact ih hk
    · obtain rfl : k = n := by omega
      rw [List.getElem?_append_right (by rw [rowIx_len]; omega), rowIx_len]
      simp
theorem selIx_mem {P : Nat → Bool} {m : Nat → Nat} {n : Nat} {p : Nat × Nat} (h : p ∈ selIx P m n) : p.1 < n ∧ p.2 < m p.1 ∧ P p.1 = true := by
  induction n with
  | zero => cases h
  | succ n ih =>
    simp only [selIx, List.mem_append] at h
    rcases h with h | h
    · have := ih h; exact ⟨by omega, this.2⟩
    · cases hP : P n with
      | false => rw [hP] at h; cases h
      | true =>
        rw [hP] at h
        obtain ⟨h1, h2⟩ := rowIx_mem h
        rw [h1]
        exact ⟨by omega, h2, hP⟩
theorem selIx_len {P : Nat → Bool} {m : Nat → Nat} {n N M : Nat} (hm : ∀ i, i < N → m i ≤ M) (hn : n ≤ N) : (selIx P m n).length ≤ n * M := by
  induction n with
  | zero => simp [selIx]
  | succ n ih =>
    have h1 := ih (by omega)
    have h2 := hm n (by omega)
    rw [selIx, List.length_append, Nat.succ_mul]
    cases P n with
    | false => simp only [cond_false, List.length_nil]; omega
    | true => simp only [cond_true, rowIx_len]; omega

/-- A row that the call owns. -/
def Own (w : World) (B : Nat) (t : TypeId) (v : Value) (xs : List Value) : Prop := w.ownsRow B t 1 v xs.length xs

theorem Own.nil (w : World) (B : Nat) (t : TypeId) : Own w B t (.slice none 0 0) [] := World.ownsRow_nil _ _ _ _

theorem Own.below {w w' : World} {B : Nat} {t : TypeId} {v : Value} {xs : List Value} (h : Own w B t v xs) (hb : Below w.heap.size w w') : Own w' B t v xs := by
  refine ⟨h.1, ?_⟩
  rcases h.2 with e | ⟨g, cap1, cur, e, hg, hh, hr⟩
  · exact .inl e
  · refine .inr ⟨g, cap1, cur, e, hg, ?_, hr⟩
    rw [hb.block g ?_]
    · exact hh
    · rcases Nat.lt_or_ge g w.heap.size with h1 | h1
      · exact h1
      · rw [Array.getElem?_eq_none h1] at hh
        cases hh

/-- What it looks like, and where its cells lie. -/
theorem Own.form {w : World} {B : Nat} {t : TypeId} {v : Value} {xs : List Value} (h : Own w B t v xs) :
    ∃ ao cap, v = .slice ao xs.length cap ∧ Lies w w.heap.size ao xs.length (fun i => xs.getD i undef) := by
  rcases h.2 with ⟨e, e0⟩ | ⟨g, cap1, cur, e, hg, hh, hc, hm, hs, ht⟩
  · exact ⟨none, 0, by rw [e, e0], .inl e0⟩
  · refine ⟨_, cap1, e, .inr ⟨g, 0, rfl, ?_, fun i hi => ?_⟩⟩
    · rcases Nat.lt_or_ge g w.heap.size with h1 | h1
      · exact h1
      · rw [Array.getElem?_eq_none h1] at hh
        cases hh
    · rw [Nat.zero_add, cell_of_row w g i cur t _ hh]
      have h1 : (List.take (xs.length * 1) cur.toList)[i]? = xs[i]? := by rw [ht]
      rw [List.getElem?_take, if_pos (by omega), List.getElem?_eq_getElem hi] at h1
      simp only [List.getD_eq_getElem?_getD, List.getElem?_eq_getElem hi, Option.getD_some]
      simpa using h1

def isP (S : Nat → ByteArray) (i : Nat) : Bool := decide ((S i).toList = [80, 82, 73, 77, 65, 82, 89, 32, 75, 69, 89])
def ixI (J : Nat → Nat → Int) (p : Nat × Nat) : Value := .int .i64 (J p.1 p.2)

theorem own_pushed {w wr w1 : World} {B g n cap : Nat} {t : TypeId} {o : Obj} {v x : Value} {xs : List Value}
    (hO : Own wr B t v xs) (hB : Below B w wr) (hBs : B ≤ w.heap.size) (hn : n = xs.length)
    (hown : w1.ownsRow B t 1 (.slice (some ⟨g, 0, none⟩) (n + 1) cap) (n + 1) (xs ++ [x])) (hgrow : (wr.alloc o).grownBy w1 v.ownBlock) :
    Own w1 B t (.slice (some ⟨g, 0, none⟩) (n + 1) cap) (xs ++ [x]) ∧ Below B w w1 := by
  subst hn
  refine ⟨?_, ?_⟩
  · unfold Own
    rw [List.length_append]
    exact hown
  · have hs := hB.size
    refine (hB.alloc (by omega) o).grown hgrow (by simp; omega) (fun k hk => ?_)
    rcases hO.2 with ⟨e, _⟩ | ⟨g', cap1, cur, e, hg, _⟩
    · rw [e] at hk; simp [Value.ownBlock] at hk
    · rw [e] at hk
      simp [Value.ownBlock] at hk
      omega

set_option maxRecDepth 10000 in
set_option maxHeartbeats 1600000 in
theorem primary10 (a2 a3 : Option Addr) (n c2 c3 : Nat) (S : Nat → ByteArray) (ra : Nat → Option Addr) (m rc : Nat → Nat) (J : Nat → Nat → Int) (w : World)
    (hS : Lies w w.heap.size a2 n (fun i => .string (S i))) (hR : Lies w w.heap.size a3 n (fun i => .slice (ra i) (m i) (rc i)))
    (hJ : ∀ i, i < n → Lies w w.heap.size (ra i) (m i) (fun k => .int .i64 (J i k))) (h3 : n ≤ 1048576) (hmm : ∀ i, i < n → m i ≤ 1048576) :
    Calls Try.prog 10 #[.slice a2 n c2, .slice a3 n c3] w (fun e w' => (∃ v, e = .returned v ∧ Own w' w.heap.size 3 v ((selIx (isP S) m n).map (ixI J))) ∧ Below w.heap.size w w') := by
  obtain ⟨i0, hi0, hz0, hz1, hz2⟩ := info_parts info3
  have HS : Hid (Lies w w.heap.size a2 n (fun i => .string (S i))) := hS
  have HR : Hid (Lies w w.heap.size a3 n (fun i => .slice (ra i) (m i) (rc i))) := hR
  have HJ : Hid (∀ i, i < n → Lies w w.heap.size (ra i) (m i) (fun k => .int .i64 (J i k))) := hJ
  have HM : Hid (∀ i, i < n → m i ≤ 1048576) := hmm
  clear hS hR hJ hmm
  go_enter Try.func10, Try.ntmps10
  go_wp2_with fail
  go_loopw [5, 6] (fun v i wr => ∃ k : Nat, k ≤ n ∧ i = .int .i64 k ∧ Own wr w.heap.size 3 v ((selIx (isP S) m k).map (ixI J)) ∧ Below w.heap.size w wr) (fun _ i _ => (1048577 - intOf i).toNat)
  case atStart => exact ⟨0, Nat.zero_le _, rfl, Own.nil _ _ _, Below.refl _ _⟩
  case round =>
    obtain ⟨k, hk, rfl, hO, hB⟩ := hrel
    have HO : Hid (Own wr w.heap.size 3 u5 ((selIx (isP S) m k).map (ixI J))) := hO
    have HB : Hid (Below w.heap.size w wr) := hB
    clear hO hB
    by_cases hlt : k < n
    · rcases HR.out with h0 | ⟨b, off, rfl, hb, hr⟩
      · omega
      rcases HS.out with h0 | ⟨b', off', rfl, hb', hr'⟩
      · omega
      have Ck : Hid (w.cell? ⟨b, off + k, none⟩ = some (.slice (ra k) (m k) (rc k))) := hr k hlt
      have sk : wr.cell? ⟨b', off' + k, none⟩ = some (.string (S k)) := (HB.out.cell (by exact hb')).trans (hr' k hlt)
      have hmk := HM.out k hlt
      clear hr hr'
      by_cases hu : (S k).toList = [80, 82, 73, 77, 65, 82, 89, 32, 75, 69, 89]
      · have hlen := selIx_len (P := isP S) (n := k) HM.out (by omega)
        go_wp2_with fail
        go_loopw [5, 7] (fun v i wr => ∃ l : Nat, l ≤ m k ∧ i = .int .i64 l ∧ Own wr w.heap.size 3 v ((selIx (isP S) m k ++ rowIx k l).map (ixI J)) ∧ Below w.heap.size w wr) (fun _ i _ => (1048577 - intOf i).toNat)
        case atStart => exact ⟨0, Nat.zero_le _, rfl, by rw [rowIx, List.append_nil]; exact HO.out, HB.out⟩
        case round =>
          clear HO HB sk
          obtain ⟨l, hl, rfl, hO, hB⟩ := hrel
          have HO : Hid (Own wr w.heap.size 3 u5 ((selIx (isP S) m k ++ rowIx k l).map (ixI J))) := hO
          have HB : Hid (Below w.heap.size w wr) := hB
          clear hO hB
          have ck : wr.cell? ⟨b, off + k, none⟩ = some (.slice (ra k) (m k) (rc k)) := (HB.out.cell (by exact hb)).trans Ck.out
          by_cases hll : l < m k
          · rcases HJ.out k hlt with h0 | ⟨b2, off2, e2, hb2, hr2⟩
            · omega
            rw [e2] at ck
            have jk : wr.cell? ⟨b2, off2 + l, none⟩ = some (.int .i64 (J k l)) := (HB.out.cell (by exact hb2)).trans (hr2 l hll)
            clear hr2
            have hsz := HB.out.size
            have hL : ((selIx (isP S) m k ++ rowIx k l).map (ixI J)).length ≤ 1099511627776 := by
              rw [List.length_map, List.length_append, rowIx_len]
              have : k * 1048576 ≤ 1048575 * 1048576 := Nat.mul_le_mul_right _ (by omega)
              omega
            have hxs : (selIx (isP S) m k ++ rowIx k (l + 1)).map (ixI J) = (selIx (isP S) m k ++ rowIx k l).map (ixI J) ++ [.int .i64 (J k l)] := by
              rw [rowIx, ← List.append_assoc, List.map_append]
              rfl
            have HX : Hid ((selIx (isP S) m k ++ rowIx k (l + 1)).map (ixI J) = (selIx (isP S) m k ++ rowIx k l).map (ixI J) ++ [.int .i64 (J k l)]) := hxs
            clear hxs
            generalize (selIx (isP S) m k ++ rowIx k l).map (ixI J) = xs at *
            go_wp2_with (at_builtin; refine wpList_append_lies _ (by rfl) _ _ _ (by rfl) w.heap.size 3 i0 _ 1 8 Try.underlying27 hi0 hz0 hz1 hz2 rfl (by omega) u5 _ _ (by rfl) (HO.out.alloc _) ⟨wr.heap.size, 0, none⟩ 1 1 [.int .i64 (J k l)] (by rfl) (by rfl) (World.news_of_block (cs := #[.int .i64 (J k l)]) (t := 3) (fr := (0, 0)) (heap_alloc_new wr _)) (by simp [Value.oneCell']) (by omega) (by unfold maxLen; omega) (by omega) (by simp; omega) (wr.heap.size + 1) (by simp) ?_; intro g cap' w1 hown hgrow _ _; have hp := own_pushed HO.out HB.out (Nat.le_refl _) rfl hown hgrow; have HP : Hid (Own w1 w.heap.size 3 (.slice (some ⟨g, 0, none⟩) (xs.length + 1) cap') (xs ++ [.int .i64 (J k l)]) ∧ Below w.heap.size w w1) := hp; clear hp hown hgrow)
            refine ⟨⟨l + 1, by omega, by go_num, ?_, HP.out.2⟩, meas hll hmk⟩
            rw [HX.out]
            exact HP.out.1
          · obtain rfl : l = m k := by omega
            go_wp2
            refine ⟨⟨k + 1, by omega, by go_num, ?_, HB.out⟩, meas hlt h3⟩
            rw [selIx, show isP S k = true from decide_eq_true hu]
            exact HO.out
      · have hu' : ((S k).toList == [80, 82, 73, 77, 65, 82, 89, 32, 75, 69, 89]) = false := by simpa using hu
        go_wp2
        refine ⟨⟨k + 1, by omega, by go_num, ?_, HB.out⟩, meas hlt h3⟩
        rw [selIx, show isP S k = false from decide_eq_false hu, cond_false, List.append_nil]
        exact HO.out
    · obtain rfl : k = n := by omega
      go_wp2
      go_ret
      exact ⟨⟨_, rfl, HO.out⟩, HB.out⟩
end Go.Proofs.Qxb6613626a
