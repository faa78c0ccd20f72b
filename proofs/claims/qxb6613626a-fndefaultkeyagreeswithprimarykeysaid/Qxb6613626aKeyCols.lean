/-
  keyColumns, slices.Index, slices.Contains, inPrimaryKey, the two readers.
-/
import Derived.Test.Qxb6613626aNew
import Derived.LaidEqlPtr
import Derived.Lib.Builder
namespace Go.Proofs.Qxb6613626a
open Go.ChangeShapes Go.WideShapes Go.ChangeAt Go.RowKit Go.Maps

theorem run_append_nothing {P : Program} (w : World) (t ty e : TypeId) (i : TypeInfo) (ht : P.underlying t = some (.slice e)) (hi : P.info? e = some i) (base : Option Addr) (sLen sCap : Nat) (h : sLen ≤ sCap) (xa : Option Addr) (c : Nat) :
    (Builtin.append_ #[t, t] ty #[.slice base sLen sCap, .slice xa 0 c]).run P w = .ok (.slice base sLen sCap) w := by
  cases xa with
  | none => cases base <;> simp [Builtin.append_, run_underlying ht, sizeOf, typeInfo, hi, Builtin.lenOf, h, Builtin.firstCells, storeCells]
  | some a =>
    have hf := run_firstCells_some (P := P) w i.size 0 a 0 c [] (by simp) (by simp)
    cases base <;> simp [Builtin.append_, run_underlying ht, sizeOf, typeInfo, hi, Builtin.lenOf, h, hf, storeCells]

theorem wpList_append_any {ops : Array Oper} {rest : List Oper} {o : Oper} {a : Act} {Q : Exit → Act → World → Prop} (w : World) (hgd : o.guard = none) (s x : Operand)
    (ho : o.op = .call { callee := .builtin .append, args := #[s, x], argTypes := #[32, 32] }) (B : Nat) (v : Value) (xs : List Value) (hs : a.eval s = v) (hO : Own w B 34 v xs) (hB : B ≤ w.heap.size)
    (xa : Option Addr) (mm xc : Nat) (ys : List Value) (hx : a.eval x = .slice xa mm xc) (hl : ys.length = mm) (hL : Lies w w.heap.size xa mm (fun j => ys.getD j undef)) (h1 : ∀ u ∈ ys, u.oneCell' = true)
    (hlen : xs.length + mm ≤ 8796093022208) (K : ∀ v' w', Own w' B 34 v' (xs ++ ys) → Below B w w' → wpList Try.prog ops Q rest (a.put o.dst v') w') : wpList Try.prog ops Q (o :: rest) a w := by
  obtain ⟨i0, hi0, hz0, hz1, hz2⟩ := info_parts info34
  have hob : ∀ j, v.ownBlock = some j → B ≤ j := fun j hj => (hO.block hj).1
  by_cases hm : mm = 0
  · subst hm
    obtain rfl : ys = [] := List.length_eq_zero_iff.1 hl
    obtain ⟨base, n, cap, hv, hn⟩ : ∃ base n cap, v = .slice base n cap ∧ n ≤ cap := by
      rcases hO.2 with ⟨e, _⟩ | ⟨g, cap1, cur, e, _, _, hc, _⟩
      · exact ⟨_, _, _, e, Nat.le_refl _⟩
      · exact ⟨_, _, _, e, hc⟩
    have hr := run_append_nothing (P := Try.prog) w 32 o.type 34 i0 Try.underlying32 hi0 base n cap hn xa xc
    refine wpList_plain hgd fun K' hK' => ?_
    unfold Oper.wp execOp
    simp only [ho, resolve, invoke, builtin, Sem.run_bind, Sem.run_pure, Result.andThen_ok, List.map_toArray, List.map_cons, List.map_nil, hs, hx, hv, hr]
    refine hK' _ _ ?_
    rw [← hv]
    exact K v w (by rw [List.append_nil]; exact hO) (Below.refl _ _)
  · rcases hL with h0 | ⟨b, off, rfl, hb, hr⟩
    · exact absurd h0 hm
    refine wpList_append_lies w hgd s x 32 ho B 34 i0 _ 1 8 Try.underlying32 hi0 hz0 hz1 hz2 rfl (by omega) v _ _ hs hO ⟨b, off, none⟩ mm xc ys hx (by omega) ?_ h1 (by omega) (by unfold maxLen; omega) (by omega) hB _ rfl ?_
    · intro j u hu
      rw [add_plain]
      have hj : j < ys.length := by
        rcases Nat.lt_or_ge j ys.length with h2 | h2
        · exact h2
        · rw [List.getElem?_eq_none h2] at hu; cases hu
      rw [hr j (by omega)]
      show some (ys.getD j undef) = some u
      rw [List.getD_eq_getElem?_getD, hu]
      rfl
    · intro g cap w' hown hgrow _ _
      refine K _ w' ?_ ((Below.refl B w).grown hgrow hB hob)
      unfold Own
      rw [List.length_append, hl]
      exact hown

theorem Tab.below {w w' : World} {tb : Nat} {part : Value} {cs : List Nat} {n2 : Nat} {S2 : Nat → ByteArray} {m : Nat → Nat} {J : Nat → Nat → Int} (h : Tab w tb part cs n2 S2 m J) (hb : Below w.heap.size w w') : Tab w' tb part cs n2 S2 m J := by
  obtain ⟨mb, ord, keys, ks, h1, h2, h3, h4, h6, h5⟩ := h
  refine ⟨mb, ord, keys, ks, h1.of_block (hb.block _ h1.lt), h2.below hb, h3.below hb, h4, h6.of (fun c ca hc => hb.block c (lt_of_heap hc)), fun j hj => ?_⟩
  obtain ⟨cv, hk⟩ := h5 j hj
  exact ⟨cv, hk.below hb⟩

theorem Tab.lt {w : World} {tb : Nat} {part : Value} {cs : List Nat} {n2 : Nat} {S2 : Nat → ByteArray} {m : Nat → Nat} {J : Nat → Nat → Int} (h : Tab w tb part cs n2 S2 m J) : tb < w.heap.size := by
  obtain ⟨mb, ord, keys, ks, h1, _⟩ := h
  exact h1.lt

/-- The partitioning is laid. -/
theorem Tab.part {w : World} {tb : Nat} {part : Value} {cs : List Nat} {n2 : Nat} {S2 : Nat → ByteArray} {m : Nat → Nat} {J : Nat → Nat → Int} (h : Tab w tb part cs n2 S2 m J) (u : Value) : Tab (w.setCell ⟨tb, 6, none⟩ u) tb u cs n2 S2 m J := by
  obtain ⟨mb, ord, keys, ks, h1, h2, h3, h4, h6, h5⟩ := h
  have hst : ∀ (b : Nat) (c : Array Value) (t : TypeId), w.heap[b]? = some (Obj.cells c t) → t ≠ 57 → (w.setCell ⟨tb, 6, none⟩ u).heap[b]? = w.heap[b]? := by
    intro b c t hb ht
    refine Below.heap_setCell w _ _ b ?_
    rintro rfl
    obtain ⟨c', hc', _⟩ := h1
    rw [hb] at hc'
    injection hc' with hc'
    injection hc' with _ e
    exact ht e
  have own : ∀ {B : Nat} {t : TypeId} {v : Value} {xs : List Value}, Own w B t v xs → t ≠ 57 → Own (w.setCell ⟨tb, 6, none⟩ u) B t v xs := by
    intro B t v xs h ht
    refine ⟨h.1, ?_⟩
    rcases h.2 with e | ⟨g, cap1, cur, e, hb, hh, hr⟩
    · exact .inl e
    · exact .inr ⟨g, cap1, cur, e, hb, (hst g cur t hh ht).trans hh, hr⟩
  refine ⟨mb, ord, keys, ks, set_part h1 u, own h2 (by decide), own h3 (by decide), h4, h6.of (fun c ca hc => hst c ca 61 hc (by decide)), fun j hj => ?_⟩
  obtain ⟨cv, hk⟩ := h5 j hj
  refine ⟨cv, ?_, own hk.own (by decide)⟩
  obtain ⟨c, hc, hr⟩ := hk.row
  exact ⟨c, (hst _ c 65 hc (by decide)).trans hc, hr⟩

set_option maxRecDepth 10000 in
set_option maxHeartbeats 1600000 in
theorem keycols35 (w : World) (tb : Nat) (part : Value) (cs : List Nat) (n2 : Nat) (S2 : Nat → ByteArray) (m : Nat → Nat) (J : Nat → Nat → Int) (hT : Tab w tb part cs n2 S2 m J) (h2 : n2 ≤ 1048576) (hmm : ∀ i, i < n2 → m i ≤ 1048576) :
    Calls Try.prog 35 #[ptr tb, .string ⟨#[80, 82, 73, 77, 65, 82, 89, 32, 75, 69, 89]⟩] w (fun e w' => (∃ v, e = .returned v ∧ Own w' w.heap.size 34 v ((selIx (isP S2) m n2).map (ixC cs J))) ∧ Below w.heap.size w w') := by
  have HM : Hid (∀ i, i < n2 → m i ≤ 1048576) := hmm
  clear hmm
  obtain ⟨mb, ord, keys, ks, h1, _, h3, h4, _, h5⟩ := hT
  obtain ⟨ka, kc, hk1, hk2⟩ := h3.form
  rw [List.length_map, h4] at hk1 hk2
  subst hk1
  have t2 : w.cell? ⟨tb, 2, none⟩ = some (.slice ka n2 kc) := h1.cell (i := 2) (by omega)
  have HL : Hid (Lies w w.heap.size ka n2 (fun i => (ks.map ptr).getD i undef)) := hk2
  have HE : Hid (∀ j, j < n2 → ∃ cv, KeyIs w (ks.getD j 0) (S2 j) cv ((rowIx j (m j)).map (ixC cs J))) := h5
  have HKS : Hid (ks.length = n2) := h4
  clear h1 h3 hk2 h4 h5
  go_enter Try.func35, Try.ntmps35
  go_wp2_with fail
  go_loopw [5, 13] (fun v i wr => ∃ k : Nat, k ≤ n2 ∧ i = .int .i64 k ∧ Own wr w.heap.size 34 v ((selIx (isP S2) m k).map (ixC cs J)) ∧ Below w.heap.size w wr) (fun _ i _ => (1048577 - intOf i).toNat)
  case atStart => exact ⟨0, Nat.zero_le _, rfl, Own.nil _ _ _, Below.refl _ _⟩
  case round =>
    obtain ⟨k, hk, rfl, hO, hB⟩ := hrel
    have HO : Hid (Own wr w.heap.size 34 u5 ((selIx (isP S2) m k).map (ixC cs J))) := hO
    have HB : Hid (Below w.heap.size w wr) := hB
    have hsz := hB.size
    clear hO hB
    by_cases hlt : k < n2
    · rcases HL.out with h0 | ⟨b, off, rfl, hb, hr⟩
      · omega
      have kk : wr.cell? ⟨b, off + k, none⟩ = some (ptr (ks.getD k 0)) := by
        refine (HB.out.cell (by exact hb)).trans ((hr k hlt).trans ?_)
        simp [List.getD_eq_getElem?_getD, HKS.out, hlt]
      clear hr
      obtain ⟨cv, hK⟩ := HE.out k hlt
      have hK' := hK.below (w' := wr) HB.out
      clear hK
      have s1 : wr.cell? ⟨ks.getD k 0, 1, none⟩ = some (.string (S2 k)) := hK'.row.cell (i := 1) (by omega)
      have s2 : wr.cell? ⟨ks.getD k 0, 2, none⟩ = some cv := hK'.row.cell (i := 2) (by omega)
      obtain ⟨ca, cc, ec, hLc⟩ := hK'.own.form
      have hyl : ((rowIx k (m k)).map (ixC cs J)).length = m k := by rw [List.length_map, rowIx_len]
      rw [hyl] at ec hLc
      subst ec
      have HLc := Hid.intro hLc
      clear hLc hK'
      have hmk := HM.out k hlt
      have hlen := selIx_len (P := isP S2) (n := k) HM.out (by omega)
      have hxl : ((selIx (isP S2) m k).map (ixC cs J)).length + m k ≤ 8796093022208 := by
        rw [List.length_map]
        have : k * 1048576 ≤ 1048575 * 1048576 := Nat.mul_le_mul_right _ (by omega)
        omega
      generalize ks.getD k 0 = kb at *
      by_cases hu : (S2 k).toList = [80, 82, 73, 77, 65, 82, 89, 32, 75, 69, 89]
      · have hu' : ((S2 k).toList == [80, 82, 73, 77, 65, 82, 89, 32, 75, 69, 89]) = true := by simpa using hu
        go_wp2_with (at_builtin
                     refine wpList_append_any wr (by rfl) _ _ (by rfl) w.heap.size u5 _ (by rfl) HO.out hsz ca (m k) cc _ (by rfl) hyl HLc.out ?_ hxl ?_)
        · intro u hu
          obtain ⟨p, _, rfl⟩ := List.mem_map.1 hu
          rfl
        intro v' w1 hO1 hB1
        have HO1 := Hid.intro hO1
        have HB1 := Hid.intro (HB.out.trans hB1)
        clear hO1 hB1
        go_wp2
        refine ⟨⟨k + 1, by omega, by go_num, ?_, HB1.out⟩, meas hlt h2⟩
        rw [selIx, show isP S2 k = true from decide_eq_true hu, cond_true, List.map_append]
        exact HO1.out
      · have hu' : ((S2 k).toList == [80, 82, 73, 77, 65, 82, 89, 32, 75, 69, 89]) = false := by simpa using hu
        go_wp2
        refine ⟨⟨k + 1, by omega, by go_num, ?_, HB.out⟩, meas hlt h2⟩
        rw [selIx, show isP S2 k = false from decide_eq_false hu, cond_false, List.append_nil]
        exact HO.out
    · have ek : k = n2 := by omega
      subst k
      go_wp2
      go_ret
      exact ⟨⟨_, rfl, HO.out⟩, HB.out⟩

theorem info61 : (Try.prog.info? 61).map (·.size) = some 13 := by kernel_rfl
theorem eql34 (w : World) {p q : Nat} (hp : ∃ ca, w.heap[p]? = some (Obj.cells ca 61)) (hq : ∃ ca, w.heap[q]? = some (Obj.cells ca 61)) :
    (binOp .eql 34 (ptr p) (ptr q)).run Try.prog w = .ok (.bool (decide (p = q))) w := by
  obtain ⟨j, hj, hjs⟩ := Option.map_eq_some_iff.1 info61
  obtain ⟨ca, hca⟩ := hp
  obtain ⟨cb, hcb⟩ := hq
  by_cases h : p = q
  · subst h
    simpa using run_eql_ptr_same (P := Try.prog) w ⟨p, 0, none⟩ Try.underlying34 hj
  · rw [decide_eq_false h]
    exact run_eql_ptr_other (P := Try.prog) w (a := ⟨p, 0, none⟩) (b := ⟨q, 0, none⟩) Try.underlying34 hj (by rw [hjs]; decide) (by intro e; injection e with e; exact h e) hca hcb

def Ret39 (C : Nat → Nat) (n p : Nat) (e : Ending) : Prop := ∃ x : Int, e = .returned (.int .i64 x) ∧ (0 ≤ x ↔ ∃ i, i < n ∧ C i = p)
def RetHas (C : Nat → Nat) (n p : Nat) (e : Ending) : Prop := ∃ b, e = .returned (.bool b) ∧ (b = true ↔ ∃ i, i < n ∧ C i = p)

set_option maxRecDepth 10000 in
theorem index39 (w : World) (B : Nat) (a : Option Addr) (n c : Nat) (C : Nat → Nat) (p : Nat) (hL : Lies w B a n (fun i => ptr (C i))) (hn : n ≤ 8796093022208)
    (hb : ∀ i, i < n → ∃ ca, w.heap[C i]? = some (Obj.cells ca 61)) (hp : ∃ ca, w.heap[p]? = some (Obj.cells ca 61)) :
    Calls Try.prog 39 #[.slice a n c, ptr p] w (fun e w' => Ret39 C n p e ∧ w' = w) := by
  have HL : Hid (Lies w B a n (fun i => ptr (C i))) := hL
  have HQ : Hid (∀ i, i < n → (binOp .eql 34 (ptr p) (ptr (C i))).run Try.prog w = .ok (.bool (decide (p = C i))) w) := fun i hi => eql34 w hp (hb i hi)
  clear hL hb hp
  go_enter Try.func39, Try.ntmps39
  go_wp2_with fail
  go_loop [8] (fun i => ∃ k : Nat, k ≤ n ∧ i = .int .i64 k ∧ ∀ j, j < k → C j ≠ p) (fun i => (8796093022209 - intOf i).toNat)
  case atStart => exact ⟨0, Nat.zero_le _, rfl, fun j hj => by omega⟩
  case round =>
    obtain ⟨k, hk, rfl, hd⟩ := hrel
    have HD : Hid (∀ j, j < k → C j ≠ p) := hd
    clear hd
    by_cases hlt : k < n
    · rcases HL.out with h0 | ⟨b, off, rfl, hb, hr⟩
      · omega
      have ck : w.cell? ⟨b, off + k, none⟩ = some (ptr (C k)) := hr k hlt
      clear hr
      have hq := HQ.out k hlt
      by_cases he : C k = p
      · rw [decide_eq_true he.symm, he] at hq
        go_wp2
        go_ret
        exact ⟨⟨k, rfl, fun _ => ⟨k, hlt, he⟩, fun _ => by omega⟩, rfl⟩
      · rw [decide_eq_false (Ne.symm he)] at hq
        go_wp2
        refine ⟨⟨k + 1, by omega, by go_num, fun j hj => ?_⟩, by simp [intOf]; omega⟩
        rcases Nat.lt_or_ge j k with h4 | h4
        · exact HD.out j h4
        · obtain rfl : j = k := by omega
          exact he
    · go_wp2
      go_ret
      exact ⟨⟨-1, rfl, by omega, fun ⟨i, hi, hp⟩ => absurd hp (HD.out i (by omega))⟩, rfl⟩

theorem has38 (w : World) (B : Nat) (a : Option Addr) (n c : Nat) (C : Nat → Nat) (p : Nat) (hL : Lies w B a n (fun i => ptr (C i))) (hn : n ≤ 8796093022208)
    (hb : ∀ i, i < n → ∃ ca, w.heap[C i]? = some (Obj.cells ca 61)) (hp : ∃ ca, w.heap[p]? = some (Obj.cells ca 61)) :
    Calls Try.prog 38 #[.slice a n c, ptr p] w (fun e w' => RetHas C n p e ∧ w' = w) := by
  have H : Hid (Calls Try.prog 39 #[.slice a n c, ptr p] w (fun e w' => Ret39 C n p e ∧ w' = w)) := index39 w B a n c C p hL hn hb hp
  clear hL hb hp
  go_enter Try.func38, Try.ntmps38
  go_wp2_with (go_at_call 39; refine (H.out).mono ?_; rintro e w' ⟨⟨x, rfl, hx⟩, rfl⟩; have HX := Hid.intro hx; clear hx)
  go_ret
  exact ⟨⟨_, rfl, by rw [← HX.out]; simp⟩, rfl⟩

/-- The block at an entry of the keys. -/
def ixB (cs : List Nat) (J : Nat → Nat → Int) (p : Nat × Nat) : Nat := cs.getD (J p.1 p.2).toNat 0
theorem ixC_eq (cs : List Nat) (J : Nat → Nat → Int) (p : Nat × Nat) : ixC cs J p = ptr (ixB cs J p) := rfl

/-- A list of pointers as a row. -/
theorem Own.ptrs {w : World} {B : Nat} {v : Value} {L : List (Nat × Nat)} {cs : List Nat} {J : Nat → Nat → Int} (h : Own w B 34 v (L.map (ixC cs J))) :
    ∃ ao cap, v = .slice ao L.length cap ∧ Lies w w.heap.size ao L.length (fun i => ptr (ixB cs J (L.getD i (0, 0)))) := by
  obtain ⟨ao, cap, e, hL⟩ := h.form
  rw [List.length_map] at e hL
  refine ⟨ao, cap, e, ?_⟩
  rcases hL with h0 | ⟨b, off, ea, hb, hr⟩
  · exact .inl h0
  · refine .inr ⟨b, off, ea, hb, fun i hi => ?_⟩
    rw [hr i hi]
    simp [List.getD_eq_getElem?_getD, List.getElem?_eq_getElem hi, ixC, ixB]

/-- What the entries of the keys lead to are columns of the table. -/
theorem ix_in {cs : List Nat} {n1 n2 : Nat} {m : Nat → Nat} {J : Nat → Nat → Int} {P : Nat → Bool} (hcs : cs.length = n1) (hin : ∀ i, i < n2 → ∀ k, k < m i → 0 ≤ J i k ∧ J i k < n1) {i : Nat}
    (hi : i < (selIx P m n2).length) : ixB cs J ((selIx P m n2).getD i (0, 0)) ∈ cs := by
  have hmem : (selIx P m n2).getD i (0, 0) ∈ selIx P m n2 := by
    rw [List.getD_eq_getElem?_getD, List.getElem?_eq_getElem hi]
    exact List.getElem_mem hi
  obtain ⟨h1, h2, _⟩ := selIx_mem hmem
  obtain ⟨h3, h4⟩ := hin _ h1 _ h2
  unfold ixB
  rw [List.getD_eq_getElem?_getD, List.getElem?_eq_getElem (by omega)]
  exact List.getElem_mem _

/-- inPrimaryKey, of a column. -/
def RetIn (cs : List Nat) (J : Nat → Nat → Int) (L : List (Nat × Nat)) (p : Nat) (e : Ending) : Prop := RetHas (fun i => ixB cs J (L.getD i (0, 0))) L.length p e

set_option maxRecDepth 10000 in
theorem inpk29 (w : World) (tb : Nat) (part : Value) (cs : List Nat) (n1 n2 : Nat) (S2 : Nat → ByteArray) (m : Nat → Nat) (J : Nat → Nat → Int) (p : Nat) (hT : Tab w tb part cs n2 S2 m J) (h2 : n2 ≤ 1048576) (hmm : ∀ i, i < n2 → m i ≤ 1048576)
    (hcs : cs.length = n1) (hin : ∀ i, i < n2 → ∀ k, k < m i → 0 ≤ J i k ∧ J i k < n1) (hp : p ∈ cs) :
    Calls Try.prog 29 #[ptr tb, ptr p] w (fun e w' => RetIn cs J (selIx (isP S2) m n2) p e ∧ Below w.heap.size w w') := by
  have H := keycols35 w tb part cs n2 S2 m J hT h2 hmm
  have H' : Hid (Calls Try.prog 35 #[ptr tb, .string ⟨#[80, 82, 73, 77, 65, 82, 89, 32, 75, 69, 89]⟩] w (fun e w' => (∃ v, e = .returned v ∧ Own w' w.heap.size 34 v ((selIx (isP S2) m n2).map (ixC cs J))) ∧ Below w.heap.size w w')) := H
  have HBlk : Hid (∀ w', Below w.heap.size w w' → Blk w' cs) := by
    intro w' hb
    obtain ⟨mb, ord, keys, ks, _, _, _, _, h6, _⟩ := hT.below hb
    exact h6
  have hlen := selIx_len (P := isP S2) (n := n2) hmm (Nat.le_refl _)
  have hlen' : (selIx (isP S2) m n2).length ≤ 8796093022208 := by
    have : n2 * 1048576 ≤ 1048576 * 1048576 := Nat.mul_le_mul_right _ h2
    omega
  have HI : Hid (∀ i, i < (selIx (isP S2) m n2).length → ixB cs J ((selIx (isP S2) m n2).getD i (0, 0)) ∈ cs) := fun i hi => ix_in hcs hin hi
  clear H hT hlen hmm hin
  go_enter Try.func29, Try.ntmps29
  go_wp2_with (first
    | (go_at_call 35
       refine (H'.out).mono ?_
       rintro e w1 ⟨⟨v, rfl, hO⟩, hB⟩
       obtain ⟨ao, cap, rfl, hL⟩ := hO.ptrs
       have HB := Hid.intro hB
       have HLs := Hid.intro hL
       clear hO hB hL)
    | (go_at_call 38
       refine (has38 w1 w1.heap.size ao _ cap _ p HLs.out hlen' (fun i hi => HBlk.out w1 HB.out _ (HI.out i hi)) (HBlk.out w1 HB.out p hp)).mono ?_
       rintro e w2 ⟨⟨b, rfl, hb⟩, rfl⟩
       have HX := Hid.intro hb
       clear hb))
  go_ret
  exact ⟨⟨_, rfl, HX.out⟩, HB.out⟩

theorem inpk16 (w : World) (tb : Nat) (part : Value) (cs : List Nat) (n1 n2 : Nat) (S2 : Nat → ByteArray) (m : Nat → Nat) (J : Nat → Nat → Int) (p : Nat) (hT : Tab w tb part cs n2 S2 m J) (h2 : n2 ≤ 1048576) (hmm : ∀ i, i < n2 → m i ≤ 1048576)
    (hcs : cs.length = n1) (hin : ∀ i, i < n2 → ∀ k, k < m i → 0 ≤ J i k ∧ J i k < n1) (hp : p ∈ cs) :
    Calls Try.prog 16 #[ptr tb, ptr p] w (fun e w' => RetIn cs J (selIx (isP S2) m n2) p e ∧ Below w.heap.size w w') := by
  have H : Hid (Calls Try.prog 29 #[ptr tb, ptr p] w (fun e w' => RetIn cs J (selIx (isP S2) m n2) p e ∧ Below w.heap.size w w')) := inpk29 w tb part cs n1 n2 S2 m J p hT h2 hmm hcs hin hp
  clear hT hmm hin
  go_enter Try.func16, Try.ntmps16
  go_wp2_with (go_at_call 29
               refine (H.out).mono ?_
               rintro e w2 ⟨⟨b, rfl, hb⟩, hB⟩
               have HX := Hid.intro hb
               have HB := Hid.intro hB
               clear hb hB)
  go_ret
  exact ⟨⟨_, rfl, HX.out⟩, HB.out⟩

theorem order14 (w : World) (tb mb : Nat) (ord keys part : Value) (h : w.rowIs tb 57 9 (tst mb ord keys part)) : Calls Try.prog 14 #[ptr tb] w (fun e w' => e = .returned ord ∧ w' = w) := by
  have c1 : w.cell? ⟨tb, 1, none⟩ = some ord := h.cell (i := 1) (by omega)
  clear h
  go_enter Try.func14, Try.ntmps14
  go_wp2
  go_ret
  exact ⟨rfl, rfl⟩
theorem part15 (w : World) (tb mb : Nat) (ord keys part : Value) (h : w.rowIs tb 57 9 (tst mb ord keys part)) : Calls Try.prog 15 #[ptr tb] w (fun e w' => e = .returned part ∧ w' = w) := by
  have c1 : w.cell? ⟨tb, 6, none⟩ = some part := h.cell (i := 6) (by omega)
  clear h
  go_enter Try.func15, Try.ntmps15
  go_wp2
  go_ret
  exact ⟨rfl, rfl⟩
end Go.Proofs.Qxb6613626a
