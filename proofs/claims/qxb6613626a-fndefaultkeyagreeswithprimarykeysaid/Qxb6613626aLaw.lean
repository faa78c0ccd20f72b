/-
  The law's walk.
-/
import Derived.Test.Qxb6613626aPart2
import Derived.Deep.CutRange
import Derived.Laws.CopyOwn
import Derived.WalkSpells
import Derived.Lib.SliceRun
namespace Go.Proofs.Qxb6613626a
open Go.ChangeShapes Go.WideShapes Go.ChangeAt Go.RowKit Go.Maps

theorem info9 : (Try.prog.info? 9).map (fun i => (i.zero, i.size, i.bytes)) = some (some (.string ⟨#[]⟩), 1, 16) := by kernel_rfl
theorem info9s : (Try.prog.info? 9).map (·.size) = some 1 := by kernel_rfl

def strsOf (S : Nat → ByteArray) (n : Nat) : List Value := (List.range n).map (fun i => .string (S i))
theorem strsOf_len (S : Nat → ByteArray) (n : Nat) : (strsOf S n).length = n := by simp [strsOf]
theorem strsOf_get (S : Nat → ByteArray) {n i : Nat} (h : i < n) : (strsOf S n)[i]? = some (.string (S i)) := by simp [strsOf, h]
theorem strsOf_one (S : Nat → ByteArray) (n : Nat) : ∀ v ∈ strsOf S n, v.oneCell' = true := by
  intro v hv
  obtain ⟨i, _, rfl⟩ := List.mem_map.1 hv
  rfl

/-- What a copy is made of. -/
theorem strs_src {w : World} {a : Option Addr} {n B : Nat} {S : Nat → ByteArray} (h : Lies w B a n (fun i => .string (S i))) (hB : B ≤ w.heap.size) (o : Obj) :
    0 < (strsOf S n).length → ∃ ad, a = some ad ∧ ∀ (j : Nat) (v : Value), (strsOf S n)[j]? = some v → (w.alloc o).cell? (ad.add j) = some v := by
  intro hp
  rw [strsOf_len] at hp
  rcases h with h0 | ⟨b, off, rfl, hb, hr⟩
  · omega
  · refine ⟨_, rfl, fun j v hv => ?_⟩
    have hj : j < n := by
      rcases Nat.lt_or_ge j n with h1 | h1
      · exact h1
      · rw [List.getElem?_eq_none (by rw [strsOf_len]; exact h1)] at hv; cases hv
    rw [strsOf_get S hj] at hv
    rw [add_plain]
    exact (World.cell?_of_block (w := w) (Below.heap_alloc w o b (by omega))).trans ((hr j hj).trans hv)

theorem strs_copied {w : World} {g n : Nat} {S : Nat → ByteArray} {cur : List Value} {t : TypeId} (h : w.heap[g]? = some (.cells (splice cur 0 (strsOf S n)).toArray t (0, 0))) :
    Lies w w.heap.size (some ⟨g, 0, none⟩) n (fun i => .string (S i)) := by
  refine .inr ⟨g, 0, rfl, lt_of_heap h, fun i hi => ?_⟩
  rw [cell_of_row w g (0 + i) _ t _ h]
  have e : (splice cur 0 (strsOf S n))[i]? = some (.string (S i)) := by
    unfold splice
    rw [List.take_zero, List.nil_append, List.getElem?_append_left (by rw [strsOf_len]; exact hi)]
    exact strsOf_get S hi
  simpa using e

/-- The column index at an entry of the keys. -/
def ixJ (J : Nat → Nat → Int) (p : Nat × Nat) : Int := J p.1 p.2

theorem want_row {V : World} {B i n : Nat} {a : Option Addr} {J : Nat → Nat → Int} (h : Lies V B a n (fun k => .int .i64 (J i k))) : Lies V B a n (fun k => .int .i64 (ixJ J ((rowIx i n).getD k (0, 0)))) := by
  rcases h with h0 | ⟨b, off, ea, hb, hr⟩
  · exact .inl h0
  · refine .inr ⟨b, off, ea, hb, fun k hk => ?_⟩
    rw [hr k hk]
    show some (Value.int .i64 (J i k)) = some (Value.int .i64 (ixJ J ((rowIx i n).getD k (0, 0))))
    rw [List.getD_eq_getElem?_getD, rowIx_get hk]
    rfl
theorem want_pk {V : World} {B : Nat} {v : Value} {L : List (Nat × Nat)} {J : Nat → Nat → Int} (h : Own V B 3 v (L.map (ixI J))) :
    ∃ a c, v = .slice a L.length c ∧ Lies V V.heap.size a L.length (fun k => .int .i64 (ixJ J (L.getD k (0, 0)))) := by
  obtain ⟨ao, cap, e, hL⟩ := h.form
  rw [List.length_map] at e hL
  refine ⟨ao, cap, e, ?_⟩
  rcases hL with h0 | ⟨b, off, ea, hb, hr⟩
  · exact .inl h0
  · refine .inr ⟨b, off, ea, hb, fun i hi => ?_⟩
    rw [hr i hi]
    simp [List.getD_eq_getElem?_getD, List.getElem?_eq_getElem hi, ixI, ixJ]

/-- What the first unique key that names a column hands over. -/
theorem want_unique {V : World} {B n2 : Nat} {S2 : Nat → ByteArray} {ra : Nat → Option Addr} {m rc : Nat → Nat} {J : Nat → Nat → Int} {r : Option Nat} (hr : First (Uq S2 m) n2 r)
    (hJ : ∀ i, i < n2 → Lies V B (ra i) (m i) (fun k => .int .i64 (J i k))) (h0 : (selIx (isP S2) m n2).length = 0) :
    ∃ a c, rowAt ra m rc r = .slice a (gotIx S2 m n2 r).length c ∧ Lies V B a (gotIx S2 m n2 r).length (fun k => .int .i64 (ixJ J ((gotIx S2 m n2 r).getD k (0, 0)))) := by
  cases r with
  | none =>
    have hG : gotIx S2 m n2 none = [] := if_pos h0
    exact ⟨none, 0, by rw [hG]; rfl, by rw [hG]; exact .inl rfl⟩
  | some i =>
    have hG : gotIx S2 m n2 (some i) = rowIx i (m i) := if_pos h0
    have hi : i < n2 := by
      rcases hr with ⟨j, e, hj, _⟩ | ⟨e, _⟩
      · injection e with e
        omega
      · cases e
    refine ⟨ra i, rc i, ?_, ?_⟩
    · rw [hG, rowIx_len]
      rfl
    · rw [hG, rowIx_len]
      exact want_row (hJ i hi)

theorem gotIx_len {S2 : Nat → ByteArray} {m : Nat → Nat} {n2 : Nat} {r : Option Nat} (hr : First (Uq S2 m) n2 r) (hmm : ∀ i, i < n2 → m i ≤ 1048576) (hl : (selIx (isP S2) m n2).length ≤ 1099511627776) :
    (gotIx S2 m n2 r).length ≤ 1099511627776 := by
  unfold gotIx
  split
  · cases r with
    | none => exact Nat.zero_le _
    | some i =>
      have hi : i < n2 := by
        rcases hr with ⟨j, e, hj, _⟩ | ⟨e, _⟩
        · injection e with e
          omega
        · cases e
      have := hmm i hi
      show (rowIx i (m i)).length ≤ _
      rw [rowIx_len]
      omega
  · exact hl

/-- Each entry that is taken is an entry of the keys. -/
theorem gotIx_in {S2 : Nat → ByteArray} {m : Nat → Nat} {n1 n2 : Nat} {J : Nat → Nat → Int} {r : Option Nat} (hr : First (Uq S2 m) n2 r) (hin : ∀ i, i < n2 → ∀ k, k < m i → 0 ≤ J i k ∧ J i k < n1) {k : Nat}
    (hk : k < (gotIx S2 m n2 r).length) : 0 ≤ ixJ J ((gotIx S2 m n2 r).getD k (0, 0)) ∧ ixJ J ((gotIx S2 m n2 r).getD k (0, 0)) < n1 := by
  have hmem : (gotIx S2 m n2 r).getD k (0, 0) ∈ gotIx S2 m n2 r := by
    rw [List.getD_eq_getElem?_getD, List.getElem?_eq_getElem hk]
    exact List.getElem_mem hk
  have key : ∀ p, p ∈ gotIx S2 m n2 r → p.1 < n2 ∧ p.2 < m p.1 := by
    intro p hp
    unfold gotIx at hp
    split at hp
    · cases r with
      | none => cases hp
      | some i =>
        have hi : i < n2 := by
          rcases hr with ⟨j, e, hj, _⟩ | ⟨e, _⟩
          · injection e with e
            omega
          · cases e
        obtain ⟨e1, e2⟩ := rowIx_mem hp
        rw [e1]
        exact ⟨hi, e2⟩
    · have := selIx_mem hp
      exact ⟨this.1, this.2.1⟩
  obtain ⟨h1, h2⟩ := key _ hmem
  exact hin _ h1 _ h2

theorem gotIx_mem {S2 : Nat → ByteArray} {m : Nat → Nat} {n1 n2 : Nat} {J : Nat → Nat → Int} {r : Option Nat} {cs : List Nat} (hcs : cs.length = n1) (hr : First (Uq S2 m) n2 r) (hin : ∀ i, i < n2 → ∀ k, k < m i → 0 ≤ J i k ∧ J i k < n1) {k : Nat}
    (hk : k < (gotIx S2 m n2 r).length) : ixB cs J ((gotIx S2 m n2 r).getD k (0, 0)) ∈ cs := by
  obtain ⟨h1, h2⟩ := gotIx_in hr hin hk
  show cs.getD (ixJ J ((gotIx S2 m n2 r).getD k (0, 0))).toNat 0 ∈ cs
  rw [List.getD_eq_getElem?_getD, List.getElem?_eq_getElem (by omega)]
  exact List.getElem_mem _

theorem in_iff {S2 : Nat → ByteArray} {m : Nat → Nat} {n2 : Nat} {J : Nat → Nat → Int} {r : Option Nat} {cs : List Nat} {p : Nat} {b : Bool}
    (h : b = true ↔ ∃ i, i < (selIx (isP S2) m n2).length ∧ ixB cs J ((selIx (isP S2) m n2).getD i (0, 0)) = p) :
    b = true ↔ 0 < (selIx (isP S2) m n2).length ∧ ∃ i, i < (gotIx S2 m n2 r).length ∧ ixB cs J ((gotIx S2 m n2 r).getD i (0, 0)) = p := by
  rw [h]
  by_cases h0 : (selIx (isP S2) m n2).length = 0
  · constructor
    · rintro ⟨i, hi, _⟩
      omega
    · rintro ⟨hi, _⟩
      omega
  · have hG : gotIx S2 m n2 r = selIx (isP S2) m n2 := if_neg h0
    rw [hG]
    exact ⟨fun h => ⟨by omega, h⟩, fun h => h.2⟩

theorem meas2 {n k : Nat} (h : k < n) (hn : n ≤ 1099511627776) : (1099511627777 - intOf (.int .i64 ((k : Int) + 1))).toNat < (1099511627777 - intOf (.int .i64 (k : Int))).toNat := by
  simp [intOf]; omega

set_option maxRecDepth 100000 in
set_option maxHeartbeats 3200000 in
theorem law3 (w : World) (a1 a2 a3 : Option Addr) (n1 c1 n2 c2 n3 c3 : Nat) (S1 S2 : Nat → ByteArray) (ra : Nat → Option Addr) (m rc : Nat → Nat) (J : Nat → Nat → Int)
    (hS1 : Lies w w.heap.size a1 n1 (fun i => .string (S1 i))) (hS2 : Lies w w.heap.size a2 n2 (fun i => .string (S2 i))) (hR : Lies w w.heap.size a3 n3 (fun i => .slice (ra i) (m i) (rc i)))
    (hJ : ∀ i, i < n3 → Lies w w.heap.size (ra i) (m i) (fun k => .int .i64 (J i k))) (h1 : n1 ≤ maxLen) (h2 : n2 ≤ maxLen) (h3 : n3 ≤ maxLen) (hmx : ∀ i, i < n3 → m i ≤ maxLen)
    (hs1 : ∀ i, i < n1 → (S1 i).size ≤ maxLen) :
    Calls Try.prog 3 #[.slice a1 n1 c1, .slice a2 n2 c2, .slice a3 n3 c3] w (fun e w' => e = .returned (.bool true) ∧ Below w.heap.size w w') := by
  have q22 : ∀ (w : World) (a : Option Addr) (n c n' c' : Nat), (binOp .neq 22 (.slice a n c) (.slice none n' c')).run Try.prog w = .ok (.bool (!a.isNone)) w := fun w a n c n' c' => run_neq_slice_nil_any w _ _ a n c n' c' Try.underlying22
  have HS1 := Hid.intro hS1
  have HS2 := Hid.intro hS2
  have HR := Hid.intro hR
  have HJ := Hid.intro hJ
  have HMX := Hid.intro hmx
  have HZ := Hid.intro hs1
  clear hS1 hS2 hR hJ hmx hs1
  go_enter Try.func3, Try.ntmps3
  go_upto_if 26 with (go_at_call 6
                      refine (bytes6 a1 a2 a3 n1 c1 n2 c2 n3 c3 S1 S2 ra m rc w.heap.size w HS1.out HS2.out HR.out h1 h2 h3).mono ?_
                      rintro e W ⟨⟨b, rfl, hb⟩, ew⟩
                      subst W
                      have HBy : Hid (∃ c : Bool, c = b ∧ (c = true → n1 ≤ 1048576 ∧ n2 ≤ 1048576 ∧ n3 ≤ 1048576)) := ⟨b, rfl, hb⟩
                      clear hb
                      rcases b with _ | _)
  · go_ret
    exact ⟨rfl, Below.refl _ _⟩
  obtain ⟨c, ec, hby⟩ := HBy.out
  subst ec
  obtain ⟨g1, g2, g3⟩ := hby rfl
  clear HBy hby h1 h2 h3
  go_cut [0, 7] from 27 to 33 (fun s _ wx => ∃ a c, s = .slice a n1 c ∧ Hid (Lies wx wx.heap.size a n1 (fun i => .string (S1 i))) ∧ Hid (Below w.heap.size w wx))
  case first =>
    cases a1 with
    | none =>
      go_wp2
      go_meet
      exact ⟨none, c1, rfl, HS1.out, Below.refl _ _⟩
    | some x =>
      have hmk := run_make_row' (P := Try.prog) 22 9 (.string ⟨#[]⟩) 16 Try.underlying22 info9 rfl .i64 .i64 n1 (by omega) (by omega)
      have k1 : (w.alloc (.cells (madeCells #[.string ⟨#[]⟩] n1) 9)).heap[w.heap.size]? = some (.cells (madeCells #[.string ⟨#[]⟩] n1).toList.toArray 9 (0, 0)) := by
        rw [Array.toArray_toList]
        exact heap_alloc_new w _
      have k2 : (strsOf S1 n1).length = Nat.min n1 n1 := by rw [strsOf_len]; exact (Nat.min_self _).symm
      have k3 : 0 + (strsOf S1 n1).length ≤ (madeCells #[.string ⟨#[]⟩] n1).toList.length := by rw [strsOf_len]; simp [size_madeCells]
      have K1 := Hid.intro k1
      have K2 := Hid.intro k2
      have K3 := Hid.intro k3
      clear k1 k2 k3
      go_wp2_with (refine wpList_copy_splice (by rfl) _ _ 22 22 (by rfl) 9 Try.underlying22 info9s _ (some x) n1 n1 n1 c1 (by rfl) (by rfl) w.heap.size 0 (madeCells #[.string ⟨#[]⟩] n1).toList 9 K1.out (strsOf S1 n1) K2.out (fun hp => ⟨rfl, strs_src HS1.out (Nat.le_refl _) _ hp⟩) K3.out (strsOf_one _ _) w.heap.size w ((Below.refl _ _).alloc (Nat.le_refl _) _) (Nat.le_refl _) ?_
                   intro w2 HG2 hB2
                   have HL2 : Hid (Lies w2 w2.heap.size (some ⟨w.heap.size, 0, none⟩) n1 (fun i => .string (S1 i))) := strs_copied HG2.out
                   have HB2 := Hid.intro hB2
                   clear HG2 hB2)
      go_meet
      exact ⟨_, _, rfl, HL2.out, HB2.out⟩
  case rest =>
    obtain ⟨b1, d1, rfl, HL1, HBc⟩ := hcut
    obtain ⟨V1, eV⟩ : ∃ V, V = wc := ⟨wc, rfl⟩
    subst eV
    have HS2' : Hid (Lies V1 V1.heap.size a2 n2 (fun i => .string (S2 i))) := (HS2.out.below HBc.out).mono HBc.out.size
    clear HS1 HS2
    go_upto_if 35 with fail
    go_cut [1, 8] from 36 to 42 (fun s _ wx => ∃ a c, s = .slice a n2 c ∧ Hid (Lies wx wx.heap.size a n2 (fun i => .string (S2 i))) ∧ Hid (Below V1.heap.size V1 wx))
    case first =>
      cases a2 with
      | none =>
        go_wp2
        go_meet
        exact ⟨none, c2, rfl, HS2'.out, Below.refl _ _⟩
      | some x =>
        have hmk := run_make_row' (P := Try.prog) 22 9 (.string ⟨#[]⟩) 16 Try.underlying22 info9 rfl .i64 .i64 n2 (by omega) (by omega)
        have k1 : (V1.alloc (.cells (madeCells #[.string ⟨#[]⟩] n2) 9)).heap[V1.heap.size]? = some (.cells (madeCells #[.string ⟨#[]⟩] n2).toList.toArray 9 (0, 0)) := by
          rw [Array.toArray_toList]
          exact heap_alloc_new V1 _
        have k2 : (strsOf S2 n2).length = Nat.min n2 n2 := by rw [strsOf_len]; exact (Nat.min_self _).symm
        have k3 : 0 + (strsOf S2 n2).length ≤ (madeCells #[.string ⟨#[]⟩] n2).toList.length := by rw [strsOf_len]; simp [size_madeCells]
        have K1 := Hid.intro k1
        have K2 := Hid.intro k2
        have K3 := Hid.intro k3
        clear k1 k2 k3
        go_wp2_with (refine wpList_copy_splice (by rfl) _ _ 22 22 (by rfl) 9 Try.underlying22 info9s _ (some x) n2 n2 n2 c2 (by rfl) (by rfl) V1.heap.size 0 (madeCells #[.string ⟨#[]⟩] n2).toList 9 K1.out (strsOf S2 n2) K2.out (fun hp => ⟨rfl, strs_src HS2'.out (Nat.le_refl _) _ hp⟩) K3.out (strsOf_one _ _) V1.heap.size V1 ((Below.refl _ _).alloc (Nat.le_refl _) _) (Nat.le_refl _) ?_
                     intro w2 HG2 hB2
                     have HL2 : Hid (Lies w2 w2.heap.size (some ⟨V1.heap.size, 0, none⟩) n2 (fun i => .string (S2 i))) := strs_copied HG2.out
                     have HB2 := Hid.intro hB2
                     clear HG2 hB2)
        go_meet
        exact ⟨_, _, rfl, HL2.out, HB2.out⟩
    case rest =>
      obtain ⟨b2, d2, rfl, HL2, HBd⟩ := hcut
      obtain ⟨V2, eV⟩ : ∃ V, V = wc := ⟨wc, rfl⟩
      subst eV
      have HB : Hid (Below w.heap.size w V2) := HBc.out.trans (HBd.out.mono HBc.out.size)
      have HM1 : Hid (Lies V2 V2.heap.size b1 n1 (fun i => .string (S1 i))) := (HL1.out.below HBd.out).mono HBd.out.size
      have HM3 : Hid (Lies V2 V2.heap.size a3 n3 (fun i => .slice (ra i) (m i) (rc i))) := (HR.out.below HB.out).mono HB.out.size
      have HMJ : Hid (∀ i, i < n3 → Lies V2 V2.heap.size (ra i) (m i) (fun k => .int .i64 (J i k))) := fun i hi => ((HJ.out i hi).below HB.out).mono HB.out.size
      clear HL1 HR HJ HBc HBd HS2' q22
      go_wp2_with fail
      refine (strs7 0 b1 n1 d1 S1 V2.heap.size V2 HM1.out (by unfold maxLen; omega)).mono ?_
      rintro e w1 ⟨⟨x1, rfl⟩, ew⟩
      subst w1
      go_wp2_with fail
      refine (strs7 x1 b2 n2 d2 S2 V2.heap.size V2 HL2.out (by unfold maxLen; omega)).mono ?_
      rintro e w1 ⟨⟨x2, rfl⟩, ew⟩
      subst w1
      go_wp2_with fail
      refine (intss8 x2 a3 n3 c3 ra m rc V2.heap.size V2 HM3.out HMX.out (by unfold maxLen; omega)).mono ?_
      rintro e w1 ⟨⟨x3, rfl, hx3⟩, ew⟩
      subst w1
      have HX3 : Hid (x3 ≤ 1048576 → n3 ≤ 1048576 ∧ ∀ i, i < n3 → m i ≤ 1048576) := hx3
      clear hx3
      rcases Int.lt_or_le 1048576 x3 with hx | hx
      · go_wp2
        go_ret
        exact ⟨rfl, HB.out⟩
      obtain ⟨_, hmm⟩ := HX3.out hx
      have HMM : Hid (∀ i, i < n3 → m i ≤ 1048576) := hmm
      clear hmm HX3 HMX
      go_wp2_with fail
      refine (keysok9 b1 b2 a3 n1 d1 n2 d2 n3 c3 S1 ra m rc J V2.heap.size V2 HM1.out HM3.out HMJ.out HMM.out g1 g2 g3).mono ?_
      rintro e w1 ⟨⟨bk, rfl, hbk⟩, q, rfl⟩
      have HBk : Hid (∃ c : Bool, c = bk ∧ (c = true → Fits n1 n2 n3 m J)) := ⟨bk, rfl, hbk⟩
      clear hbk
      rcases bk with _ | _
      · go_wp2
        go_ret
        exact ⟨rfl, below_drewN HB.out _⟩
      obtain ⟨c, ec, hfit⟩ := HBk.out
      subst ec
      obtain ⟨f1, f2, f3⟩ := hfit rfl
      subst f2
      have HIN := Hid.intro f3
      clear HBk hfit f3
      have HB3 : Hid (Below w.heap.size w (V2.drewN q)) := below_drewN HB.out q
      have HN1 : Hid (Lies (V2.drewN q) (V2.drewN q).heap.size b1 n1 (fun i => .string (S1 i))) := HM1.out.below (below_drewN (Below.refl _ _) q)
      have HN2 : Hid (Lies (V2.drewN q) (V2.drewN q).heap.size b2 n2 (fun i => .string (S2 i))) := HL2.out.below (below_drewN (Below.refl _ _) q)
      have HN3 : Hid (Lies (V2.drewN q) (V2.drewN q).heap.size a3 n2 (fun i => .slice (ra i) (m i) (rc i))) := HM3.out.below (below_drewN (Below.refl _ _) q)
      have HNJ : Hid (∀ i, i < n2 → Lies (V2.drewN q) (V2.drewN q).heap.size (ra i) (m i) (fun k => .int .i64 (J i k))) := fun i hi => (HMJ.out i hi).below (below_drewN (Below.refl _ _) q)
      clear HM1 HL2 HM3 HMJ HB
      generalize V2.drewN q = V3 at *
      obtain ⟨r, hr⟩ := first_exists (Uq S2 m) n2
      have HRr := Hid.intro hr
      clear hr
      go_wp2_with fail
      refine (primary10 b2 a3 n2 d2 c3 S2 ra m rc J V3 HN2.out HN3.out HNJ.out g2 HMM.out).mono ?_
      rintro e V4 ⟨⟨v, rfl, hO⟩, hB4⟩
      obtain ⟨pa, pc, rfl, hLp⟩ := want_pk hO
      have HLp := Hid.intro hLp
      have HB4 : Hid (Below w.heap.size w V4) := HB3.out.trans (hB4.mono HB3.out.size)
      have HP1 : Hid (Lies V4 V4.heap.size b1 n1 (fun i => .string (S1 i))) := (HN1.out.below hB4).mono hB4.size
      have HP2 : Hid (Lies V4 V4.heap.size b2 n2 (fun i => .string (S2 i))) := (HN2.out.below hB4).mono hB4.size
      have HP3 : Hid (Lies V4 V4.heap.size a3 n2 (fun i => .slice (ra i) (m i) (rc i))) := (HN3.out.below hB4).mono hB4.size
      have HPJ : Hid (∀ i, i < n2 → Lies V4 V4.heap.size (ra i) (m i) (fun k => .int .i64 (J i k))) := fun i hi => ((HNJ.out i hi).below hB4).mono hB4.size
      have hll := selIx_len (P := isP S2) (n := n2) HMM.out (Nat.le_refl _)
      have hl0 : (selIx (isP S2) m n2).length ≤ 1099511627776 := by
        have : n2 * 1048576 ≤ 1048576 * 1048576 := Nat.mul_le_mul_right _ g2
        omega
      clear hO hLp hB4 HN1 HN2 HN3 HNJ HB3 hll
      go_upto_if 64 with fail
      go_cut [11] from 62 to 67 (fun s wx => (∃ a c, s = .slice a (gotIx S2 m n2 r).length c ∧ Hid (Lies V4 V4.heap.size a (gotIx S2 m n2 r).length (fun k => .int .i64 (ixJ J ((gotIx S2 m n2 r).getD k (0, 0)))))) ∧ wx = V4)
      case first =>
        by_cases h0 : (selIx (isP S2) m n2).length = 0
        · have HWu := Hid.intro (want_unique (rc := rc) HRr.out HPJ.out h0)
          have h0' : ((selIx (isP S2) m n2).length : Int) ≤ 0 := by omega
          clear h0
          go_wp2_with fail
          refine (unique11 b2 a3 n2 d2 c3 S2 ra m rc V4.heap.size V4 HP2.out HP3.out g2 HMM.out).mono ?_
          rintro e w5 ⟨⟨r', hr', rfl⟩, ew⟩
          subst w5
          have er := hr'.unique HRr.out
          subst er
          obtain ⟨wa, wk, ew', hLw⟩ := HWu.out
          rw [ew']
          have HLw := Hid.intro hLw
          clear hLw ew' hr'
          go_wp2
          go_meet
          exact ⟨⟨_, _, rfl, HLw.out⟩, rfl⟩
        · have h0' : (0 : Int) < ((selIx (isP S2) m n2).length : Int) := by omega
          have hG : gotIx S2 m n2 r = selIx (isP S2) m n2 := if_neg h0
          have HGG := Hid.intro hG
          clear hG
          go_wp2
          go_meet
          exact ⟨⟨_, _, by rw [HGG.out], by rw [HGG.out]; exact HLp.out⟩, rfl⟩
      case rest =>
        obtain ⟨⟨wa, wk, rfl, HLw⟩, ewc⟩ := hcut
        subst ewc
        obtain ⟨V4, eV⟩ : ∃ V, V = wc := ⟨wc, rfl⟩
        subst eV
        clear HLp
        go_wp2_with fail
        refine (new12 b1 b2 a3 n1 d1 n2 d2 c3 S1 S2 ra m rc J V4 HP1.out HP2.out HP3.out HPJ.out f1 g2 HMM.out HZ.out HIN.out).mono ?_
        rintro e V5 ⟨rfl, ⟨cs, hcs, hT5⟩, hB5⟩
        have HCS := Hid.intro hcs
        have HT5 := Hid.intro hT5
        have HB5 := Hid.intro hB5
        clear hcs hT5 hB5 HP1 HP2 HP3 HPJ HZ
        go_wp2_with fail
        refine (partition13 V5 (V4.heap.size + 1) cs n2 S2 m J HT5.out g2 HMM.out).mono ?_
        rintro e V6 ⟨rfl, r', part, hr', hT6, hO6, hB6⟩
        have er := hr'.unique HRr.out
        subst er
        have HB6 : Hid (Below V4.heap.size V4 V6) := HB5.out.trans (hB6.mono (Nat.le_succ _))
        have HT6 := Hid.intro hT6
        obtain ⟨ga, gc, rfl, hLg⟩ := hO6.ptrs
        have HLg := Hid.intro hLg
        clear hT6 hO6 hLg hB6 HT5 HB5 hr'
        obtain ⟨mb, ord, keys, ks, hrow, hOo, _, _, hBlk, _⟩ := id HT6.out
        obtain ⟨oa, oc, eo, hLo⟩ := hOo.form
        rw [List.length_map, HCS.out] at eo hLo
        subst eo
        have HLo : Hid (Lies V6 V6.heap.size oa n1 (fun i => ptr (cs.getD i 0))) := by
          rcases hLo with e0 | ⟨b, off, ea, hb, hrr⟩
          · exact .inl e0
          · refine .inr ⟨b, off, ea, hb, fun i hi => ?_⟩
            rw [hrr i hi]
            simp [List.getD_eq_getElem?_getD, HCS.out, hi]
        have HBlk := Hid.intro hBlk
        have HRow := Hid.intro hrow
        clear hOo hLo hBlk hrow
        have hgl : (gotIx S2 m n2 r').length ≤ 1099511627776 := gotIx_len HRr.out HMM.out hl0
        go_wp2_with fail
        refine (order14 V6 (V4.heap.size + 1) mb _ keys _ HRow.out).mono ?_
        rintro e w7 ⟨rfl, ew⟩
        subst w7
        go_wp2_with fail
        refine (part15 V6 (V4.heap.size + 1) mb _ keys _ HRow.out).mono ?_
        rintro e w7 ⟨rfl, ew⟩
        subst w7
        go_wp2_with fail
        have hneq : ∀ (W : World) (p : Nat), (binOp .neq 34 (ptr p) (ptr p)).run Try.prog W = .ok (.bool false) W := by
          obtain ⟨j, hj, _⟩ := Option.map_eq_some_iff.1 info61
          exact fun W p => Lib.run_neq_ptr_same (P := Try.prog) W ⟨p, 0, none⟩ Try.underlying34 hj
        go_loopw [15] (fun i wr => ∃ k : Nat, k ≤ (gotIx S2 m n2 r').length ∧ i = .int .i64 k ∧ ∃ q, wr = V6.drewN q) (fun i _ => (1099511627777 - intOf i).toNat)
        case atStart => exact ⟨0, Nat.zero_le _, rfl, 0, rfl⟩
        case round =>
          obtain ⟨k, hk, rfl, q, rfl⟩ := hrel
          by_cases hlt : k < (gotIx S2 m n2 r').length
          · obtain ⟨j0, j1⟩ := gotIx_in HRr.out HIN.out hlt
            rcases HLw.out with e0 | ⟨wb, wo, rfl, hwb, hwr⟩
            · omega
            rcases HLg.out with e0 | ⟨gb, go', rfl, hgb, hgr⟩
            · omega
            rcases HLo.out with e0 | ⟨ob, oo, rfl, hob, hor⟩
            · omega
            obtain ⟨jn, hjn⟩ := Int.eq_ofNat_of_zero_le j0
            have hjl : jn < n1 := by omega
            have cw : V6.cell? ⟨wb, wo + k, none⟩ = some (.int .i64 jn) := by
              rw [← hjn]
              exact (HB6.out.cell (by exact hwb)).trans (hwr k hlt)
            have cg : V6.cell? ⟨gb, go' + k, none⟩ = some (ptr (cs.getD jn 0)) := by
              refine (hgr k hlt).trans ?_
              show some (ptr (cs.getD (ixJ J ((gotIx S2 m n2 r').getD k (0, 0))).toNat 0)) = _
              rw [hjn]
              rfl
            have co : V6.cell? ⟨ob, oo + jn, none⟩ = some (ptr (cs.getD jn 0)) := hor jn hjl
            clear hwr hgr hor j0 j1 hjn
            obtain ⟨pp, hpp⟩ : ∃ x, x = cs.getD jn 0 := ⟨_, rfl⟩
            rw [← hpp] at cg co
            clear hpp
            go_wp2_with fail
            go_quiet (fail)
            go_wp2
            exact ⟨⟨k + 1, by omega, by go_num, _, rfl⟩, meas2 hlt hgl⟩
          · have HRg := Hid.intro HRr.out
            clear hneq HLw HRow HRr
            have HBq : Hid (Below V4.heap.size V4 (V6.drewN q)) := below_drewN HB6.out q
            have HTq := Hid.intro (HT6.out.below (below_drewN (Below.refl _ _) q))
            have HGq : Hid (Lies (V6.drewN q) (V6.drewN q).heap.size ga (gotIx S2 m n2 r').length (fun i => ptr (ixB cs J ((gotIx S2 m n2 r').getD i (0, 0))))) := HLg.out.below (below_drewN (Below.refl _ _) q)
            have HOq : Hid (Lies (V6.drewN q) (V6.drewN q).heap.size oa n1 (fun i => ptr (cs.getD i 0))) := HLo.out.below (below_drewN (Below.refl _ _) q)
            have HGI : Hid (∀ i, i < (gotIx S2 m n2 r').length → ixB cs J ((gotIx S2 m n2 r').getD i (0, 0)) ∈ cs) := fun i hi => gotIx_mem HCS.out HRg.out HIN.out hi
            clear HT6 HLg HLo HB6 HBlk
            go_wp2_with fail
            generalize V6.drewN q = V7 at *
            go_loopw [16] (fun i wr => ∃ j : Nat, j ≤ n1 ∧ i = .int .i64 j ∧ Below V7.heap.size V7 wr) (fun i _ => (1099511627777 - intOf i).toNat)
            case atStart => exact ⟨0, Nat.zero_le _, rfl, Below.refl _ _⟩
            case round =>
              obtain ⟨j, hj, rfl, hB⟩ := hrel
              have HBw := Hid.intro hB
              clear hB
              by_cases hlj : j < n1
              · rcases HOq.out with e0 | ⟨ob, oo, rfl, hob, hor⟩
                · omega
                have hpm : cs.getD j 0 ∈ cs := by
                  rw [List.getD_eq_getElem?_getD, List.getElem?_eq_getElem (by rw [HCS.out]; exact hlj)]
                  exact List.getElem_mem _
                have CO : Hid (∀ W, Below V7.heap.size V7 W → W.cell? ⟨ob, oo + j, none⟩ = some (ptr (cs.getD j 0))) := fun W hW => (hW.cell (by exact hob)).trans (hor j hlj)
                obtain ⟨pj, hpj⟩ : ∃ x, x = cs.getD j 0 := ⟨_, rfl⟩
                rw [← hpj] at CO hpm
                clear hpj hor
                obtain ⟨W8, eW8⟩ : ∃ V, V = wr := ⟨wr, rfl⟩
                subst eW8
                have co := CO.out W8 HBw.out
                go_wp2_with fail
                refine (inpk16 W8 (V4.heap.size + 1) _ cs n1 n2 S2 m J pj (HTq.out.below HBw.out) g2 HMM.out HCS.out HIN.out hpm).mono ?_
                rintro e W9 ⟨⟨bi, rfl, hbi⟩, hB9⟩
                have HC : Hid (∃ c : Bool, c = bi ∧ (c = true ↔ 0 < (selIx (isP S2) m n2).length ∧ ∃ i, i < (gotIx S2 m n2 r').length ∧ ixB cs J ((gotIx S2 m n2 r').getD i (0, 0)) = pj)) := ⟨bi, rfl, in_iff hbi⟩
                have HB9 : Hid (Below V7.heap.size V7 W9) := HBw.out.trans (hB9.mono HBw.out.size)
                have HQ : Hid (∀ i, i < (gotIx S2 m n2 r').length → ∀ W : World, W.heap = W9.heap → (binOp .eql 34 (ptr (ixB cs J ((gotIx S2 m n2 r').getD i (0, 0)))) (ptr pj)).run Try.prog W = .ok (.bool (decide (ixB cs J ((gotIx S2 m n2 r').getD i (0, 0)) = pj))) W) := by
                  intro i hi W hW
                  obtain ⟨_, _, _, _, _, _, _, _, hblk, _⟩ := HTq.out.below HB9.out
                  exact eql34 W (by rw [hW]; exact hblk _ (HGI.out i hi)) (by rw [hW]; exact hblk _ hpm)
                have HG9 : Hid (Lies W9 V7.heap.size ga (gotIx S2 m n2 r').length (fun i => ptr (ixB cs J ((gotIx S2 m n2 r').getD i (0, 0))))) := HGq.out.below HB9.out
                have co9 := CO.out W9 HB9.out
                clear hbi hB9 co HBw
                rcases bi with _ | _
                · go_wp2_with fail
                  go_loopw [18, 19] (fun s i wr => s = .bool false ∧ ∃ k : Nat, k ≤ (gotIx S2 m n2 r').length ∧ i = .int .i64 k ∧ (∀ i, i < k → ixB cs J ((gotIx S2 m n2 r').getD i (0, 0)) ≠ pj) ∧ ∃ q, wr = W9.drewN q) (fun _ i _ => (1099511627777 - intOf i).toNat)
                  case atStart => exact ⟨rfl, 0, Nat.zero_le _, rfl, fun i hi => by omega, 0, rfl⟩
                  case round =>
                    obtain ⟨rfl, k2, hk2, rfl, hd, q2, rfl⟩ := hrel
                    have HD := Hid.intro hd
                    clear hd
                    by_cases hlg : k2 < (gotIx S2 m n2 r').length
                    · rcases HG9.out with e0 | ⟨gb, go', rfl, hgb, hgr⟩
                      · omega
                      have cg : W9.cell? ⟨gb, go' + k2, none⟩ = some (ptr (ixB cs J ((gotIx S2 m n2 r').getD k2 (0, 0)))) := hgr k2 hlg
                      have hq : ∀ n : Nat, (binOp .eql 34 (ptr (ixB cs J ((gotIx S2 m n2 r').getD k2 (0, 0)))) (ptr pj)).run Try.prog (W9.drewN n) = .ok (.bool (decide (ixB cs J ((gotIx S2 m n2 r').getD k2 (0, 0)) = pj))) (W9.drewN n) := fun n => HQ.out k2 hlg (W9.drewN n) rfl
                      clear hgr
                      obtain ⟨gp, hgp⟩ : ∃ x, x = ixB cs J ((gotIx S2 m n2 r').getD k2 (0, 0)) := ⟨_, rfl⟩
                      rw [← hgp] at cg hq
                      by_cases he : gp = pj
                      · rw [decide_eq_true he, he] at hq
                        rw [he] at cg
                        have hL0 : ((selIx (isP S2) m n2).length : Int) ≤ 0 := by
                          obtain ⟨c, ec, hc⟩ := HC.out
                          subst ec
                          rcases Nat.lt_or_ge 0 (selIx (isP S2) m n2).length with hp | hp
                          · cases hc.2 ⟨hp, k2, hlg, by rw [← hgp]; exact he⟩
                          · omega
                        clear hgp he
                        go_wp2_with fail
                        go_quiet (fail)
                        go_wp2
                        exact ⟨⟨j + 1, by omega, by go_num, below_drewN HB9.out _⟩, meas2 hlj (by omega)⟩
                      · rw [decide_eq_false he] at hq
                        have HNE : Hid (ixB cs J ((gotIx S2 m n2 r').getD k2 (0, 0)) ≠ pj) := by rw [← hgp]; exact he
                        clear HC hgp he
                        go_wp2_with fail
                        go_quiet (fail)
                        go_wp2
                        refine ⟨⟨rfl, k2 + 1, by omega, by go_num, fun i hi => ?_, _, rfl⟩, meas2 hlg hgl⟩
                        rcases Nat.lt_or_ge i k2 with h4 | h4
                        · exact HD.out i h4
                        · obtain rfl : i = k2 := by omega
                          exact HNE.out
                    · go_wp2
                      all_goals exact ⟨⟨j + 1, by omega, by go_num, below_drewN HB9.out _⟩, meas2 hlj (by omega)⟩
                · go_wp2_with fail
                  go_loopw [18, 19] (fun s i wr => s = .bool false ∧ ∃ k : Nat, k ≤ (gotIx S2 m n2 r').length ∧ i = .int .i64 k ∧ (∀ i, i < k → ixB cs J ((gotIx S2 m n2 r').getD i (0, 0)) ≠ pj) ∧ ∃ q, wr = W9.drewN q) (fun _ i _ => (1099511627777 - intOf i).toNat)
                  case atStart => exact ⟨rfl, 0, Nat.zero_le _, rfl, fun i hi => by omega, 0, rfl⟩
                  case round =>
                    obtain ⟨rfl, k2, hk2, rfl, hd, q2, rfl⟩ := hrel
                    have HD := Hid.intro hd
                    clear hd
                    by_cases hlg : k2 < (gotIx S2 m n2 r').length
                    · rcases HG9.out with e0 | ⟨gb, go', rfl, hgb, hgr⟩
                      · omega
                      have cg : W9.cell? ⟨gb, go' + k2, none⟩ = some (ptr (ixB cs J ((gotIx S2 m n2 r').getD k2 (0, 0)))) := hgr k2 hlg
                      have hq : ∀ n : Nat, (binOp .eql 34 (ptr (ixB cs J ((gotIx S2 m n2 r').getD k2 (0, 0)))) (ptr pj)).run Try.prog (W9.drewN n) = .ok (.bool (decide (ixB cs J ((gotIx S2 m n2 r').getD k2 (0, 0)) = pj))) (W9.drewN n) := fun n => HQ.out k2 hlg (W9.drewN n) rfl
                      clear hgr
                      obtain ⟨gp, hgp⟩ : ∃ x, x = ixB cs J ((gotIx S2 m n2 r').getD k2 (0, 0)) := ⟨_, rfl⟩
                      rw [← hgp] at cg hq
                      by_cases he : gp = pj
                      · rw [decide_eq_true he, he] at hq
                        rw [he] at cg
                        have hL0 : (0 : Int) < ((selIx (isP S2) m n2).length : Int) := by
                          obtain ⟨c, ec, hc⟩ := HC.out
                          subst ec
                          have := (hc.1 rfl).1
                          omega
                        clear hgp he
                        go_wp2_with fail
                        go_quiet (fail)
                        go_wp2
                        exact ⟨⟨j + 1, by omega, by go_num, below_drewN HB9.out _⟩, meas2 hlj (by omega)⟩
                      · rw [decide_eq_false he] at hq
                        have HNE : Hid (ixB cs J ((gotIx S2 m n2 r').getD k2 (0, 0)) ≠ pj) := by rw [← hgp]; exact he
                        clear hgp he
                        go_wp2_with fail
                        go_quiet (fail)
                        go_wp2
                        refine ⟨⟨rfl, k2 + 1, by omega, by go_num, fun i hi => ?_, _, rfl⟩, meas2 hlg hgl⟩
                        rcases Nat.lt_or_ge i k2 with h4 | h4
                        · exact HD.out i h4
                        · obtain rfl : i = k2 := by omega
                          exact HNE.out
                    · exfalso
                      obtain ⟨c, ec, hc⟩ := HC.out
                      subst ec
                      obtain ⟨_, i, hi, hp⟩ := hc.1 rfl
                      exact HD.out i (by omega) hp
              · go_wp2
                go_ret
                have z1 := HB4.out.size
                have z2 := HBq.out.size
                exact ⟨rfl, (HB4.out.trans (HBq.out.mono z1)).trans (HBw.out.mono (by omega))⟩
end Go.Proofs.Qxb6613626a
