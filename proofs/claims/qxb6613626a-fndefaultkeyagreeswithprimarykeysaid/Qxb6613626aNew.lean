/-
  ZZnewTable.
-/
import Derived.Test.Qxb6613626aKeys
import Derived.Deep.RegionLaw
import Derived.BigRegion
import Derived.Deep.RegionHeld3
namespace Go.Proofs.Qxb6613626a
open Go.ChangeShapes Go.WideShapes Go.ChangeAt Go.RowKit Go.Maps

/-- A table: its columns are at the blocks cs, its keys are of the kinds S2 over the columns at J. -/
def Tab (w : World) (tb : Nat) (part : Value) (cs : List Nat) (n2 : Nat) (S2 : Nat → ByteArray) (m : Nat → Nat) (J : Nat → Nat → Int) : Prop :=
  ∃ (mb : Nat) (ord keys : Value) (ks : List Nat), w.rowIs tb 57 9 (tst mb ord keys part) ∧ Own w 0 34 ord (cs.map ptr) ∧ Own w 0 62 keys (ks.map ptr) ∧ ks.length = n2 ∧ Blk w cs ∧
    ∀ j, j < n2 → ∃ cv, KeyIs w (ks.getD j 0) (S2 j) cv ((rowIx j (m j)).map (ixC cs J))

theorem KTab.tab {w : World} {B n1 : Nat} {ord keys : Value} {cs : List Nat} {i : Nat} {ks : List Nat} {S2 : Nat → ByteArray} {m : Nat → Nat} {J : Nat → Nat → Int}
    (h : KTab w B n1 ord keys cs i ks S2 m J) : Tab w (B + 1) (.slice none 0 0) cs i S2 m J :=
  ⟨B, ord, keys, ks, h.cols.row, h.cols.own.mono (Nat.zero_le _), h.own.mono (Nat.zero_le _), h.len, h.cols.blk, h.each⟩

theorem farG {w w2 : World} {o : Obj} {row : Option Nat} {nb j : Nat} (hg : ((w.alloc o).drew).grownBy w2 row) (hlt : nb < w.heap.size) (ag : row ≠ some nb) :
    w2.cell? ⟨nb, j, none⟩ = w.cell? ⟨nb, j, none⟩ :=
  (hg.cell_far ⟨nb, j, none⟩ (by show nb < (w.alloc o).heap.size; simp; omega) (Ne.symm ag)).trans (World.cell?_of_block (w := w) (Below.heap_alloc w o nb hlt))
theorem frozG {w w2 : World} {o : Obj} {row : Option Nat} {nb j : Nat} (hg : ((w.alloc o).drew).grownBy w2 row) (hlt : nb < w.heap.size) (ag : row ≠ some nb)
    (f : w.frozen? ⟨nb, j, none⟩ = false) : w2.frozen? ⟨nb, j, none⟩ = false :=
  ((hg.frozen_far ⟨nb, j, none⟩ (by show nb < (w.alloc o).heap.size; simp; omega) (Ne.symm ag)).trans (World.frozen?_of_block (w := w) (Below.heap_alloc w o nb hlt))).trans f

theorem cut_tail {T G : Prop} (k : Hid T → G) (p : T) : G := k p

set_option maxRecDepth 100000 in
set_option maxHeartbeats 3200000 in
theorem new12 (a1 a2 a3 : Option Addr) (n1 c1 n2 c2 c3 : Nat) (S1 S2 : Nat → ByteArray) (ra : Nat → Option Addr) (m rc : Nat → Nat) (J : Nat → Nat → Int) (w : World)
    (hS1 : Lies w w.heap.size a1 n1 (fun i => .string (S1 i))) (hS2 : Lies w w.heap.size a2 n2 (fun i => .string (S2 i))) (hR : Lies w w.heap.size a3 n2 (fun i => .slice (ra i) (m i) (rc i)))
    (hJ : ∀ i, i < n2 → Lies w w.heap.size (ra i) (m i) (fun k => .int .i64 (J i k))) (h1 : n1 ≤ 4096) (h2 : n2 ≤ 1048576) (hmm : ∀ i, i < n2 → m i ≤ 1048576)
    (hs1 : ∀ i, i < n1 → (S1 i).size ≤ maxLen) (hin : ∀ i, i < n2 → ∀ k, k < m i → 0 ≤ J i k ∧ J i k < n1) :
    Calls Try.prog 12 #[.slice a1 n1 c1, .slice a2 n2 c2, .slice a3 n2 c3, .slice none 0 0, .slice none 0 0, .slice none 0 0] w (fun e w' => e = .returned (ptr (w.heap.size + 1)) ∧ (∃ cs, cs.length = n1 ∧ Tab w' (w.heap.size + 1) (.slice none 0 0) cs n2 S2 m J) ∧ Below w.heap.size w w') := by
  obtain ⟨i0, hi0, hz0, hz1, hz2⟩ := info_parts info34
  obtain ⟨i1, hj0, hy0, hy1, hy2⟩ := info_parts info62
  have HS1 : Hid (Lies w w.heap.size a1 n1 (fun i => .string (S1 i))) := hS1
  have HS2 : Hid (Lies w w.heap.size a2 n2 (fun i => .string (S2 i))) := hS2
  have HR : Hid (Lies w w.heap.size a3 n2 (fun i => .slice (ra i) (m i) (rc i))) := hR
  have HJ : Hid (∀ i, i < n2 → Lies w w.heap.size (ra i) (m i) (fun k => .int .i64 (J i k))) := hJ
  have HM : Hid (∀ i, i < n2 → m i ≤ 1048576) := hmm
  have HZ : Hid (∀ i, i < n1 → (S1 i).size ≤ maxLen) := hs1
  have HIN : Hid (∀ i, i < n2 → ∀ k, k < m i → 0 ≤ J i k ∧ J i k < n1) := hin
  clear hS1 hS2 hR hJ hmm hs1 hin
  have hmk := @run_makeMap Try.prog
  go_enter Try.func12, Try.ntmps12
  go_wp2_with fail
  clear hmk
  have C0 : Hid (Cols _ w.heap.size 0 (.slice none 0 0) (.slice none 0 0) (.slice none 0 0) []) := cols_start w
  have B0 : Hid (Below w.heap.size w ((w.alloc (.map #[] 0)).alloc (.cells #[.map (some w.heap.size), .slice none 0 0, .slice none 0 0, .slice none 0 0, .slice none 0 0, .slice none 0 0, .slice none 0 0, .string ⟨#[]⟩, .string ⟨#[]⟩] 57))) :=
    ((Below.refl _ _).alloc (Nat.le_refl _) _).alloc (by simp) _
  go_loopw [31] (fun i wr => ∃ k : Nat, k ≤ n1 ∧ i = .int .i64 k ∧ (∃ ord cs, Cols wr w.heap.size k ord (.slice none 0 0) (.slice none 0 0) cs ∧ cs.length = k) ∧ Below w.heap.size w wr) (fun i _ => (1048577 - intOf i).toNat)
  case atStart => exact ⟨0, Nat.zero_le _, rfl, ⟨_, [], C0.out, rfl⟩, B0.out⟩
  case round =>
    clear C0 B0
    obtain ⟨k, hk, rfl, ⟨ord, cs, hC, hcs⟩, hB⟩ := hrel
    have HC : Hid (Cols wr w.heap.size k ord (.slice none 0 0) (.slice none 0 0) cs) := hC
    have HB : Hid (Below w.heap.size w wr) := hB
    clear hC hB
    by_cases hlt : k < n1
    · rcases HS1.out with h0 | ⟨b, off, rfl, hb, hr⟩
      · omega
      have sk : wr.cell? ⟨b, off + k, none⟩ = some (.string (S1 k)) := (HB.out.cell (by exact hb)).trans (hr k hlt)
      have c0 : wr.cell? ⟨w.heap.size + 1, 0, none⟩ = some (.map (some w.heap.size)) := HC.out.row.cell (i := 0) (by omega)
      have hlt1 := HC.out.row.lt
      have hkey : keyOf Try.prog 9 (.string (S1 k)) = some _ := Go.WideMaps.keyOf_string_mk Try.underlying9 (HZ.out k hlt)
      clear hr
      obtain ⟨D, hM⟩ := HC.out.map
      have HMp : Hid (wr.ownsMap Try.prog 9 anyR w.heap.size k D) := hM
      clear hM
      go_wp2_with (first
        | (at_mapUpdate
           refine wpList_mapUpdate_own _ rfl _ _ _ 51 rfl 9 34 law9 Try.underlying51 anyR w.heap.size k D rfl (HMp.out.alloc _) (by unfold maxLen; omega) _ _ _ rfl rfl hkey _ [] rfl ?_
           intro w1 hown1 hgrow1
           obtain ⟨hC1, hB1, hs1⟩ := cols_mapped HC.out hown1 hgrow1
           have HS1' := Hid.intro hs1
           have HC1 : Hid (Cols w1 w.heap.size (k + 1) ord (.slice none 0 0) (.slice none 0 0) cs) := hC1
           have HB1 : Hid (Below w.heap.size w w1) := HB.out.trans hB1
           have d1 : w1.cell? ⟨w.heap.size + 1, 1, none⟩ = some ord := hC1.row.cell (i := 1) (by omega)
           have e1 := hC1.row.frozen 1
           have hlt2 := hC1.row.lt
           have hcl : (cs.map ptr).length = k := by rw [List.length_map]; exact hcs
           clear hown1 hgrow1 hC1 hB1 HC HB HMp hs1)
        | (at_builtin
           refine wpList_append_lies _ (by rfl) _ _ _ (by rfl) (w.heap.size + 2) 34 i0 _ 1 8 Try.underlying32 hi0 hz0 hz1 hz2 rfl (by omega) ord _ _ (by rfl) (HC1.out.own.alloc _) ⟨w1.heap.size, 0, none⟩ 1 1 [ptr wr.heap.size] (by rfl) (by rfl) (World.news_of_block (cs := #[ptr wr.heap.size]) (t := 34) (fr := (0, 0)) (heap_alloc_new w1 _)) (by simp [Value.oneCell']) (by omega) (by unfold maxLen; omega) (by omega) (by simp; omega) (w1.heap.size + 1) (by simp) ?_
           intro g cap' w2 hown hgrow _ _
           obtain ⟨hr2, hC2, hB2⟩ := cols_pushed HC1.out rfl ⟨_, HS1'.out⟩ hown hgrow
           have d1' : w2.cell? ⟨w.heap.size + 1, 1, none⟩ = some ord := hr2.cell (i := 1) (by omega)
           have e1' := hr2.frozen 1
           have HC2 := Hid.intro hC2
           have HB2 := Hid.intro (HB1.out.trans hB2)
           clear hown hgrow hr2 hC2 hB2))
      rw [hcl] at HC2 HB2
      exact ⟨⟨k + 1, by omega, by go_num, ⟨_, _, HC2.out, by rw [List.length_append, hcs]; rfl⟩, HB2.out⟩, meas hlt (by omega)⟩
    · have hcn : (cs.map ptr).length = n1 := by rw [List.length_map]; omega
      have hC' := HC.out
      rw [show k = n1 by omega] at hC'
      obtain ⟨ao, oc, ho, hLo⟩ := hC'.own.form
      rw [hcn] at ho hLo
      subst ho
      have HL : Hid (Lies wr wr.heap.size ao n1 (fun i => (cs.map ptr).getD i undef)) := hLo
      have HT0 : Hid (KTab wr w.heap.size n1 (.slice ao n1 oc) (.slice none 0 0) cs 0 [] S2 m J) := ⟨hC', Own.nil _ _ _, rfl, fun j hj => by omega⟩
      have HCN : Hid (cs.length = n1) := by rw [← hcn, List.length_map]; rfl
      clear HC hC' hLo hcs hcn
      obtain ⟨V, eV⟩ : ∃ V, V = wr := ⟨wr, rfl⟩
      subst eV
      go_wp2_with fail
      go_loopw [59] (fun i wr => ∃ k : Nat, k ≤ n2 ∧ i = .int .i64 k ∧ (∃ keys ks, KTab wr w.heap.size n1 (.slice ao n1 oc) keys cs k ks S2 m J) ∧ Below w.heap.size w wr) (fun i _ => (1048577 - intOf i).toNat)
      case atStart => exact ⟨0, Nat.zero_le _, rfl, ⟨_, [], HT0.out⟩, HB.out⟩
      case round =>
        clear HT0 HB HL
        obtain ⟨k, hk, rfl, ⟨keys, ks, hT⟩, hB⟩ := hrel
        obtain ⟨W, eW⟩ : ∃ W, W = wr := ⟨wr, rfl⟩
        subst eW
        have HT : Hid (KTab W w.heap.size n1 (.slice ao n1 oc) keys cs k ks S2 m J) := hT
        have HB : Hid (Below w.heap.size w W) := hB
        have hsz := hB.size
        clear hT hB
        by_cases hlt : k < n2
        · rcases HS2.out with h0 | ⟨b, off, rfl, hb, hr⟩
          · omega
          have sk : W.cell? ⟨b, off + k, none⟩ = some (.string (S2 k)) := (HB.out.cell (by exact hb)).trans (hr k hlt)
          clear hr
          rcases HR.out with h0 | ⟨b3, off3, rfl, hb3, hr3⟩
          · omega
          have sr : W.cell? ⟨b3, off3 + k, none⟩ = some (.slice (ra k) (m k) (rc k)) := (HB.out.cell (by exact hb3)).trans (hr3 k hlt)
          clear hr3
          have hmk := HM.out k hlt
          have hb3' : b3 < W.heap.size := by omega
          go_wp2_with fail
          have HK0 : Hid (KeyIs (W.alloc (.cells #[.string ⟨#[]⟩, .string (S2 k), .slice none 0 0] 65)) W.heap.size (S2 k) (.slice none 0 0) []) := key_start W (S2 k)
          have HBK0 : Hid (Below W.heap.size W (W.alloc (.cells #[.string ⟨#[]⟩, .string (S2 k), .slice none 0 0] 65))) := (Below.refl _ _).alloc (Nat.le_refl _) _
          go_loopw [72] (fun i wl => ∃ l : Nat, l ≤ m k ∧ i = .int .i64 l ∧ (∃ cv, KeyIs wl W.heap.size (S2 k) cv ((rowIx k l).map (ixC cs J))) ∧ Below W.heap.size W wl) (fun i _ => (1048577 - intOf i).toNat)
          case atStart => exact ⟨0, Nat.zero_le _, rfl, ⟨_, HK0.out⟩, HBK0.out⟩
          case round =>
            clear HK0 HBK0
            obtain ⟨l, hl, rfl, ⟨cv, hK⟩, hBl⟩ := hrel
            have HK : Hid (KeyIs wr W.heap.size (S2 k) cv ((rowIx k l).map (ixC cs J))) := hK
            have HBl : Hid (Below W.heap.size W wr) := hBl
            have hszl := hBl.size
            clear hK hBl
            by_cases hll : l < m k
            · rcases HJ.out k hlt with h0 | ⟨b2, off2, e2, hb2, hr2⟩
              · omega
              obtain ⟨j0, j1⟩ := HIN.out k hlt l hll
              obtain ⟨jn, hjn⟩ := Int.eq_ofNat_of_zero_le j0
              have jl : wr.cell? ⟨b2, off2 + l, none⟩ = some (.int .i64 jn) := by
                rw [← hjn]
                exact (HBl.out.cell (by show b2 < _; omega)).trans ((HB.out.cell (by exact hb2)).trans (hr2 l hll))
              have hjl : jn < n1 := by omega
              clear hr2
              have hLo := HT.out.cols.own.form
              obtain ⟨ao', oc', ho, hLo⟩ := hLo
              rw [List.length_map, HCN.out] at ho hLo
              injection ho with ho1 _ _
              subst ho1
              rcases hLo with h0 | ⟨ob, oo, e4, hob, hro⟩
              · omega
              have oj : wr.cell? ⟨ob, oo + jn, none⟩ = some (ptr (cs.getD jn 0)) := by
                refine (HBl.out.cell (by exact hob)).trans ((hro jn hjl).trans ?_)
                simp [List.getD_eq_getElem?_getD, HCN.out, hjl]
              have o1 : wr.cell? ⟨w.heap.size + 1, 1, none⟩ = some (.slice (some ⟨ob, oo, none⟩) n1 oc) := by
                rw [← e4]
                exact (HBl.out.cell (by exact HT.out.cols.row.lt)).trans (HT.out.cols.row.cell (i := 1) (by omega))
              have k2 : wr.cell? ⟨W.heap.size, 2, none⟩ = some cv := HK.out.row.cell (i := 2) (by omega)
              have f2 := HK.out.row.frozen 2
              have hltk := HK.out.row.lt
              have hltt : w.heap.size + 1 < wr.heap.size := Nat.lt_of_lt_of_le HT.out.cols.row.lt hszl
              have hlto : ob < wr.heap.size := Nat.lt_of_lt_of_le hob hszl
              have ak : cv.ownBlock ≠ some W.heap.size := fun e => by have := (HK.out.own.block e).1; omega
              have hxl : ((rowIx k l).map (ixC cs J)).length = l := by rw [List.length_map, rowIx_len]
              have hX : (rowIx k (l + 1)).map (ixC cs J) = (rowIx k l).map (ixC cs J) ++ [ptr (cs.getD jn 0)] := by
                rw [rowIx, List.map_append]
                simp [ixC, hjn]
              have HX : Hid ((rowIx k (l + 1)).map (ixC cs J) = (rowIx k l).map (ixC cs J) ++ [ptr (cs.getD jn 0)]) := hX
              clear hX
              generalize (rowIx k l).map (ixC cs J) = xs at *
              rw [e2]
              clear hro hjn j0 j1 e4 hob hb2 e2
              go_wp2_with fail
              go_region_law
                ((refine step_append_lies _ (by rfl) _ _ _ (by rfl) (W.heap.size + 1) 34 i0 _ 1 8 Try.underlying32 hi0 hz0 hz1 hz2 rfl (by omega) cv _ _ (by rfl) ((HK.out.own.alloc _).drew)
                    ⟨wr.heap.size, 0, none⟩ 1 1 [ptr (cs.getD jn 0)] (by rfl) (by rfl) (World.news_of_block (cs := #[ptr (cs.getD jn 0)]) (t := 34) (fr := (0, 0)) (heap_alloc_new wr _)) (by simp [Value.oneCell'])
                    (by omega) (by unfold maxLen; omega) (by omega) (by simp; omega) (wr.heap.size + 1) (by simp) ?_; intro g cap' w2 hown hgrow hat hl2; have f2' := frozG hgrow hltk ak f2; have k2' := (farG (j := 2) hgrow hltk ak).trans k2))
              all_goals
                obtain ⟨hK2, hB2⟩ := key_grown HK.out rfl hown hgrow
                rw [hxl] at hK2 hB2
                have HK2 := Hid.intro hK2
                have HB2 := Hid.intro (HBl.out.trans hB2)
                clear hown hgrow hat hl2 f2' k2' hK2 hB2 HK HBl o1 k2 f2 jl oj sk sr
                go_wp2
                exact ⟨⟨l + 1, by omega, by go_num, ⟨_, by rw [HX.out]; exact HK2.out⟩, HB2.out⟩, meas hll hmk⟩
            · have el : l = m k := by omega
              have hKm := HK.out
              rw [el] at hKm
              have HKm := Hid.intro hKm
              have HT1 : Hid (KTab wr w.heap.size n1 (.slice ao n1 oc) keys cs k ks S2 m J) := HT.out.below HBl.out
              have HBw : Hid (Below w.heap.size w wr) := HB.out.trans (HBl.out.mono hsz)
              have t2 : wr.cell? ⟨w.heap.size + 1, 2, none⟩ = some keys := HT1.out.cols.row.cell (i := 2) (by omega)
              have g2 := HT1.out.cols.row.frozen 2
              have hlt1 := HT1.out.cols.row.lt
              have hkl : (ks.map ptr).length = k := by rw [List.length_map]; exact HT1.out.len
              clear hKm HK HT HB HBl sk sr
              go_wp2_with (at_builtin
                           refine wpList_append_lies _ (by rfl) _ _ _ (by rfl) (w.heap.size + 2) 62 i1 _ 1 8 Try.underlying52 hj0 hy0 hy1 hy2 rfl (by omega) keys _ _ (by rfl) (HT1.out.own.alloc _) ⟨wr.heap.size, 0, none⟩ 1 1 [ptr W.heap.size] (by rfl) (by rfl) (World.news_of_block (cs := #[ptr W.heap.size]) (t := 62) (fr := (0, 0)) (heap_alloc_new wr _)) (by simp [Value.oneCell']) (by omega) (by unfold maxLen; omega) (by omega) (by simp; omega) (wr.heap.size + 1) (by simp) ?_
                           intro g cap' w2 hown hgrow _ _
                           obtain ⟨hr2, hC2, hB2⟩ := keys_pushed HT1.out HKm.out rfl hown hgrow
                           have t2' : w2.cell? ⟨w.heap.size + 1, 2, none⟩ = some keys := hr2.cell (i := 2) (by omega)
                           have g2' := hr2.frozen 2
                           have HC2 := Hid.intro hC2
                           have HB2 := Hid.intro (HBw.out.trans hB2)
                           clear hown hgrow hr2 hC2 hB2)
              rw [hkl] at HC2 HB2
              exact ⟨⟨k + 1, by omega, by go_num, ⟨_, _, HC2.out⟩, HB2.out⟩, meas hlt h2⟩
        · have ek : k = n2 := by omega
          have hT' := HT.out
          rw [ek] at hT'
          have HT' := Hid.intro hT'
          clear hT' HT
          go_wp2_with fail
          refine wp_loop_rounds 1 ?_
          rw [rounds_succ]
          go_wp2_with fail
          refine wp_loop_rounds 1 ?_
          rw [rounds_succ]
          go_wp2
          go_ret
          exact ⟨rfl, ⟨cs, HCN.out, HT'.out.tab⟩, HB.out⟩
end Go.Proofs.Qxb6613626a
