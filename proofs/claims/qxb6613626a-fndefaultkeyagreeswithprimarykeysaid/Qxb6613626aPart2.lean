/-
  partition, with the default key, where no primary key names a column; ZZpartition.
-/
import Derived.Test.Qxb6613626aPart
namespace Go.Proofs.Qxb6613626a
open Go.ChangeShapes Go.WideShapes Go.ChangeAt Go.RowKit Go.Maps

theorem first_exists (P : Nat → Prop) (n : Nat) : ∃ r, First P n r := by
  induction n with
  | zero => exact ⟨none, .inr ⟨rfl, fun j hj => by omega⟩⟩
  | succ n ih =>
    obtain ⟨r, h⟩ := ih
    rcases h with ⟨i, rfl, hi, hp, hn⟩ | ⟨rfl, hn⟩
    · exact ⟨some i, .inl ⟨i, rfl, by omega, hp, hn⟩⟩
    · by_cases hp : P n
      · exact ⟨some n, .inl ⟨n, rfl, by omega, hp, hn⟩⟩
      · refine ⟨none, .inr ⟨rfl, fun j hj => ?_⟩⟩
        rcases Nat.lt_or_ge j n with h4 | h4
        · exact hn j h4
        · obtain rfl : j = n := by omega
          exact hp

theorem ret36_some {P : Nat → Prop} {n i : Nat} {e : Ending} (h : Ret36 P n e) (hF : First P n (some i)) : e = .returned (.int .i64 i) := by
  rcases h with ⟨j, hj, he⟩ | ⟨hj, _⟩
  · have := hj.unique hF
    injection this with this
    rw [he, this]
  · cases hj.unique hF
theorem ret36_none {P : Nat → Prop} {n : Nat} {e : Ending} (h : Ret36 P n e) (hF : First P n none) : e = .returned (.int .i64 (-1)) := by
  rcases h with ⟨j, hj, _⟩ | ⟨_, he⟩
  · cases hj.unique hF
  · exact he

set_option maxRecDepth 10000 in
set_option maxHeartbeats 3200000 in
theorem partition28_some (w : World) (tb : Nat) (cs : List Nat) (n2 : Nat) (S2 : Nat → ByteArray) (m : Nat → Nat) (J : Nat → Nat → Int)
    (hT : Tab w tb (.slice none 0 0) cs n2 S2 m J) (h2 : n2 ≤ 1048576) (hmm : ∀ i, i < n2 → m i ≤ 1048576) (h0 : (selIx (isP S2) m n2).length = 0) (i : Nat) (hF : First (Uq S2 m) n2 (some i)) :
    Calls Try.prog 28 #[ptr tb, .agg #[.slice none 0 0, .bool true, .string ⟨#[]⟩]] w (fun e w' => e = .returned (.tuple #[]) ∧ Parted w w' tb cs n2 S2 m J) := by
  have HM := Hid.intro hmm
  have htb := hT.lt
  have HG : Hid (gotIx S2 m n2 (some i) = rowIx i (m i)) := if_pos h0
  have HF := Hid.intro hF
  have hin : i < n2 := by
    rcases hF with ⟨j, e, hj, _⟩ | ⟨e, _⟩
    · injection e with e
      omega
    · cases e
  obtain ⟨c6, f6⟩ := hT.cell6
  have T1 : Tab ((w.setCell ⟨tb, 6, none⟩ (.slice none 0 0)).alloc (.cells #[.slice none 0 0, .bool true, .string ⟨#[]⟩] 77)) tb (.slice none 0 0) cs n2 S2 m J := (hT.part _).below ((Below.refl _ _).alloc (Nat.le_refl _) _)
  have B1 : Below tb w ((w.setCell ⟨tb, 6, none⟩ (.slice none 0 0)).alloc (.cells #[.slice none 0 0, .bool true, .string ⟨#[]⟩] 77)) := ((Below.refl tb w).setCell (Nat.le_refl _) _).alloc (by simp; omega) _
  have s1 : w.heap.size ≤ ((w.setCell ⟨tb, 6, none⟩ (.slice none 0 0)).alloc (.cells #[.slice none 0 0, .bool true, .string ⟨#[]⟩] 77)).heap.size := B1.size
  have HT1 := Hid.intro T1
  have HB1 := Hid.intro B1
  have HS1 := Hid.intro s1
  clear hF hT hmm T1 B1 s1
  go_enter Try.func28, Try.ntmps28
  go_wp2_with (go_at_call 32
               refine (lookup32 _ tb).mono ?_
               rintro e w1 ⟨rfl, rfl⟩)
  clear c6 f6
  generalize (w.setCell ⟨tb, 6, none⟩ (.slice none 0 0)).alloc (.cells #[.slice none 0 0, .bool true, .string ⟨#[]⟩] 77) = w1 at *
  refine (keycols35 w1 tb _ cs n2 S2 m J HT1.out h2 HM.out).mono ?_
  rintro e w2 ⟨⟨v, rfl, hO⟩, hB⟩
  obtain ⟨ao, cap, rfl, _⟩ := hO.form
  have hml : ((selIx (isP S2) m n2).map (ixC cs J)).length = 0 := by rw [List.length_map]; exact h0
  rw [hml]
  have HT2 := Hid.intro (HT1.out.below hB)
  have HB2 := Hid.intro (HB1.out.trans (hB.mono (Nat.le_of_lt HT1.out.lt)))
  have HS2 := Hid.intro (Nat.le_trans HS1.out hB.size)
  obtain ⟨c6, f6⟩ := HT2.out.cell6
  clear hO hB HT1 HB1 HS1 hml h0
  obtain ⟨mb, ord, keys, ks, g1, _, g3, g4, _, g5⟩ := id HT2.out
  obtain ⟨ka, kc, hk1, hk2⟩ := g3.form
  rw [List.length_map, g4] at hk1 hk2
  subst hk1
  have t2 : w2.cell? ⟨tb, 2, none⟩ = some (.slice ka n2 kc) := g1.cell (i := 2) (by omega)
  have HL : Hid (Lies w2 w2.heap.size ka n2 (fun i => ptr (ks.getD i 0))) := by
    rcases hk2 with e0 | ⟨b, off, ea, hb, hr⟩
    · exact .inl e0
    · refine .inr ⟨b, off, ea, hb, fun i hi => ?_⟩
      rw [hr i hi]
      simp [List.getD_eq_getElem?_getD, g4, hi]
  have HE : Hid (∀ j, j < n2 → ∃ cv, KeyIs w2 (ks.getD j 0) (S2 j) cv ((rowIx j (m j)).map (ixC cs J))) := g5
  have HK : Hid (∀ i, i < n2 → w2.cell? ⟨ks.getD i 0, 1, none⟩ = some (.string (S2 i)) ∧ ∃ ca cc, w2.cell? ⟨ks.getD i 0, 2, none⟩ = some (.slice ca (m i) cc)) := fun i hi => by
    obtain ⟨cv, hkey⟩ := g5 i hi
    obtain ⟨ca, cc, e, _⟩ := hkey.own.form
    rw [List.length_map, rowIx_len] at e
    subst e
    exact ⟨hkey.row.cell (i := 1) (by omega), ca, cc, hkey.row.cell (i := 2) (by omega)⟩
  clear g1 g3 hk2 g4 g5
  rcases HL.out with e0 | ⟨kb, ko, rfl, hkb, hkr⟩
  · omega
  have ck : w2.cell? ⟨kb, ko + i, none⟩ = some (ptr (ks.getD i 0)) := hkr i hin
  obtain ⟨cv, hkey⟩ := HE.out i hin
  obtain ⟨ca, cc, e, hLc⟩ := hkey.own.form
  have hml : ((rowIx i (m i)).map (ixC cs J)).length = m i := by rw [List.length_map, rowIx_len]
  rw [hml] at e hLc
  subst e
  have s2 : w2.cell? ⟨ks.getD i 0, 2, none⟩ = some (.slice ca (m i) cc) := hkey.row.cell (i := 2) (by omega)
  obtain ⟨kbk, hkbk⟩ : ∃ x, x = ks.getD i 0 := ⟨_, rfl⟩
  rw [← hkbk] at ck s2
  have HLc := Hid.intro hLc
  have hmi := HM.out i hin
  clear hkbk
  clear hkr hkey hLc
  go_wp2_with (first
    | (go_at_call 36
       refine (index36 w2 w2.heap.size _ n2 kc (fun i => ks.getD i 0) S2 m HL.out HK.out h2 HM.out).mono ?_
       rintro e w3 ⟨hret, ew⟩
       obtain rfl := ret36_some hret HF.out
       subst w3
       clear hret)
    | (at_builtin
       refine wpList_append_any w2 (by rfl) _ _ (by rfl) w2.heap.size (.slice none 0 0) [] (by rfl) (Own.nil _ _ _) (Nat.le_refl _) ca (m i) cc ((rowIx i (m i)).map (ixC cs J)) (by rfl) hml HLc.out ones (by simp; omega) ?_
       intro v' w4 hO3 hB3
       rw [List.nil_append, ← HG.out] at hO3
       obtain ⟨ao3, cap3, ev, _⟩ := hO3.form
       subst ev
       generalize ((gotIx S2 m n2 (some i)).map (ixC cs J)).length = gl at *
       obtain ⟨c6', f6', hP⟩ := parted HF.out HT2.out HB2.out htb HS2.out hO3 hB3
       have HP := Hid.intro hP
       clear hO3 hB3 hP))
  go_end0
  exact ⟨rfl, HP.out⟩

set_option maxRecDepth 10000 in
set_option maxHeartbeats 3200000 in
theorem partition28_no (w : World) (tb : Nat) (cs : List Nat) (n2 : Nat) (S2 : Nat → ByteArray) (m : Nat → Nat) (J : Nat → Nat → Int)
    (hT : Tab w tb (.slice none 0 0) cs n2 S2 m J) (h2 : n2 ≤ 1048576) (hmm : ∀ i, i < n2 → m i ≤ 1048576) (h0 : (selIx (isP S2) m n2).length = 0) (hF : First (Uq S2 m) n2 none) :
    Calls Try.prog 28 #[ptr tb, .agg #[.slice none 0 0, .bool true, .string ⟨#[]⟩]] w (fun e w' => e = .returned (.tuple #[]) ∧ Parted w w' tb cs n2 S2 m J) := by
  have HM := Hid.intro hmm
  have htb := hT.lt
  have HG : Hid (gotIx S2 m n2 none = []) := if_pos h0
  have HF := Hid.intro hF
  obtain ⟨c6, f6⟩ := hT.cell6
  have T1 : Tab ((w.setCell ⟨tb, 6, none⟩ (.slice none 0 0)).alloc (.cells #[.slice none 0 0, .bool true, .string ⟨#[]⟩] 77)) tb (.slice none 0 0) cs n2 S2 m J := (hT.part _).below ((Below.refl _ _).alloc (Nat.le_refl _) _)
  have B1 : Below tb w ((w.setCell ⟨tb, 6, none⟩ (.slice none 0 0)).alloc (.cells #[.slice none 0 0, .bool true, .string ⟨#[]⟩] 77)) := ((Below.refl tb w).setCell (Nat.le_refl _) _).alloc (by simp; omega) _
  have s1 : w.heap.size ≤ ((w.setCell ⟨tb, 6, none⟩ (.slice none 0 0)).alloc (.cells #[.slice none 0 0, .bool true, .string ⟨#[]⟩] 77)).heap.size := B1.size
  have HT1 := Hid.intro T1
  have HB1 := Hid.intro B1
  have HS1 := Hid.intro s1
  clear hF hT hmm T1 B1 s1
  go_enter Try.func28, Try.ntmps28
  go_wp2_with (go_at_call 32
               refine (lookup32 _ tb).mono ?_
               rintro e w1 ⟨rfl, rfl⟩)
  clear c6 f6
  generalize (w.setCell ⟨tb, 6, none⟩ (.slice none 0 0)).alloc (.cells #[.slice none 0 0, .bool true, .string ⟨#[]⟩] 77) = w1 at *
  refine (keycols35 w1 tb _ cs n2 S2 m J HT1.out h2 HM.out).mono ?_
  rintro e w2 ⟨⟨v, rfl, hO⟩, hB⟩
  obtain ⟨ao, cap, rfl, _⟩ := hO.form
  have hml : ((selIx (isP S2) m n2).map (ixC cs J)).length = 0 := by rw [List.length_map]; exact h0
  rw [hml]
  have HT2 := Hid.intro (HT1.out.below hB)
  have HB2 := Hid.intro (HB1.out.trans (hB.mono (Nat.le_of_lt HT1.out.lt)))
  have HS2 := Hid.intro (Nat.le_trans HS1.out hB.size)
  obtain ⟨c6, f6⟩ := HT2.out.cell6
  clear hO hB HT1 HB1 HS1 hml h0
  obtain ⟨mb, ord, keys, ks, g1, _, g3, g4, _, g5⟩ := id HT2.out
  obtain ⟨ka, kc, hk1, hk2⟩ := g3.form
  rw [List.length_map, g4] at hk1 hk2
  subst hk1
  have t2 : w2.cell? ⟨tb, 2, none⟩ = some (.slice ka n2 kc) := g1.cell (i := 2) (by omega)
  have HL : Hid (Lies w2 w2.heap.size ka n2 (fun i => ptr (ks.getD i 0))) := by
    rcases hk2 with e0 | ⟨b, off, ea, hb, hr⟩
    · exact .inl e0
    · refine .inr ⟨b, off, ea, hb, fun i hi => ?_⟩
      rw [hr i hi]
      simp [List.getD_eq_getElem?_getD, g4, hi]
  have HE : Hid (∀ j, j < n2 → ∃ cv, KeyIs w2 (ks.getD j 0) (S2 j) cv ((rowIx j (m j)).map (ixC cs J))) := g5
  have HK : Hid (∀ i, i < n2 → w2.cell? ⟨ks.getD i 0, 1, none⟩ = some (.string (S2 i)) ∧ ∃ ca cc, w2.cell? ⟨ks.getD i 0, 2, none⟩ = some (.slice ca (m i) cc)) := fun i hi => by
    obtain ⟨cv, hkey⟩ := g5 i hi
    obtain ⟨ca, cc, e, _⟩ := hkey.own.form
    rw [List.length_map, rowIx_len] at e
    subst e
    exact ⟨hkey.row.cell (i := 1) (by omega), ca, cc, hkey.row.cell (i := 2) (by omega)⟩
  clear g1 g3 hk2 g4 g5
  go_wp2_with (first
    | (go_at_call 36
       refine (index36 w2 w2.heap.size ka n2 kc (fun i => ks.getD i 0) S2 m HL.out HK.out h2 HM.out).mono ?_
       rintro e w3 ⟨hret, ew⟩
       obtain rfl := ret36_none hret HF.out
       subst w3
       clear hret)
    | (at_builtin
       refine wpList_append_any w2 (by rfl) _ _ (by rfl) w2.heap.size (.slice none 0 0) [] (by rfl) (Own.nil _ _ _) (Nat.le_refl _) ao 0 cap [] (by rfl) rfl (.inl rfl) (by simp) (by simp) ?_
       intro v' w4 hO3 hB3
       have hO3' : Own w4 w2.heap.size 34 v' ((gotIx S2 m n2 none).map (ixC cs J)) := by rw [HG.out]; exact hO3
       obtain ⟨ao3, cap3, ev, _⟩ := hO3'.form
       subst ev
       generalize ((gotIx S2 m n2 none).map (ixC cs J)).length = gl at *
       obtain ⟨c6', f6', hP⟩ := parted HF.out HT2.out HB2.out htb HS2.out hO3' hB3
       have HP := Hid.intro hP
       clear hO3 hO3' hB3 hP))
  go_end0
  exact ⟨rfl, HP.out⟩

theorem partition28 (w : World) (tb : Nat) (cs : List Nat) (n2 : Nat) (S2 : Nat → ByteArray) (m : Nat → Nat) (J : Nat → Nat → Int)
    (hT : Tab w tb (.slice none 0 0) cs n2 S2 m J) (h2 : n2 ≤ 1048576) (hmm : ∀ i, i < n2 → m i ≤ 1048576) :
    Calls Try.prog 28 #[ptr tb, .agg #[.slice none 0 0, .bool true, .string ⟨#[]⟩]] w (fun e w' => e = .returned (.tuple #[]) ∧ Parted w w' tb cs n2 S2 m J) := by
  obtain ⟨r, hr⟩ := first_exists (Uq S2 m) n2
  by_cases h0 : (selIx (isP S2) m n2).length = 0
  · cases r with
    | some i => exact partition28_some w tb cs n2 S2 m J hT h2 hmm h0 i hr
    | none => exact partition28_no w tb cs n2 S2 m J hT h2 hmm h0 hr
  · exact partition28_pk w tb cs n2 S2 m J r hr hT h2 hmm (by omega)

theorem partition13 (w : World) (tb : Nat) (cs : List Nat) (n2 : Nat) (S2 : Nat → ByteArray) (m : Nat → Nat) (J : Nat → Nat → Int)
    (hT : Tab w tb (.slice none 0 0) cs n2 S2 m J) (h2 : n2 ≤ 1048576) (hmm : ∀ i, i < n2 → m i ≤ 1048576) :
    Calls Try.prog 13 #[ptr tb, .slice none 0 0, .bool true, .string ⟨#[]⟩] w (fun e w' => e = .returned (.tuple #[]) ∧ Parted w w' tb cs n2 S2 m J) := by
  have H : Hid (Calls Try.prog 28 #[ptr tb, .agg #[.slice none 0 0, .bool true, .string ⟨#[]⟩]] w (fun e w' => e = .returned (.tuple #[]) ∧ Parted w w' tb cs n2 S2 m J)) := partition28 w tb cs n2 S2 m J hT h2 hmm
  clear hT hmm
  go_enter Try.func13, Try.ntmps13
  go_wp2_with (first
    | (go_at_call 27
       refine (names27 w).mono ?_
       rintro e w1 ⟨rfl, ew⟩
       subst ew)
    | (go_at_call 28
       refine (H.out).mono ?_
       rintro e w2 ⟨rfl, hP⟩
       have HP := Hid.intro hP
       clear hP))
  go_end0
  exact ⟨rfl, HP.out⟩
end Go.Proofs.Qxb6613626a
