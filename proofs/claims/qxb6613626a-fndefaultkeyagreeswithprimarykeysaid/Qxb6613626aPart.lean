/-
  partition, with the default key.
-/
import Derived.Test.Qxb6613626aKeyCols
namespace Go.Proofs.Qxb6613626a
open Go.ChangeShapes Go.WideShapes Go.ChangeAt Go.RowKit Go.Maps

theorem names27 (w : World) : Calls Try.prog 27 #[.slice none 0 0] w (fun e w' => e = .returned (.slice none 0 0) ∧ w' = w) := by
  go_enter Try.func27, Try.ntmps27
  go_wp2_with fail
  refine wp_loop_rounds 1 ?_
  rw [rounds_succ]
  go_wp2
  go_ret
  exact ⟨rfl, rfl⟩

theorem lookup32 (w : World) (tb : Nat) : Calls Try.prog 32 #[ptr tb, .slice none 0 0] w (fun e w' => e = .returned (.slice none 0 0) ∧ w' = w) := by
  go_enter Try.func32, Try.ntmps32
  go_wp2_with fail
  refine wp_loop_rounds 1 ?_
  rw [rounds_succ]
  go_wp2
  go_ret
  exact ⟨rfl, rfl⟩

def RetU (s : ByteArray) (mm : Nat) (e : Ending) : Prop := ∃ b, e = .returned (.bool b) ∧ (b = true ↔ s.toList = [85, 78, 73, 81, 85, 69] ∧ 0 < mm)

theorem uniq37 (w : World) (kb : Nat) (s : ByteArray) (ca : Option Addr) (mm cc : Nat) (h1 : w.cell? ⟨kb, 1, none⟩ = some (.string s)) (h2 : w.cell? ⟨kb, 2, none⟩ = some (.slice ca mm cc)) :
    Calls Try.prog 37 #[ptr kb] w (fun e w' => RetU s mm e ∧ w' = w) := by
  by_cases hu : s.toList = [85, 78, 73, 81, 85, 69]
  · by_cases h0 : 0 < mm
    · go_enter Try.func37, Try.ntmps37
      go_wp2
      go_ret
      exact ⟨⟨true, rfl, fun _ => ⟨hu, h0⟩, fun _ => rfl⟩, rfl⟩
    · go_enter Try.func37, Try.ntmps37
      go_wp2
      go_ret
      exact ⟨⟨false, rfl, (fun h => by cases h), fun h => absurd h.2 h0⟩, rfl⟩
  · go_enter Try.func37, Try.ntmps37
    go_wp2
    go_ret
    exact ⟨⟨false, rfl, (fun h => by cases h), fun h => absurd h.1 hu⟩, rfl⟩


def Ret36 (P : Nat → Prop) (n : Nat) (e : Ending) : Prop := (∃ i : Nat, First P n (some i) ∧ e = .returned (.int .i64 i)) ∨ (First P n none ∧ e = .returned (.int .i64 (-1)))

set_option maxRecDepth 10000 in
set_option maxHeartbeats 1600000 in
theorem index36 (w : World) (B : Nat) (ka : Option Addr) (n kc : Nat) (ks : Nat → Nat) (S2 : Nat → ByteArray) (m : Nat → Nat) (hL : Lies w B ka n (fun i => ptr (ks i)))
    (hk : ∀ i, i < n → w.cell? ⟨ks i, 1, none⟩ = some (.string (S2 i)) ∧ ∃ ca cc, w.cell? ⟨ks i, 2, none⟩ = some (.slice ca (m i) cc)) (hn : n ≤ 1048576) (hmm : ∀ i, i < n → m i ≤ 1048576) :
    Calls Try.prog 36 #[.slice ka n kc, .func (.func 37) #[] #[]] w (fun e w' => Ret36 (Uq S2 m) n e ∧ w' = w) := by
  have HL : Hid (Lies w B ka n (fun i => ptr (ks i))) := hL
  have HK : Hid (∀ i, i < n → w.cell? ⟨ks i, 1, none⟩ = some (.string (S2 i)) ∧ ∃ ca cc, w.cell? ⟨ks i, 2, none⟩ = some (.slice ca (m i) cc)) := hk
  have HM : Hid (∀ i, i < n → m i ≤ 1048576) := hmm
  clear hL hk hmm
  go_enter Try.func36, Try.ntmps36
  go_wp2_with fail
  go_loop [8] (fun i => ∃ k : Nat, k ≤ n ∧ i = .int .i64 k ∧ ∀ j, j < k → ¬ Uq S2 m j) (fun i => (1048577 - intOf i).toNat)
  case atStart => exact ⟨0, Nat.zero_le _, rfl, fun j hj => by omega⟩
  case round =>
    obtain ⟨k, hk, rfl, hd⟩ := hrel
    have HD : Hid (∀ j, j < k → ¬ Uq S2 m j) := hd
    clear hd
    by_cases hlt : k < n
    · rcases HL.out with h0 | ⟨b, off, rfl, hb, hr⟩
      · omega
      have ck : w.cell? ⟨b, off + k, none⟩ = some (ptr (ks k)) := hr k hlt
      clear hr
      obtain ⟨s1, ca, cc, s2⟩ := HK.out k hlt
      have hmk := HM.out k hlt
      go_wp2_with (go_at_call 37
                   refine (uniq37 w (ks k) (S2 k) ca (m k) cc s1 s2).mono ?_
                   rintro e w' ⟨⟨bu, rfl, hbu⟩, rfl⟩
                   have HU : Hid (∃ c : Bool, c = bu ∧ (c = true ↔ Uq S2 m k)) := ⟨bu, rfl, hbu⟩
                   clear hbu
                   rcases bu with _ | _)
      · refine ⟨⟨k + 1, by omega, by go_num, fun j hj => ?_⟩, meas hlt hn⟩
        rcases Nat.lt_or_ge j k with h4 | h4
        · exact HD.out j h4
        · obtain rfl : j = k := by omega
          obtain ⟨c, rfl, h⟩ := HU.out
          exact fun hq => by cases h.2 hq
      · go_ret
        obtain ⟨c, rfl, h⟩ := HU.out
        exact ⟨.inl ⟨k, .inl ⟨k, rfl, hlt, h.1 rfl, HD.out⟩, rfl⟩, rfl⟩
    · go_wp2
      go_ret
      exact ⟨.inr ⟨.inr ⟨rfl, fun j hj => HD.out j (by omega)⟩, rfl⟩, rfl⟩

/-- The entries of the keys that the default partitioning takes; r: the first unique key that names a column. -/
def gotIx (S2 : Nat → ByteArray) (m : Nat → Nat) (n2 : Nat) (r : Option Nat) : List (Nat × Nat) :=
  if (selIx (isP S2) m n2).length = 0 then (match r with | some i => rowIx i (m i) | none => []) else selIx (isP S2) m n2

def Parted (w w' : World) (tb : Nat) (cs : List Nat) (n2 : Nat) (S2 : Nat → ByteArray) (m : Nat → Nat) (J : Nat → Nat → Int) : Prop :=
  ∃ r part, First (Uq S2 m) n2 r ∧ Tab w' tb part cs n2 S2 m J ∧ Own w' w.heap.size 34 part ((gotIx S2 m n2 r).map (ixC cs J)) ∧ Below tb w w'

theorem ones {L : List (Nat × Nat)} {cs : List Nat} {J : Nat → Nat → Int} : ∀ u ∈ L.map (ixC cs J), u.oneCell' = true := by
  intro u hu
  obtain ⟨p, _, rfl⟩ := List.mem_map.1 hu
  rfl

/-- The row of pointers, as its cells lie. -/
theorem Own.lies {w : World} {B : Nat} {v : Value} {xs : List Value} (h : Own w B 34 v xs) : ∃ ao cap, v = .slice ao xs.length cap ∧ Lies w w.heap.size ao xs.length (fun i => xs.getD i undef) := h.form

theorem below_tab {w w' : World} {tb : Nat} (h : Below w.heap.size w w') (ht : tb < w.heap.size) : Below tb w w' := h.mono (by omega)

theorem Tab.cell6 {w : World} {tb : Nat} {part : Value} {cs : List Nat} {n2 : Nat} {S2 : Nat → ByteArray} {m : Nat → Nat} {J : Nat → Nat → Int} (h : Tab w tb part cs n2 S2 m J) :
    w.cell? ⟨tb, 6, none⟩ = some part ∧ w.frozen? ⟨tb, 6, none⟩ = false := by
  obtain ⟨mb, ord, keys, ks, h1, _⟩ := h
  exact ⟨h1.cell (i := 6) (by omega), h1.frozen 6⟩

/-- Behind the last append. -/
theorem parted {w w2 w3 : World} {tb : Nat} {cs : List Nat} {n2 : Nat} {S2 : Nat → ByteArray} {m : Nat → Nat} {J : Nat → Nat → Int} {r : Option Nat} {v : Value} (hr : First (Uq S2 m) n2 r)
    (hT : Tab w2 tb (.slice none 0 0) cs n2 S2 m J) (hB2 : Below tb w w2) (htb : tb < w.heap.size) (hs : w.heap.size ≤ w2.heap.size) (hO : Own w3 w2.heap.size 34 v ((gotIx S2 m n2 r).map (ixC cs J))) (hB : Below w2.heap.size w2 w3) :
    w3.cell? ⟨tb, 6, none⟩ = some (.slice none 0 0) ∧ w3.frozen? ⟨tb, 6, none⟩ = false ∧ Parted w (w3.setCell ⟨tb, 6, none⟩ v) tb cs n2 S2 m J := by
  have hT3 := hT.below hB
  refine ⟨hT3.cell6.1, hT3.cell6.2, r, v, hr, hT3.part v, ?_, ?_⟩
  · exact (hO.mono hs).setCell (by exact htb) v
  · exact (hB2.trans (hB.mono (by omega))).setCell (Nat.le_refl _) _

set_option maxRecDepth 10000 in
set_option maxHeartbeats 3200000 in
theorem partition28_pk (w : World) (tb : Nat) (cs : List Nat) (n2 : Nat) (S2 : Nat → ByteArray) (m : Nat → Nat) (J : Nat → Nat → Int) (r : Option Nat) (hr : First (Uq S2 m) n2 r)
    (hT : Tab w tb (.slice none 0 0) cs n2 S2 m J) (h2 : n2 ≤ 1048576) (hmm : ∀ i, i < n2 → m i ≤ 1048576) (hpos : 0 < (selIx (isP S2) m n2).length) :
    Calls Try.prog 28 #[ptr tb, .agg #[.slice none 0 0, .bool true, .string ⟨#[]⟩]] w (fun e w' => e = .returned (.tuple #[]) ∧ Parted w w' tb cs n2 S2 m J) := by
  have HR := Hid.intro hr
  have HM := Hid.intro hmm
  have htb := hT.lt
  have hlen : (selIx (isP S2) m n2).length ≤ 8796093022208 := by
    have h3 := selIx_len (P := isP S2) (n := n2) hmm (Nat.le_refl _)
    have : n2 * 1048576 ≤ 1048576 * 1048576 := Nat.mul_le_mul_right _ h2
    omega
  have HG : Hid (gotIx S2 m n2 r = selIx (isP S2) m n2) := if_neg (by omega)
  obtain ⟨c6, f6⟩ := hT.cell6
  have T1 : Tab ((w.setCell ⟨tb, 6, none⟩ (.slice none 0 0)).alloc (.cells #[.slice none 0 0, .bool true, .string ⟨#[]⟩] 77)) tb (.slice none 0 0) cs n2 S2 m J := (hT.part _).below ((Below.refl _ _).alloc (Nat.le_refl _) _)
  have B1 : Below tb w ((w.setCell ⟨tb, 6, none⟩ (.slice none 0 0)).alloc (.cells #[.slice none 0 0, .bool true, .string ⟨#[]⟩] 77)) := ((Below.refl tb w).setCell (Nat.le_refl _) _).alloc (by simp; omega) _
  have s1 : w.heap.size ≤ ((w.setCell ⟨tb, 6, none⟩ (.slice none 0 0)).alloc (.cells #[.slice none 0 0, .bool true, .string ⟨#[]⟩] 77)).heap.size := B1.size
  have HT1 := Hid.intro T1
  have HB1 := Hid.intro B1
  have HS1 := Hid.intro s1
  clear hr hT hmm T1 B1 s1
  go_enter Try.func28, Try.ntmps28
  go_wp2_with (go_at_call 32
               refine (lookup32 _ tb).mono ?_
               rintro e w1 ⟨rfl, rfl⟩)
  clear c6 f6
  generalize (w.setCell ⟨tb, 6, none⟩ (.slice none 0 0)).alloc (.cells #[.slice none 0 0, .bool true, .string ⟨#[]⟩] 77) = w1 at *
  refine (keycols35 w1 tb _ cs n2 S2 m J HT1.out h2 HM.out).mono ?_
  rintro e w2 ⟨⟨v, rfl, hO⟩, hB⟩
  obtain ⟨ao, cap, rfl, hL⟩ := hO.form
  have hml : ((selIx (isP S2) m n2).map (ixC cs J)).length = (selIx (isP S2) m n2).length := List.length_map _
  rw [hml] at hL
  have HL := Hid.intro hL
  have HT2 := Hid.intro (HT1.out.below hB)
  have HB2 := Hid.intro (HB1.out.trans (hB.mono (Nat.le_of_lt HT1.out.lt)))
  have HS2 := Hid.intro (Nat.le_trans HS1.out hB.size)
  obtain ⟨c6, f6⟩ := HT2.out.cell6
  clear hO hB hL HT1 HB1 HS1
  go_wp2_with (at_builtin
               refine wpList_append_any w2 (by rfl) _ _ (by rfl) w2.heap.size (.slice none 0 0) [] (by rfl) (Own.nil _ _ _) (Nat.le_refl _) ao _ cap ((selIx (isP S2) m n2).map (ixC cs J)) (by rfl) hml HL.out ones (by simpa using hlen) ?_
               intro v' w3 hO3 hB3
               rw [List.nil_append, ← HG.out] at hO3
               obtain ⟨ao3, cap3, ev, _⟩ := hO3.form
               subst ev
               generalize ((gotIx S2 m n2 r).map (ixC cs J)).length = gl at *
               obtain ⟨c6', f6', hP⟩ := parted HR.out HT2.out HB2.out htb HS2.out hO3 hB3
               have HP := Hid.intro hP
               clear hO3 hB3 hP)
  go_end0
  exact ⟨rfl, HP.out⟩
end Go.Proofs.Qxb6613626a
