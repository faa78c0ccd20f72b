/-
  THE PLAIN LAW of FnFailedTryFailsExactlyOnceOverATurnScript: no Go in sight. 'fidx ft zs k': the first of the first k places at which zs holds ft, or -1.
-/
namespace Go.Proofs.Qxb6614291a

def fidx (ft : Int) (zs : List Int) : Nat → Int
  | 0 => -1
  | k + 1 => if 0 ≤ fidx ft zs k then fidx ft zs k else if zs.getD k 0 = ft then (k : Int) else -1

theorem fidx_bd (ft : Int) (zs : List Int) (k : Nat) : -1 ≤ fidx ft zs k ∧ fidx ft zs k < k := by
  induction k with
  | zero => simp [fidx]
  | succ k ih =>
    unfold fidx
    split
    · omega
    · split <;> omega
theorem fidx_hit {ft : Int} {zs : List Int} {k : Nat} (h : fidx ft zs k = -1) (e : zs.getD k 0 = ft) : fidx ft zs (k + 1) = k := by
  rw [fidx, if_neg (by omega), if_pos e]
theorem fidx_miss {ft : Int} {zs : List Int} {k : Nat} (h : fidx ft zs k = -1) (e : ¬ zs.getD k 0 = ft) : fidx ft zs (k + 1) = -1 := by
  rw [fidx, if_neg (by omega), if_neg e]
theorem fidx_keep {ft : Int} {zs : List Int} {k : Nat} (h : 0 ≤ fidx ft zs k) : fidx ft zs (k + 1) = fidx ft zs k := by
  rw [fidx, if_pos h]
theorem fidx_stays {ft : Int} {zs : List Int} {k : Nat} (h : 0 ≤ fidx ft zs k) (d : Nat) : fidx ft zs (k + d) = fidx ft zs k := by
  induction d with
  | zero => rfl
  | succ d ih => rw [← Nat.add_assoc, fidx_keep (by omega), ih]
theorem fidx_end {ft : Int} {zs : List Int} {k n : Nat} (h : fidx ft zs k = -1) (e : zs.getD k 0 = ft) (hn : k < n) : fidx ft zs n = k := by
  obtain ⟨d, rfl⟩ : ∃ d, n = k + 1 + d := ⟨n - (k + 1), by omega⟩
  have h1 := fidx_hit h e
  rw [fidx_stays (by omega), h1]

/-- Has a failure been remembered after k tries? How many have fired? At which place did the first? -/
def flag (ff : Bool) (ft : Int) (zs : List Int) (k : Nat) : Bool := ff || decide (0 ≤ fidx ft zs k)
def fir (ff : Bool) (ft : Int) (zs : List Int) (k : Nat) : Int := if ff = false ∧ 0 ≤ fidx ft zs k then 1 else 0
def fat (ff : Bool) (ft : Int) (zs : List Int) (k : Nat) : Int := if ff = false ∧ 0 ≤ fidx ft zs k then fidx ft zs k else -1

theorem step_no {ff : Bool} {ft : Int} {zs : List Int} {k : Nat} (h : zs.getD k 0 ≠ ft ∨ flag ff ft zs k = true) :
    flag ff ft zs (k + 1) = flag ff ft zs k ∧ fir ff ft zs (k + 1) = fir ff ft zs k ∧ fat ff ft zs (k + 1) = fat ff ft zs k := by
  by_cases hf : 0 ≤ fidx ft zs k
  · unfold flag fir fat; rw [fidx_keep hf]; exact ⟨rfl, rfl, rfl⟩
  · have hb := fidx_bd ft zs k
    have hm : fidx ft zs k = -1 := by omega
    cases ff with
    | true => simp [flag, fir, fat]
    | false =>
      have hne : ¬ zs.getD k 0 = ft := by
        rcases h with h | h
        · exact h
        · simp [flag] at h; omega
      unfold flag fir fat
      rw [fidx_miss hm hne, hm]
      exact ⟨rfl, rfl, rfl⟩
theorem step_yes {ff : Bool} {ft : Int} {zs : List Int} {k : Nat} (h : zs.getD k 0 = ft) (hf : flag ff ft zs k = false) :
    (flag ff ft zs (k + 1) = true ∧ fir ff ft zs (k + 1) = 1 ∧ fat ff ft zs (k + 1) = k) ∧ fir ff ft zs k = 0 ∧ fat ff ft zs k = -1 := by
  have hb := fidx_bd ft zs k
  simp only [flag, Bool.or_eq_false_iff, decide_eq_false_iff_not] at hf
  obtain ⟨rfl, hf⟩ := hf
  have hm : fidx ft zs k = -1 := by omega
  unfold flag fir fat
  rw [fidx_hit hm h, hm]
  simp
theorem end_true (ft : Int) (zs : List Int) (n : Nat) : flag true ft zs n = true ∧ fir true ft zs n = 0 ∧ fat true ft zs n = -1 := by simp [flag, fir, fat]
theorem end_none {ft : Int} {zs : List Int} {n : Nat} (h : fidx ft zs n = -1) : flag false ft zs n = false ∧ fir false ft zs n = 0 ∧ fat false ft zs n = -1 := by
  unfold flag fir fat; rw [h]; simp
theorem end_some {ft : Int} {zs : List Int} {n k : Nat} (h : fidx ft zs n = k) : flag false ft zs n = true ∧ fir false ft zs n = 1 ∧ fat false ft zs n = k := by
  unfold flag fir fat; rw [h]; simp
theorem flag_zero (ff : Bool) (ft : Int) (zs : List Int) : flag ff ft zs 0 = ff ∧ fir ff ft zs 0 = 0 ∧ fat ff ft zs 0 = -1 := by
  cases ff <;> simp [flag, fir, fat, fidx]
end Go.Proofs.Qxb6614291a
