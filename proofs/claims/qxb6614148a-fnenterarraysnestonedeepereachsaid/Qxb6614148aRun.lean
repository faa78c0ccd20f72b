/-
  A run of enters: what the nesting holds after i of them, and what its readers answer.
-/
import Derived.Test.Qxb6614148aBuild
namespace Go.Proofs.Qxb6614148a
open Go.ChangeShapes Go.WideShapes Go.ChangeAt Go.RowKit

/-- Where a key of the i'th stands: the depth behind i entries. -/
def dp (tb : Bool) (v0 : Int) (i : Nat) (x : Int) : Int := if i = 0 then x else wrap64 (v0 + ((i : Int) - (bif tb then 1 else 0)))
def dt (i : Nat) (dots : Int) : Int := if i = 0 then dots else 0
def kf (tb : Bool) (i : Nat) (ik : Bool) : Bool := if i = 0 then ik else tb
/-- The i'th level that is entered. -/
def mlev (tb : Bool) (v0 dep : Int) (K : Nat → Int) (i : Nat) : Lv := ⟨dp tb v0 i dep, wrap64 (v0 + i), tb, K i, !tb⟩
def lev (l : Nat) (L M : Nat → Lv) (j : Nat) : Lv := if j < l then L j else M (j - l)

theorem flat_congr {N M : Nat → Lv} {n : Nat} (h : ∀ j, j < n → N j = M j) : flat N n = flat M n := by
  induction n with
  | zero => rfl
  | succ n ih => rw [flat, flat, ih (fun j hj => h j (by omega)), h n (by omega)]

theorem flat_lev (l : Nat) (L M : Nat → Lv) : flat (lev l L M) l = flat L l := flat_congr fun j hj => by simp [lev, hj]
theorem lev_at (l : Nat) (L M : Nat → Lv) (i : Nat) : lev l L M (l + i) = M i := by
  unfold lev
  rw [if_neg (by omega)]
  congr 1
  omega
theorem flat_lev_succ (l : Nat) (L M : Nat → Lv) (i : Nat) : flat (lev l L M) (l + (i + 1)) = flat (lev l L M) (l + i) ++ (M i).cells := by
  show flat (lev l L M) (l + i + 1) = _
  rw [flat]
  congr 2
  exact lev_at l L M i

theorem wrap_add (x : Int) (y : Int) : wrap64 (wrap64 x + y) = wrap64 (x + y) := by
  simp only [wrap64]; omega
theorem wrap_add_zero (x : Int) : wrap64 (wrap64 x + 0) = wrap64 x := by
  simp only [wrap64]; omega

theorem nv_step (tb : Bool) (v0 dep val dots : Int) (ik : Bool) (hv : nv dep val dots ik = v0) (hw : wrap64 v0 = v0) (i : Nat) :
    nv (dp tb v0 i dep) (dp tb v0 i val) (dt i dots) (kf tb i ik) = wrap64 (v0 + i) := by
  by_cases h : i = 0
  · subst h
    simp [dp, dt, kf, hv, hw]
  · simp only [dp, dt, kf, if_neg h]
    cases tb
    · simp [nv]
    · simp only [nv, cond_true]
      rw [wrap_add_zero, wrap_add]
      congr 1
      omega
theorem ent_step (tb : Bool) (v0 : Int) (i : Nat) (x : Int) : ent tb (wrap64 (v0 + i)) = dp tb v0 (i + 1) x := by
  unfold dp
  rw [if_neg (by omega)]
  cases tb
  · simp only [ent, cond_false]
    rw [wrap_add]
    congr 1
    omega
  · simp only [ent, cond_true]
    congr 1
    omega

/-- The nesting behind i entries. -/
def Run (w : World) (nb : Nat) (lim tab dep val dots : Int) (ik tb : Bool) (l : Nat) (L : Nat → Lv) (K : Nat → Int) (v0 : Int) (i : Nat) : Prop :=
  ∃ ao cap, Nest w nb lim tab (dp tb v0 i dep) (dp tb v0 i val) (dt i dots) (kf tb i ik) false ao (l + i) cap (flat (lev l L (mlev tb v0 dep K)) (l + i))

section
variable {w w' : World} {nb : Nat} {lim tab dep val dots : Int} {ik tb : Bool} {l : Nat} {L : Nat → Lv} {K : Nat → Int} {v0 : Int} {i : Nat}

theorem Run.below (h : Run w nb lim tab dep val dots ik tb l L K v0 i) (hb : Below w.heap.size w w') : Run w' nb lim tab dep val dots ik tb l L K v0 i := by
  obtain ⟨ao, cap, h⟩ := h
  exact ⟨ao, cap, h.below hb⟩

theorem Run.start {ao : Option Addr} {cap : Nat} (h : Nest w nb lim tab dep val dots ik false ao l cap (flat L l)) : Run w nb lim tab dep val dots ik tb l L K v0 0 :=
  ⟨ao, cap, by
    rw [Nat.add_zero, flat_lev]
    exact h⟩

theorem Run.step (h : Run w nb lim tab dep val dots ik tb l L K v0 i) (hv : nv dep val dots ik = v0) (hw : wrap64 v0 = v0) (hn : l + i ≤ 1048576) :
    Calls Try.prog 7 #[.pointer (some ⟨nb, 0, none⟩), .bool tb, .int .i64 (K i)] w (fun e w' =>
      e = .returned (.bool (decide (lim < dp tb v0 (i + 1) 0))) ∧ Run w' nb lim tab dep val dots ik tb l L K v0 (i + 1) ∧ Below nb w w') := by
  obtain ⟨ao, cap, h⟩ := h
  refine (enter7 w nb lim tab _ _ _ _ ao (l + i) cap _ tb (K i) h hn).mono ?_
  rintro e w' ⟨he, ⟨ao', cap', hN⟩, hB⟩
  rw [nv_step tb v0 dep val dots ik hv hw i] at he hN
  refine ⟨?_, ⟨ao', cap', ?_⟩, hB⟩
  · rw [he, ent_step tb v0 i 0]
  · have e1 := ent_step tb v0 i dep
    have e2 := ent_step tb v0 i val
    rw [flat_lev_succ]
    rw [← e1]
    have e3 : ent tb (wrap64 (v0 + i)) = dp tb v0 (i + 1) val := e2
    rw [← e3]
    exact hN

theorem Run.fields (h : Run w nb lim tab dep val dots ik tb l L K v0 i) :
    Calls Try.prog 8 #[.pointer (some ⟨nb, 0, none⟩)] w (fun e w' =>
      e = .returned (.tuple #[.int .i64 lim, .int .i64 tab, .int .i64 (dp tb v0 i dep), .int .i64 (dp tb v0 i val), .int .i64 (dt i dots), .bool (kf tb i ik), .bool false, .int .i64 ((l + i : Nat) : Int)]) ∧ ∃ m, w' = w.drewN m) := by
  obtain ⟨ao, cap, h⟩ := h
  exact fields8 w nb lim tab _ _ _ _ false ao (l + i) cap _ h

theorem Run.prior {B : Nat} {a : Option Addr} {cap : Nat} (h : Run w nb lim tab dep val dots ik tb l L K v0 i) (hp : Prior w B a l L) (hB : B ≤ w.heap.size) (hn : l ≤ 32768) :
    Calls Try.prog 9 #[.pointer (some ⟨nb, 0, none⟩), .slice a l cap] w (fun e w' => e = .returned (.bool true) ∧ Below w.heap.size w w') := by
  obtain ⟨ao, cn, h⟩ := h
  exact prior9 w nb B lim tab _ _ _ _ false ao (l + i) cn _ a l cap L h hp hB (by omega) (fun j hj => by simp [lev, hj]) hn

theorem Run.level {j : Nat} (h : Run w nb lim tab dep val dots ik tb l L K v0 i) (hj : j < i) :
    Calls Try.prog 10 #[.pointer (some ⟨nb, 0, none⟩), .int .i64 ((l : Int) + j)] w (fun e w' =>
      e = .returned (.tuple #[.int .i64 (dp tb v0 j dep), .int .i64 (wrap64 (v0 + j)), .bool tb, .int .i64 (K j), .bool !tb]) ∧ Below w.heap.size w w') := by
  obtain ⟨ao, cap, h⟩ := h
  have h1 := level10 w nb lim tab _ _ _ _ false ao (l + i) cap _ (l + j) h (by omega)
  have e : lev l L (mlev tb v0 dep K) (l + j) = mlev tb v0 dep K j := lev_at _ _ _ _
  rw [e] at h1
  have e2 : ((l + j : Nat) : Int) = (l : Int) + j := by omega
  rw [e2] at h1
  exact h1
end

end Go.Proofs.Qxb6614148a
