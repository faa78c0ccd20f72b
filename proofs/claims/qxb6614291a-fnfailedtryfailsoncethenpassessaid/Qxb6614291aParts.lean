/-
  THE CALLEES' CONTRACTS, both statements of the seat: zzCloneInts (6), ZZnewGameFail (7), failedTry (14), ZZfailedTry (8), the readers (10, 12, 13).
-/
import Derived.Test.Qxb6614291aRows
import Derived.WalkKit
import Derived.ProofKit
import Derived.OpenShut
import Derived.ShutString
import Derived.ChangeOld
import Derived.Below
import Derived.Deep.OwnRows
import Derived.Deep.MidRow
import Derived.Lib.SliceRun
namespace Go.Proofs.Qxb6614291a
open Go.ChangeShapes Go.WideShapes Go.ChangeAt Go.RowKit

theorem info45 : (Try.prog.info? 45).map (·.size) = some 28 := by kernel_rfl
theorem info3 : (Try.prog.info? 3).map (fun i => (i.zero, i.size, i.bytes)) = some (some (.int .i64 0), 1, 8) := by kernel_rfl

/-! ### zzCloneInts -/
theorem clone_nil (w : World) :
    Calls Try.prog 6 #[.slice none 0 0] w fun e w' => e = .returned (.slice none 0 0) ∧ w' = w := by
  have q22 : ∀ (w : World) (a : Option Addr) (n c n' c' : Nat), (binOp .eql 22 (.slice a n c) (.slice none n' c')).run Try.prog w = .ok (.bool a.isNone) w := fun w a n c n' c' => Lib.run_eql_slice_nil w _ _ a n c n' c' Try.underlying22
  go_enter Try.func6, Try.ntmps6
  go_wp2
  go_ret
  exact ⟨rfl, rfl⟩

/-- What the new row holds when k cells are copied. -/
def cloned (zs : List Int) (k j : Nat) : Value := .int .i64 (if j < k then zs.getD j 0 else 0)

theorem clone_step {w wr : World} {len k : Nat} {zs : List Int} {v : Value} (h : wr.rowIs w.heap.size 3 len (cloned zs k)) (hb : Below w.heap.size w wr) (hv : v = .int .i64 (zs.getD k 0)) :
    (wr.setCell ⟨w.heap.size, k, none⟩ v).rowIs w.heap.size 3 len (cloned zs (k + 1)) ∧ Below w.heap.size w (wr.setCell ⟨w.heap.size, k, none⟩ v) := by
  subst hv
  refine ⟨(h.set k _).congr (fun j _ => ?_), hb.setCell (Nat.le_refl _) _⟩
  unfold cloned
  by_cases e : j = k
  · subst e; simp
  · rw [if_neg e]
    by_cases hlt : j < k
    · rw [if_pos hlt, if_pos (by omega)]
    · rw [if_neg hlt, if_neg (by omega)]

theorem clone_some (b off len cap : Nat) (zs : List Int) (w : World) (hm : len ≤ 131072) (hb : b < w.heap.size) (hc : ∀ i, i < len → w.cell? ⟨b, off + i, none⟩ = some (.int .i64 (zs.getD i 0))) :
    Calls Try.prog 6 #[.slice (some ⟨b, off, none⟩) len cap] w fun e w' => e = .returned (.slice (some ⟨w.heap.size, 0, none⟩) len len) ∧
      w'.rowIs w.heap.size 3 len (fun j => .int .i64 (zs.getD j 0)) ∧ Below w.heap.size w w' := by
  have q22 : ∀ (w : World) (a : Option Addr) (n c n' c' : Nat), (binOp .eql 22 (.slice a n c) (.slice none n' c')).run Try.prog w = .ok (.bool a.isNone) w := fun w a n c n' c' => Lib.run_eql_slice_nil w _ _ a n c n' c' Try.underlying22
  have hmk := run_make_row' (P := Try.prog) 22 3 (.int .i64 0) 8 Try.underlying22 info3 rfl .i64 .i64 len (by omega) (by omega)
  go_enter Try.func6, Try.ntmps6
  go_wp2
  clear hmk q22
  go_loopw [4] (fun i wr => ∃ k : Nat, k ≤ len ∧ i = .int .i64 k ∧ wr.rowIs w.heap.size 3 len (cloned zs k) ∧ Below w.heap.size w wr) (fun i _ => len - (intOf i).toNat)
  case atStart => exact ⟨0, Nat.zero_le _, rfl, (World.rowIs_made w _ len 3).congr (fun j _ => by simp [cloned]), (Below.refl _ _).alloc (Nat.le_refl _) _⟩
  case round =>
    obtain ⟨k, hk, rfl, hrow, hbel⟩ := hrel
    by_cases hlt : k < len
    · have h1 : wr.cell? ⟨b, off + k, none⟩ = some (.int .i64 (zs.getD k 0)) := (hbel.cell (by exact hb)).trans (hc k hlt)
      have h2 : wr.cell? ⟨w.heap.size, k, none⟩ = some (cloned zs k k) := hrow.cell hlt
      have h3 : wr.frozen? ⟨w.heap.size, k, none⟩ = false := hrow.frozen k
      go_wp2
      go_roundw
      case rel => exact ⟨k + 1, by omega, by go_num, clone_step hrow hbel (by simp)⟩
      case measure => simp [intOf]; omega
    · go_wp2
      go_ret
      exact ⟨rfl, hrow.congr (fun j hj => by unfold cloned; rw [if_pos (by omega)]), hbel⟩

theorem clone_zero (a : Option Addr) (cap : Nat) (w : World) :
    Calls Try.prog 6 #[.slice a 0 cap] w fun e w' => ∃ ao, e = .returned (.slice ao 0 0) ∧ Below w.heap.size w w' := by
  have q22 : ∀ (w : World) (a : Option Addr) (n c n' c' : Nat), (binOp .eql 22 (.slice a n c) (.slice none n' c')).run Try.prog w = .ok (.bool a.isNone) w := fun w a n c n' c' => Lib.run_eql_slice_nil w _ _ a n c n' c' Try.underlying22
  have hmk : ∀ w : World, (Instr.makeSlice 22 (.int .i64 0) (.int .i64 0)).run Try.prog w = .ok (.slice (some ⟨w.heap.size, 0, none⟩) 0 0) (w.alloc (.cells (madeCells #[.int .i64 0] 0) 3)) := run_make_row' (P := Try.prog) 22 3 (.int .i64 0) 8 Try.underlying22 info3 rfl .i64 .i64 0 (by omega) (by omega)
  cases a with
  | none =>
    go_enter Try.func6, Try.ntmps6
    go_wp2
    go_ret
    exact ⟨_, rfl, Below.refl _ _⟩
  | some x =>
    go_enter Try.func6, Try.ntmps6
    go_wp2
    clear hmk q22
    refine wp_loop_rounds 1 ?_
    rw [rounds_succ]
    go_wp2
    go_ret
    exact ⟨_, rfl, (Below.refl _ _).alloc (Nat.le_refl _) _⟩

/-! ### A game in memory: 28 cells -/
structure Game (w : World) (b : Nat) (cs : List Value) : Prop where
  len : cs.length = 28
  one : ∀ v ∈ cs, v.oneCell' = true
  at_ : w.rangeAt b 0 cs
  lt : b < w.heap.size

theorem Game.cell {w : World} {b : Nat} {cs : List Value} (h : Game w b cs) {j : Nat} {v : Value} (hj : cs[j]? = some v) : w.cell? ⟨b, j, none⟩ = some v := by
  have := h.at_ j v hj
  simpa using this
theorem Game.below {w w' : World} {b B : Nat} {cs : List Value} (h : Game w b cs) (hb : Below B w w') (hB : b < B) : Game w' b cs :=
  ⟨h.len, h.one, fun j v hv => (hb.cell (by exact hB)).trans (h.at_ j v hv), Nat.lt_of_lt_of_le h.lt hb.size⟩

def newGame (p m t ft ct : Int) (fin ff : Bool) (ow : Value) : List Value :=
  [.int .u8 0, .int .u8 0, .int .u8 0, .int .u8 0, .int .u8 0, .int .u8 0, .int .u8 0, .int .u8 0, .int .u8 0, .int .u8 0, .int .u8 0, .int .u8 0, .int .u8 0, .int .u8 0, .int .u8 0, .int .u8 0, .slice none 0 0, .slice none 0 0,
    .int .i64 p, .int .i64 m, .int .i64 t, .int .i64 ft, .int .i64 ct, .bool fin, .bool ff, ow, .slice none 0 0, .map none]

theorem cells_new (w : World) (cs : List Value) (t : TypeId) : (w.alloc (.cells cs.toArray t)).rangeAt w.heap.size 0 cs := fun j v hv => by
  rw [Nat.zero_add, World.cell?_alloc_at _ _ _ _ rfl]
  simpa using hv
theorem there_new (w : World) (c : Array Value) (t : TypeId) (n : Nat) (hn : n = c.size) : (w.alloc (.cells c t)).there w.heap.size 0 n := fun j hj => by
  have hr := World.rowIs_alloc w c t (fun i => c[i]?.getD undef) (fun i hi => by simp [hi])
  have h1 := hr.cell (i := j) (by omega)
  have h2 := hr.frozen j
  simp only [Nat.zero_add]
  exact ⟨by rw [h1]; rfl, h2⟩
theorem game_new (w : World) (cs : List Value) (hl : cs.length = 28) (h1 : ∀ v ∈ cs, v.oneCell' = true) : Game (w.alloc (.cells cs.toArray 45)) w.heap.size cs :=
  ⟨hl, h1, cells_new w cs 45, by simp⟩
theorem newGame_one (p m t ft ct : Int) (fin ff : Bool) (oa : Option Addr) (ol oc : Nat) : ∀ v ∈ newGame p m t ft ct fin ff (.slice oa ol oc), v.oneCell' = true := by
  intro v hv
  simp only [newGame, List.mem_cons, List.not_mem_nil, or_false] at hv
  rcases hv with rfl | rfl | rfl | rfl | rfl | rfl | rfl | rfl | rfl | rfl | rfl | rfl | rfl | rfl | rfl | rfl | rfl | rfl | rfl | rfl | rfl | rfl | rfl | rfl | rfl | rfl | rfl | rfl <;> rfl

theorem new7 (p m t ft ct : Int) (fin ff : Bool) (oa : Option Addr) (ol oc : Nat) (w : World) :
    Calls Try.prog 7 #[.int .i64 p, .int .i64 m, .int .i64 t, .int .i64 ft, .int .i64 ct, .bool fin, .bool ff, .slice oa ol oc] w fun e w' =>
      e = .returned (.pointer (some ⟨w.heap.size, 0, none⟩)) ∧ Game w' w.heap.size (newGame p m t ft ct fin ff (.slice oa ol oc)) ∧ Below w.heap.size w w' := by
  go_enter Try.func7, Try.ntmps7
  go_wp2
  go_ret
  exact ⟨rfl, game_new w (newGame p m t ft ct fin ff (.slice oa ol oc)) rfl (newGame_one _ _ _ _ _ _ _ _ _ _), (Below.refl _ _).alloc (Nat.le_refl _) _⟩

/-! ### failedTry -/
theorem try_no (b : Nat) (turn ft : Int) (ff : Bool) (w : World) (h1 : w.cell? ⟨b, 21, none⟩ = some (.int .i64 ft)) (h2 : w.cell? ⟨b, 24, none⟩ = some (.bool ff)) (h : turn ≠ ft ∨ ff = true) :
    Calls Try.prog 14 #[.pointer (some ⟨b, 0, none⟩), .int .i64 turn] w fun e w' => e = .returned (.tuple #[.pointer none, .bool false]) ∧ w' = w := by
  by_cases he : turn = ft
  · subst he
    obtain rfl : ff = true := by simpa using h
    clear h
    go_enter Try.func14, Try.ntmps14
    go_wp2
    go_ret2
    exact ⟨rfl, rfl⟩
  · have hd : (turn != ft) = true := by simpa using he
    clear h he
    go_enter Try.func14, Try.ntmps14
    go_wp2
    go_ret2
    exact ⟨rfl, rfl⟩

theorem below_setCells {B b : Nat} {a : World} (hb : B ≤ b) : ∀ (vs : List Value) (o : Nat) (w : World), Below B a w → Below B a (w.setCells b o vs)
  | [], _, _, h => h
  | _ :: r, o, _, h => below_setCells hb r (o + 1) _ (h.setCell hb _)

/-- What the new game's block holds when the old one has been copied into it. -/
theorem after_copy {w w2 : World} {c : Array Value} {cs : List Value} (hc : 28 = c.size) (hl : cs.length = 28) (h : (w.alloc (.cells c 45)).setCells w.heap.size 0 cs = w2) :
    w2.rangeAt w.heap.size 0 cs ∧ w2.there w.heap.size 0 28 ∧ Below w.heap.size w w2 ∧ w.heap.size < w2.heap.size := by
  subst h
  have ht : (w.alloc (.cells c 45)).there w.heap.size 0 28 := there_new w c 45 28 hc
  have hb : Below (w.heap.size + 1) (w.alloc (.cells c 45)) (w.alloc (.cells c 45)) := Below.refl _ _
  have hs : (w.alloc (.cells c 45)).heap.size ≤ ((w.alloc (.cells c 45)).setCells w.heap.size 0 cs).heap.size := (below_setCells (B := w.heap.size) (Nat.le_refl _) cs 0 _ (Below.refl _ (w.alloc (.cells c 45)))).size
  exact ⟨World.rangeAt_setCells_same _ _ _ _ (by rw [hl]; exact ht), World.there_setCells ht _ _ _, below_setCells (Nat.le_refl _) _ _ _ ((Below.refl _ _).alloc (Nat.le_refl _) _), by simp at hs; omega⟩

/-- .. and when the flag has been set. -/
theorem game_set {w2 : World} {B : Nat} {cs : List Value} (hr : w2.rangeAt B 0 cs) (ht : w2.there B 0 28) (hB : B < w2.heap.size) (hl : cs.length = 28) (h1 : ∀ v ∈ cs, v.oneCell' = true) (u : Value) (hu : u.oneCell' = true) :
    Game (w2.setCell ⟨B, 24, none⟩ u) B (cs.set 24 u) := by
  refine ⟨by simpa using hl, fun v hv => ?_, fun j v hv => ?_, by simpa using hB⟩
  · rcases List.mem_or_eq_of_mem_set hv with h | rfl
    · exact h1 v h
    · exact hu
  · simp only [Nat.zero_add]
    rw [List.getElem?_set] at hv
    by_cases e : 24 = j
    · subst e
      rw [if_pos rfl, if_pos (by omega)] at hv
      cases hv
      obtain ⟨x, hx⟩ := Option.isSome_iff_exists.1 (ht 24 (by omega)).1
      simp only [Nat.zero_add] at hx
      exact World.cell?_setCell_same _ _ _ hx
    · rw [if_neg e] at hv
      rw [World.cell?_setCell_other _ _ _ _ (by intro e'; injection e' with _ e2 _; exact e e2)]
      simpa using hr j v hv

theorem try_yes (b : Nat) (turn : Int) (cs : List Value) (w : World) (hG : Game w b cs) (h1 : cs[21]? = some (.int .i64 turn)) (h2 : cs[24]? = some (.bool false)) :
    Calls Try.prog 14 #[.pointer (some ⟨b, 0, none⟩), .int .i64 turn] w fun e w' => e = .returned (.tuple #[.pointer (some ⟨w.heap.size, 0, none⟩), .bool true]) ∧ Game w' w.heap.size (cs.set 24 (.bool true)) ∧ Below w.heap.size w w' := by
  have c1 := hG.cell h1
  have c2 := hG.cell h2
  have hi : Hid ((Try.prog.info? 45).map (·.size) = some cs.length) := by rw [hG.len]; exact info45
  have hi' : Hid ((Try.prog.info? 45).map (·.size) = some cs.toArray.size) := by simpa using hi
  clear h1 h2
  go_enter Try.func14, Try.ntmps14
  go_wp2_with (first
    | (refine wpList_load_mid rfl 45 _ rfl b 0 rfl cs _ hG.at_ Try.underlying45 rfl hi.out ?_)
    | (refine wpList_store_mid rfl 45 _ _ rfl w.heap.size 0 cs.toArray rfl rfl (there_new _ _ _ _ (by simp [hG.len])) hi'.out (all_oneCell_toArray hG.one) ?_
       generalize hw2 : World.setCells _ _ _ _ = w2
       obtain ⟨r1, r2, r3, r4⟩ := after_copy (by rfl) hG.len hw2
       clear hw2
       obtain ⟨x24, hx24⟩ := Option.isSome_iff_exists.1 (r2 24 (by omega)).1
       have hf24 := (r2 24 (by omega)).2
       simp only [Nat.zero_add] at hx24 hf24))
  go_ret2
  exact ⟨rfl, game_set r1 r2 r4 hG.len hG.one _ rfl, r3.setCell (Nat.le_refl _) _⟩

/-! ### ZZfailedTry -/
theorem ztry_no (b : Nat) (turn ft : Int) (ff : Bool) (w : World) (h1 : w.cell? ⟨b, 21, none⟩ = some (.int .i64 ft)) (h2 : w.cell? ⟨b, 24, none⟩ = some (.bool ff)) (h : turn ≠ ft ∨ ff = true) :
    Calls Try.prog 8 #[.pointer (some ⟨b, 0, none⟩), .int .i64 turn] w fun e w' => e = .returned (.tuple #[.pointer none, .bool false]) ∧ w' = w := by
  have c := try_no b turn ft ff w h1 h2 h
  have H : Hid (Calls Try.prog 14 #[.pointer (some ⟨b, 0, none⟩), .int .i64 turn] w fun e w' => e = .returned (.tuple #[.pointer none, .bool false]) ∧ w' = w) := c
  clear c h h1 h2
  go_enter Try.func8, Try.ntmps8
  go_wp2_with (go_at_call 14; refine (H.out).mono ?_; rintro e w' ⟨rfl, rfl⟩)
  go_ret2
  exact ⟨rfl, rfl⟩
theorem ztry_yes (b : Nat) (turn : Int) (cs : List Value) (w : World) (hG : Game w b cs) (h1 : cs[21]? = some (.int .i64 turn)) (h2 : cs[24]? = some (.bool false)) :
    Calls Try.prog 8 #[.pointer (some ⟨b, 0, none⟩), .int .i64 turn] w fun e w' => e = .returned (.tuple #[.pointer (some ⟨w.heap.size, 0, none⟩), .bool true]) ∧ Game w' w.heap.size (cs.set 24 (.bool true)) ∧ Below w.heap.size w w' := by
  have c := try_yes b turn cs w hG h1 h2
  have H : Hid (Calls Try.prog 14 #[.pointer (some ⟨b, 0, none⟩), .int .i64 turn] w fun e w' => e = .returned (.tuple #[.pointer (some ⟨w.heap.size, 0, none⟩), .bool true]) ∧ Game w' w.heap.size (cs.set 24 (.bool true)) ∧ Below w.heap.size w w') := c
  clear c hG h1 h2
  go_enter Try.func8, Try.ntmps8
  go_wp2_with (go_at_call 14; refine (H.out).mono ?_; rintro e w' ⟨rfl, hg, hb⟩)
  go_ret2
  exact ⟨rfl, hg, hb⟩

/-! ### zzBytes -/
theorem bytes11_yes (a0 a2 : Int) (a1 : Bool) (a : Option Addr) (len cap : Nat) (w : World) (h : len ≤ 1048576) :
    Calls Try.prog 11 #[.int .i64 a0, .bool a1, .int .i64 a2, .slice a len cap] w fun e w' => e = .returned (.bool true) ∧ w' = w := by
  go_enter Try.func11, Try.ntmps11
  go_wp2
  go_ret
  exact ⟨rfl, rfl⟩
theorem bytes11_no (a0 a2 : Int) (a1 : Bool) (a : Option Addr) (len cap : Nat) (w : World) (h : ¬ len ≤ 1048576) (hm : len ≤ maxLen) :
    Calls Try.prog 11 #[.int .i64 a0, .bool a1, .int .i64 a2, .slice a len cap] w fun e w' => e = .returned (.bool false) ∧ w' = w := by
  unfold maxLen at hm
  go_enter Try.func11, Try.ntmps11
  go_wp2
  go_ret
  exact ⟨rfl, rfl⟩

/-! ### The readers -/
theorem rd10 (b : Nat) (v : Bool) (w : World) (h : w.cell? ⟨b, 24, none⟩ = some (.bool v)) : Calls Try.prog 10 #[.pointer (some ⟨b, 0, none⟩)] w fun e w' => e = .returned (.bool v) ∧ w' = w := by
  go_enter Try.func10, Try.ntmps10
  go_wp2
  go_ret
  exact ⟨rfl, rfl⟩
theorem rd12 (b : Nat) (v : Int) (w : World) (h : w.cell? ⟨b, 21, none⟩ = some (.int .i64 v)) : Calls Try.prog 12 #[.pointer (some ⟨b, 0, none⟩)] w fun e w' => e = .returned (.int .i64 v) ∧ w' = w := by
  go_enter Try.func12, Try.ntmps12
  go_wp2
  go_ret
  exact ⟨rfl, rfl⟩
theorem rd13 (b : Nat) (v : Int) (w : World) (h : w.cell? ⟨b, 22, none⟩ = some (.int .i64 v)) : Calls Try.prog 13 #[.pointer (some ⟨b, 0, none⟩)] w fun e w' => e = .returned (.int .i64 v) ∧ w' = w := by
  go_enter Try.func13, Try.ntmps13
  go_wp2
  go_ret
  exact ⟨rfl, rfl⟩
end Go.Proofs.Qxb6614291a
