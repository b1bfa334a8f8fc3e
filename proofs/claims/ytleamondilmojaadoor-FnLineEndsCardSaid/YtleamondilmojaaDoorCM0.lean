/- The completion manager: what its steps do (no program in sight). -/
import Derived.Test.YtleamondilmojaaDoorProg
import Derived.Test.YtleamondilmojaaDoorBase
namespace Go.Proofs.YtleamondilmojaaDoor
open Go.RowKit
set_option linter.unusedVariables false
set_option linter.unusedSimpArgs false
set_option linter.unnecessarySimpa false
set_option maxRecDepth 100000

/-- Blocks but p are kept. -/
structure But (p : Nat) (w w' : World) : Prop where
  os : w'.os = w.os
  tape : w'.tape = w.tape
  output : w'.output = w.output
  size : w.heap.size ≤ w'.heap.size
  block : ∀ k, k < w.heap.size → k ≠ p → w'.heap[k]? = w.heap[k]?
theorem But.refl (p : Nat) (w : World) : But p w w := ⟨rfl, rfl, rfl, Nat.le_refl _, fun _ _ _ => rfl⟩
theorem But.of_old {p : Nat} {w w' : World} (h : Old w w') : But p w w' := ⟨Below.os h, Below.tape h, Below.output h, Below.size h, fun k hk _ => Below.block h k hk⟩
theorem But.trans {p : Nat} {u v w : World} (h : But p u v) (k : But p v w) : But p u w :=
  ⟨k.os.trans h.os, k.tape.trans h.tape, k.output.trans h.output, Nat.le_trans h.size k.size, fun i hi h1 => (k.block i (Nat.lt_of_lt_of_le hi h.size) h1).trans (h.block i hi h1)⟩
theorem But.then_old {p : Nat} {u v w : World} (h : But p u v) (k : Old v w) : But p u w := h.trans (But.of_old k)
theorem But.cell {p : Nat} {w w' : World} (h : But p w w') {k o : Nat} (hk : k < w.heap.size) (h1 : k ≠ p) : w'.cell? ⟨k, o, none⟩ = w.cell? ⟨k, o, none⟩ := World.cell?_of_block (w := w) (a := ⟨k, o, none⟩) (h.block k hk h1)
theorem But.frozen {p : Nat} {w w' : World} (h : But p w w') {k o : Nat} (hk : k < w.heap.size) (h1 : k ≠ p) : w'.frozen? ⟨k, o, none⟩ = w.frozen? ⟨k, o, none⟩ := World.frozen?_of_block (w := w) (a := ⟨k, o, none⟩) (h.block k hk h1)
theorem But.stored {p : Nat} {u v : World} (h : But p u v) (o : Nat) (x : Value) : But p u (v.setCell ⟨p, o, none⟩ x) :=
  ⟨h.os, h.tape, h.output, by simp [World.setCell]; exact h.size, fun i hi h1 => (Below.heap_setCell v ⟨p, o, none⟩ x i (by simp; omega)).trans (h.block i hi h1)⟩
theorem Old.but {p : Nat} {u v w : World} (h : Old u v) (k : But p v w) (hp : u.heap.size ≤ p) : Old u w :=
  ⟨k.os.trans (Below.os h), k.tape.trans (Below.tape h), k.output.trans (Below.output h), Nat.le_trans h.size k.size, fun i hi => (k.block i (Nat.lt_of_lt_of_le hi h.size) (by omega)).trans (Below.block h i hi)⟩

/-- A manager's state: which one is selected, and the scroll. -/
abbrev CS := Int × Int
def csUpd (n m : Int) (s : CS) : CS := if n ≤ s.1 then (-1, 0) else if s.1 < -1 then (n - 1, n - min m n) else s
def csNext (n m : Int) (s : CS) : CS := csUpd n m (s.1 + 1, if s.2 + m - 1 = s.1 then s.2 + 1 else s.2)
def csPrev (n m : Int) (s : CS) : CS := csUpd n m (s.1 - 1, if s.2 = s.1 ∧ 0 < s.1 then s.2 - 1 else s.2)
def csStep (n m : Int) (s : CS) (k : Int) : CS := if k = 1 then csNext n m s else if k = 2 then csPrev n m s else if k = 3 then (-1, 0) else s
def csAll (n m : Int) (l : List Int) : CS := l.foldl (csStep n m) (-1, 0)

/-- The selected one is none or one of n, and stands in the window. -/
def csOk (n m : Int) (s : CS) : Prop := (s.1 = -1 ∧ s.2 = 0) ∨ (0 ≤ s.1 ∧ s.1 < n ∧ 0 ≤ s.2 ∧ s.2 + min m n ≤ n ∧ s.2 ≤ s.1 ∧ s.1 ≤ s.2 + m - 1)
theorem csStep_ok {n m : Int} (hn : 0 ≤ n) (hm : 1 ≤ m) {s : CS} (h : csOk n m s) (k : Int) : csOk n m (csStep n m s k) := by
  obtain ⟨a, b⟩ := s
  unfold csOk at h
  by_cases hmn : m ≤ n
  all_goals
    simp only [Int.min_def, hmn, if_true, if_false] at h
    unfold csStep csNext csPrev csUpd csOk
    simp only [Int.min_def, hmn, if_true, if_false]
    repeat' split
    all_goals first | omega | (dsimp only at *; omega)
theorem csAll_ok {n m : Int} (hn : 0 ≤ n) (hm : 1 ≤ m) (l : List Int) : csOk n m (csAll n m l) := by
  unfold csAll
  have : ∀ (l : List Int) (s : CS), csOk n m s → csOk n m (l.foldl (csStep n m) s) := by
    intro l
    induction l with
    | nil => intro s h; exact h
    | cons x l ih => intro s h; exact ih _ (csStep_ok hn hm h x)
  exact this l _ (.inl ⟨rfl, rfl⟩)
theorem csAll_snoc (n m : Int) (l : List Int) (k : Int) : csAll n m (l ++ [k]) = csStep n m (csAll n m l) k := by
  unfold csAll; rw [List.foldl_append]; rfl
theorem csAll_take {n m : Int} {l : List Int} {j : Nat} (h : j < l.length) : csAll n m (l.take (j + 1)) = csStep n m (csAll n m (l.take j)) (gi l j) := by
  rw [← csAll_snoc]
  congr 1
  rw [List.take_succ_eq_append_getElem h]
  simp [gi, List.getD, List.getElem?_eq_getElem h]

/-- What the specification chooses. -/
def choose1 (a n k : Int) : Int := if k = 1 ∧ a + 1 < n then a + 1 else if k = 2 ∧ a < 0 then n - 1 else if k = 2 then a - 1 else -1
theorem choose1_is {n m : Int} (hn : 0 ≤ n) (hm : 1 ≤ m) {s : CS} (h : csOk n m s) {k : Int} (hk : 1 ≤ k) (hk3 : k ≤ 3) : (csStep n m s k).1 = choose1 s.1 n k := by
  obtain ⟨a, b⟩ := s
  unfold csOk at h
  by_cases hmn : m ≤ n
  all_goals
    simp only [Int.min_def, hmn, if_true, if_false] at h
    unfold csStep csNext csPrev csUpd choose1
    simp only [Int.min_def, hmn, if_true, if_false]
    repeat' split
    all_goals first | omega | (dsimp only at *; omega)
/-- A window's step. -/
theorem window_step {n m : Int} (hm : 1 ≤ m) (hmn : m < n) {s : CS} (h : csOk n m s) {k : Int} (hk : 1 ≤ k) (hk2 : k ≤ 2) :
    let t := csStep n m s k
    (0 ≤ s.1 ∧ 0 ≤ t.1) → (t.1 - s.1 = 1 ∧ (t.2 = s.2 ∨ t.2 = s.2 + 1)) ∨ (s.1 - t.1 = 1 ∧ (t.2 = s.2 ∨ t.2 = s.2 - 1)) := by
  obtain ⟨a, b⟩ := s
  unfold csOk at h
  have hmn' : m ≤ n := by omega
  simp only [Int.min_def, hmn', if_true] at h
  unfold csStep csNext csPrev csUpd
  simp only [Int.min_def, hmn', if_true]
  repeat' split
  all_goals first | omega | (dsimp only at *; omega)
end Go.Proofs.YtleamondilmojaaDoor
