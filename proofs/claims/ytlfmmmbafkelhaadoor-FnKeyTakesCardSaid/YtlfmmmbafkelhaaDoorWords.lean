/- Words: letters and digits; the place up to which DeleteWord cuts. -/
import Derived.Test.YtlfmmmbafkelhaaDoorKillF
namespace Go.Proofs.YtlfmmmbafkelhaaDoor
open Go.RowKit
set_option linter.unusedVariables false
set_option linter.unusedSimpArgs false
set_option maxRecDepth 100000

/-- A letter or a digit. -/
def ws (c : Int) : Bool := decide ((97 ≤ c ∧ c ≤ 122) ∨ (65 ≤ c ∧ c ≤ 90) ∨ (48 ≤ c ∧ c ≤ 57))
theorem seven (c : Int) : c < 48 ∨ (48 ≤ c ∧ c ≤ 57) ∨ (58 ≤ c ∧ c ≤ 64) ∨ (65 ≤ c ∧ c ≤ 90) ∨ (91 ≤ c ∧ c ≤ 96) ∨ (97 ≤ c ∧ c ≤ 122) ∨ 123 ≤ c := by omega
theorem ret_bool_eq {a b : Bool} (h : a = b) : Ending.returned (.bool b) = .returned (.bool a) := by rw [h]
theorem brk_any (c : Int) (w : World) : Calls Tryd.prog 133 #[.int .i32 c] w fun e w' => e = .returned (.bool (!ws c)) ∧ w' = w := by
  rcases seven c with h | h | h | h | h | h | h
  all_goals
    have hw : ws c = decide ((97 ≤ c ∧ c ≤ 122) ∨ (65 ≤ c ∧ c ≤ 90) ∨ (48 ≤ c ∧ c ≤ 57)) := rfl
    have h1 : decide (97 ≤ c) = true ∨ decide (97 ≤ c) = false := by cases decide (97 ≤ c) <;> simp
    have h2 : decide (c ≤ 122) = true ∨ decide (c ≤ 122) = false := by cases decide (c ≤ 122) <;> simp
    have h3 : decide (65 ≤ c) = true ∨ decide (65 ≤ c) = false := by cases decide (65 ≤ c) <;> simp
    have h4 : decide (c ≤ 90) = true ∨ decide (c ≤ 90) = false := by cases decide (c ≤ 90) <;> simp
    have h5 : decide (48 ≤ c) = true ∨ decide (48 ≤ c) = false := by cases decide (48 ≤ c) <;> simp
    have h6 : decide (c ≤ 57) = true ∨ decide (c ≤ 57) = false := by cases decide (c ≤ 57) <;> simp
    rcases h1 with h1 | h1 <;> (first | (exfalso; simp at h1; omega) | skip)
  all_goals
    rcases h2 with h2 | h2 <;> (first | (exfalso; simp at h2; omega) | skip)
  all_goals
    rcases h3 with h3 | h3 <;> (first | (exfalso; simp at h3; omega) | skip)
  all_goals
    rcases h4 with h4 | h4 <;> (first | (exfalso; simp at h4; omega) | skip)
  all_goals
    rcases h5 with h5 | h5 <;> (first | (exfalso; simp at h5; omega) | skip)
  all_goals
    rcases h6 with h6 | h6 <;> (first | (exfalso; simp at h6; omega) | skip)
  all_goals
    have HW := Lib.hid hw
    have HH := Lib.hid h
    clear hw h
    go_enter Tryd.func133, Tryd.ntmps133
    go_wp2_with fail
    go_ret
    exact ⟨ret_bool_eq (by rw [HW.out]; have h := HH.out; simp; omega), rfl⟩

theorem sgn_any (c : Int) (w : World) : Calls Tryd.prog 82 #[.int .i32 c] w fun e w' => e = .returned (.bool (ws c)) ∧ w' = w := by
  rcases seven c with h | h | h | h | h | h | h
  all_goals
    have hw : ws c = decide ((97 ≤ c ∧ c ≤ 122) ∨ (65 ≤ c ∧ c ≤ 90) ∨ (48 ≤ c ∧ c ≤ 57)) := rfl
    have h1 : decide (97 ≤ c) = true ∨ decide (97 ≤ c) = false := by cases decide (97 ≤ c) <;> simp
    have h2 : decide (c ≤ 122) = true ∨ decide (c ≤ 122) = false := by cases decide (c ≤ 122) <;> simp
    have h3 : decide (65 ≤ c) = true ∨ decide (65 ≤ c) = false := by cases decide (65 ≤ c) <;> simp
    have h4 : decide (c ≤ 90) = true ∨ decide (c ≤ 90) = false := by cases decide (c ≤ 90) <;> simp
    have h5 : decide (48 ≤ c) = true ∨ decide (48 ≤ c) = false := by cases decide (48 ≤ c) <;> simp
    have h6 : decide (c ≤ 57) = true ∨ decide (c ≤ 57) = false := by cases decide (c ≤ 57) <;> simp
    rcases h1 with h1 | h1 <;> (first | (exfalso; simp at h1; omega) | skip)
  all_goals
    rcases h2 with h2 | h2 <;> (first | (exfalso; simp at h2; omega) | skip)
  all_goals
    rcases h3 with h3 | h3 <;> (first | (exfalso; simp at h3; omega) | skip)
  all_goals
    rcases h4 with h4 | h4 <;> (first | (exfalso; simp at h4; omega) | skip)
  all_goals
    rcases h5 with h5 | h5 <;> (first | (exfalso; simp at h5; omega) | skip)
  all_goals
    rcases h6 with h6 | h6 <;> (first | (exfalso; simp at h6; omega) | skip)
  all_goals
    have HW := Lib.hid hw
    have HH := Lib.hid h
    clear hw h
    go_enter Tryd.func82, Tryd.ntmps82
    go_wp2_with fail
    go_ret
    exact ⟨ret_bool_eq (by rw [HW.out]; have h := HH.out; simp; omega), rfl⟩

/-- A word begins at place k, behind something that is none. -/
def bg (l : List Int) (k : Nat) : Bool := decide (0 < k ∧ k < l.length) && (ws (gi l k) && !ws (gi l (k - 1)))
def skipN (l : List Int) : Nat → Nat → Nat
  | 0, i => i
  | n + 1, i => if i < l.length ∧ ws (gi l i) = false then skipN l n (i + 1) else i
/-- The first place from i on with a sign of words; the line's length without one. -/
def skip (l : List Int) (i : Nat) : Nat := skipN l (l.length - i) i
theorem skip_step {l : List Int} {i : Nat} (h : i < l.length) (hw : ws (gi l i) = false) : skip l i = skip l (i + 1) := by
  unfold skip
  rw [show l.length - i = (l.length - (i + 1)) + 1 by omega]
  show (if i < l.length ∧ ws (gi l i) = false then _ else _) = _
  rw [if_pos ⟨h, hw⟩]
theorem skip_stop {l : List Int} {i : Nat} (h : i < l.length) (hw : ws (gi l i) = true) : skip l i = i := by
  unfold skip
  rw [show l.length - i = (l.length - (i + 1)) + 1 by omega]
  show (if i < l.length ∧ ws (gi l i) = false then _ else _) = _
  rw [if_neg (by rw [hw]; simp)]
theorem skip_end {l : List Int} {i : Nat} (h : l.length ≤ i) : skip l i = i := by
  unfold skip
  rw [show l.length - i = 0 by omega]
  rfl
theorem skipN_le (l : List Int) : ∀ (n i : Nat), i ≤ skipN l n i ∧ (i ≤ l.length → skipN l n i ≤ l.length)
  | 0, i => ⟨Nat.le_refl _, id⟩
  | n + 1, i => by
    unfold skipN
    split
    · rename_i h
      have := skipN_le l n (i + 1)
      exact ⟨by omega, fun _ => this.2 (by omega)⟩
    · exact ⟨Nat.le_refl _, id⟩
theorem skip_le (l : List Int) (i : Nat) : i ≤ skip l i ∧ (i ≤ l.length → skip l i ≤ l.length) := skipN_le l _ i
def findN (l : List Int) : Nat → Nat → Nat
  | 0, i => l.length
  | n + 1, i => if bg l i = true then i else findN l n (i + 1)
/-- The first place from i on where a word begins; the line's length without one. -/
def find (l : List Int) (i : Nat) : Nat := findN l (l.length - i) i
theorem find_step {l : List Int} {i : Nat} (h : i < l.length) (hb : bg l i = false) : find l i = find l (i + 1) := by
  unfold find
  rw [show l.length - i = (l.length - (i + 1)) + 1 by omega]
  show (if bg l i = true then _ else _) = _
  rw [if_neg (by rw [hb]; decide)]
theorem find_stop {l : List Int} {i : Nat} (h : i < l.length) (hb : bg l i = true) : find l i = i := by
  unfold find
  rw [show l.length - i = (l.length - (i + 1)) + 1 by omega]
  show (if bg l i = true then _ else _) = _
  rw [if_pos hb]
theorem find_end {l : List Int} {i : Nat} (h : l.length ≤ i) : find l i = l.length := by
  unfold find
  rw [show l.length - i = 0 by omega]
  rfl
theorem findN_ge (l : List Int) : ∀ (n i : Nat), findN l n i < l.length → i ≤ findN l n i
  | 0, i, h => absurd h (Nat.lt_irrefl _)
  | n + 1, i, h => by
    unfold findN at h ⊢
    split at h
    · rename_i hb; rw [if_pos hb]; exact Nat.le_refl _
    · rename_i hb; rw [if_neg hb]; have := findN_ge l n (i + 1) h; omega
theorem find_ge {l : List Int} {i : Nat} (h : find l i < l.length) : i ≤ find l i := findN_ge l _ i h
/-- The place up to which DeleteWord takes out. -/
def cutTo (l : List Int) (a : Nat) : Nat := if find l (skip l a + 1) < l.length then find l (skip l a + 1) - 1 else l.length
theorem bg_of {l : List Int} {k : Nat} (h0 : 0 < k) (h : k < l.length) (h1 : ws (gi l k) = true) (h2 : ws (gi l (k - 1)) = false) : bg l k = true := by simp [bg, h0, h, h1, h2]
theorem bg_no {l : List Int} {k : Nat} (h : ws (gi l k) = false ∨ ws (gi l (k - 1)) = true) : bg l k = false := by
  rcases h with h | h <;> simp [bg, h]
end Go.Proofs.YtlfmmmbafkelhaaDoor
