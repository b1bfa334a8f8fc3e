/- Lines around a cursor that moves (no program in sight). -/
import Derived.Test.YtleamondilmojaaDoorTextM
namespace Go.Proofs.YtleamondilmojaaDoor
open Go.RowKit
set_option linter.unusedVariables false
set_option linter.unusedSimpArgs false
set_option linter.unnecessarySimpa false
set_option maxRecDepth 100000

theorem flen_drop (p : UInt8 → Bool) : ∀ (j : Nat) (m : Bs), j ≤ flen p m → flen p (m.drop j) = flen p m - j
  | 0, m, _ => by simp
  | j + 1, [], h => by simp [flen] at h
  | j + 1, c :: m, h => by
    have hc : p c = false := by
      cases hc : p c with
      | true => unfold flen at h; rw [List.findIdx_cons] at h; simp [hc] at h
      | false => rfl
    have e : flen p (c :: m) = flen p m + 1 := by unfold flen; rw [List.findIdx_cons]; simp [hc]
    rw [e] at h ⊢
    rw [List.drop_succ_cons, flen_drop p j m (by omega)]; omega
theorem lineA_len (l : Bs) (k : Nat) : (lineA l k).length = flen nl (l.drop k) := by
  have := flen_le nl (l.drop k)
  unfold lineA; rw [List.length_take]; omega
theorem lineA_room (l : Bs) (k : Nat) : (lineA l k).length ≤ l.length - k := by
  have := flen_le nl (l.drop k)
  rw [List.length_drop] at this
  rw [lineA_len]; exact this
theorem lineA_right {l : Bs} {k j : Nat} (h : j ≤ (lineA l k).length) : (lineA l (k + j)).length = (lineA l k).length - j := by
  rw [lineA_len] at h ⊢
  rw [lineA_len, ← List.drop_drop, flen_drop _ _ _ h]
theorem lineB_size {l : Bs} {k : Nat} (h : k ≤ l.length) : (lineB l k).length = k - (lidx nl (l.take k) + 1).toNat := by
  unfold lineB; rw [List.length_drop, List.length_take]; omega
theorem lineB_left1 {l : Bs} {m : Nat} (h : m + 1 ≤ l.length) (hp : 0 < (lineB l (m + 1)).length) : (lineB l m).length = (lineB l (m + 1)).length - 1 := by
  rw [lineB_size h] at hp ⊢
  rw [lineB_size (by omega)]
  rw [lidx_take_succ nl (by omega)] at hp ⊢
  have hl := lidx_lt nl (l.take m)
  rw [List.length_take] at hl
  cases hc : nl l[m] with
  | true => rw [hc] at hp; simp only [if_true] at hp; omega
  | false => simp; omega
theorem lineB_le {l : Bs} {k : Nat} (h : k ≤ l.length) : (lineB l k).length ≤ k := by rw [lineB_size h]; omega
theorem lineB_left {l : Bs} {k : Nat} (hk : k ≤ l.length) : ∀ j, j ≤ (lineB l k).length → (lineB l (k - j)).length = (lineB l k).length - j
  | 0, _ => rfl
  | j + 1, h => by
    have ih := lineB_left hk j (by omega)
    have hb := lineB_le hk
    obtain ⟨m, hm⟩ : ∃ m, k - j = m + 1 := ⟨k - j - 1, by omega⟩
    have e : k - (j + 1) = m := by omega
    rw [hm] at ih
    rw [e, lineB_left1 (by omega) (by omega), ih]; omega
theorem line_whole : ∀ (l : Bs) (k : Nat), k ≤ l.length → line (splitL l) (row l k) = lineB l k ++ lineA l k
  | [], k, h => by
    obtain rfl : k = 0 := by simpa using h
    rfl
  | c :: l, 0, h => by
    have h0 : row (c :: l) 0 = 0 := rfl
    have hb : lineB (c :: l) 0 = [] := rfl
    rw [h0, line_zero, hb]; rfl
  | c :: l, k + 1, h => by
    have hk : k ≤ l.length := by simpa using h
    have ih := line_whole l k hk
    have hs := start_row l k hk
    have hlt := lidx_lt nl (l.take k)
    have hA : lineA (c :: l) (k + 1) = lineA l k := rfl
    rw [hA]
    have hB : lineB (c :: l) (k + 1) = (c :: l.take k).drop (lidx nl (c :: l.take k) + 1).toNat := rfl
    rw [hB, lidx_cons nl c (l.take k).length (l.take k) rfl]
    cases hc : nl c with
    | true =>
      have e : row (c :: l) (k + 1) = row l k + 1 := by unfold row; rw [List.take_succ_cons, List.countP_cons]; simp [hc]
      have e2 : line ([] :: splitL l) (row l k + 1) = line (splitL l) (row l k) := by unfold line; simp
      rw [e, splitL_nl hc, e2, ih]
      unfold lineB
      by_cases h0 : 0 ≤ lidx nl (l.take k)
      · rw [if_pos h0]
        have : (lidx nl (l.take k) + 1 + 1).toNat = (lidx nl (l.take k) + 1).toNat + 1 := by omega
        rw [this, List.drop_succ_cons]
      · have h1 : lidx nl (l.take k) = -1 := by omega
        rw [if_neg h0, h1]; rfl
    | false =>
      have e : row (c :: l) (k + 1) = row l k := by unfold row; rw [List.take_succ_cons, List.countP_cons]; simp [hc]
      obtain ⟨a, t, h1, h2⟩ := splitL_cons (l := l) hc
      rw [e, h2]; rw [h1] at ih hs
      cases hr : row l k with
      | zero =>
        rw [hr] at ih hs
        rw [start_zero] at hs
        have h3 : lidx nl (l.take k) = -1 := by omega
        have h4 : lineB l k = l.take k := by unfold lineB; rw [h3]; rfl
        rw [h4] at ih
        have h5 : line (a :: t) 0 = a := rfl
        have h6 : line ((c :: a) :: t) 0 = c :: a := rfl
        rw [h5] at ih
        rw [h6, h3, ih]; rfl
      | succ r =>
        rw [hr] at ih hs
        rw [start_cons] at hs
        have h0 : 0 ≤ lidx nl (l.take k) := by omega
        have h5 : line (a :: t) (r + 1) = line t r := by unfold line; simp
        have h6 : line ((c :: a) :: t) (r + 1) = line t r := by unfold line; simp
        rw [h5] at ih
        rw [h6, if_pos h0, ih]
        have : (lidx nl (l.take k) + 1 + 1).toNat = (lidx nl (l.take k) + 1).toNat + 1 := by omega
        rw [this, List.drop_succ_cons]; rfl
theorem row_is {l : Bs} {k r : Nat} (hk : k ≤ l.length) (hr : r < (splitL l).length) (h1 : start (splitL l) r ≤ k) (h2 : k < start (splitL l) (r + 1)) : row l k = r := by
  obtain ⟨a, b, c⟩ := row_spec l k hk
  rcases Nat.lt_trichotomy (row l k) r with h | h | h
  · obtain ⟨d, hd⟩ : ∃ d, r = row l k + 1 + d := ⟨r - (row l k + 1), by omega⟩
    have := start_mono (L := splitL l) (a := row l k + 1) d (by omega)
    rw [← hd] at this; omega
  · exact h
  · obtain ⟨d, hd⟩ : ∃ d, row l k = r + 1 + d := ⟨row l k - (r + 1), by omega⟩
    have := start_mono (L := splitL l) (a := r + 1) d (by omega)
    rw [← hd] at this; omega
/-- At the beginning of its line, and at its end. -/
theorem row_begin {l : Bs} {k : Nat} (hk : k ≤ l.length) : row l (k - (lineB l k).length) = row l k := by
  obtain ⟨a, b, c⟩ := row_spec l k hk
  have hb := lineB_len hk
  exact row_is (by omega) a (by omega) (by omega)
theorem row_end {l : Bs} {k : Nat} (hk : k ≤ l.length) : row l (k + (lineA l k).length) = row l k := by
  obtain ⟨a, b, c⟩ := row_spec l k hk
  have hb := lineB_len hk
  have hr := lineA_room l k
  have hs := start_succ a
  have hw := congrArg List.length (line_whole l k hk)
  rw [List.length_append] at hw
  exact row_is (by omega) a (by omega) (by omega)
theorem lineB_begin {l : Bs} {k : Nat} (hk : k ≤ l.length) : lineB l (k - (lineB l k).length) = [] :=
  List.eq_nil_of_length_eq_zero (by rw [lineB_left hk _ (Nat.le_refl _)]; omega)
theorem lineA_end (l : Bs) (k : Nat) : lineA l (k + (lineA l k).length) = [] :=
  List.eq_nil_of_length_eq_zero (by rw [lineA_right (Nat.le_refl _)]; omega)
theorem line_begin {l : Bs} {k : Nat} (hk : k ≤ l.length) : lineB l (k - (lineB l k).length) ++ lineA l (k - (lineB l k).length) = lineB l k ++ lineA l k := by
  rw [← line_whole l _ (by omega), ← line_whole l k hk, row_begin hk]
theorem line_end {l : Bs} {k : Nat} (hk : k ≤ l.length) : lineB l (k + (lineA l k).length) ++ lineA l (k + (lineA l k).length) = lineB l k ++ lineA l k := by
  have hr := lineA_room l k
  rw [← line_whole l _ (by omega), ← line_whole l k hk, row_end hk]

/-- A text with another one at a place; a text without some signs at a place. -/
def insM (l : Bs) (k : Nat) (v : Bs) : Bs := l.take k ++ v ++ l.drop k
def delM (l : Bs) (k n : Nat) : Bs := l.take k ++ l.drop (k + n)
theorem insM_len {l : Bs} {k : Nat} (hk : k ≤ l.length) (v : Bs) : (insM l k v).length = l.length + v.length := by
  unfold insM; simp; omega
theorem insM_take {l : Bs} {k : Nat} (hk : k ≤ l.length) (v : Bs) : (insM l k v).take k = l.take k := by
  unfold insM
  have h : (l.take k).length = k := by rw [List.length_take]; omega
  rw [List.append_assoc, List.take_append_of_le_length (by omega), List.take_of_length_le (by omega)]
theorem insM_drop {l : Bs} {k : Nat} (hk : k ≤ l.length) (v : Bs) : (insM l k v).drop k = v ++ l.drop k := by
  unfold insM
  rw [List.append_assoc, List.drop_append, List.drop_of_length_le (by simp; omega)]
  have : k - (l.take k).length = 0 := by simp; omega
  rw [this]; simp
theorem insM_drop2 {l : Bs} {k : Nat} (hk : k ≤ l.length) (v : Bs) : (insM l k v).drop (k + v.length) = l.drop k := by
  rw [← List.drop_drop, insM_drop hk]; simp
theorem insM_take2 {l : Bs} {k : Nat} (hk : k ≤ l.length) (v : Bs) : (insM l k v).take (k + v.length) = l.take k ++ v := by
  unfold insM
  rw [List.take_append_of_le_length (by simp; omega), List.take_of_length_le (by simp; omega)]
theorem insM_del {l : Bs} {k : Nat} (hk : k ≤ l.length) (v : Bs) : delM (insM l k v) k v.length = l := by
  unfold delM; rw [insM_take hk, insM_drop2 hk, List.take_append_drop]
theorem delM_zero (l : Bs) (k : Nat) : delM l k 0 = l := by unfold delM; rw [Nat.add_zero, List.take_append_drop]
end Go.Proofs.YtleamondilmojaaDoor
