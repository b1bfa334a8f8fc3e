/- Texts as lists of bytes: first and last places, lines, rows and columns (no program in sight). -/
import Derived.Test.YtpkmamdgpjncoaaDoorBase
namespace Go.Proofs.YtpkmamdgpjncoaaDoor
open Go.RowKit
set_option linter.unusedVariables false
set_option linter.unusedSimpArgs false
set_option maxRecDepth 100000

abbrev Bs := List UInt8
def bs (s : ByteArray) : Bs := s.data.toList
def tx (l : Bs) : ByteArray := ⟨l.toArray⟩
theorem bs_tx (l : Bs) : bs (tx l) = l := rfl
theorem tx_bs (s : ByteArray) : tx (bs s) = s := by cases s; simp [tx, bs]
theorem bs_len (s : ByteArray) : (bs s).length = s.size := by simp [bs]
theorem tx_size (l : Bs) : (tx l).size = l.length := by simp [tx, ByteArray.size]
theorem bs_get {s : ByteArray} {k : Nat} (h : k < s.size) : (bs s)[k]'(by rw [bs_len]; exact h) = s[k] := by simp [bs]; rfl
theorem tx_get {l : Bs} {k : Nat} (h : k < l.length) : (tx l)[k]'(by rw [tx_size]; exact h) = l[k] := by simp [tx]; rfl
theorem tx_inj {a b : Bs} (h : tx a = tx b) : a = b := by have := congrArg bs h; rwa [bs_tx, bs_tx] at this
theorem extract_eq (s : ByteArray) (a b : Nat) : s.extract a b = tx (((bs s).drop a).take (b - a)) := by
  have h : (s.extract a b).data = s.data.extract a b := by simp
  have : bs (s.extract a b) = ((bs s).drop a).take (b - a) := by
    unfold bs; rw [h]; simp [Array.toList_extract, List.extract_eq_take_drop]
  rw [← this, tx_bs]
theorem tx_append (a b : Bs) : tx a ++ tx b = tx (a ++ b) := by
  have : (tx a ++ tx b).data = (tx (a ++ b)).data := by simp [tx, ByteArray.data_append]
  cases h1 : tx a ++ tx b; cases h2 : tx (a ++ b); simp_all
theorem asc_tx {l : Bs} (h : asc (tx l)) : ∀ c ∈ l, c.toNat < 128 := by
  intro c hc
  obtain ⟨i, hi, rfl⟩ := List.getElem_of_mem hc
  have := h i (by rw [tx_size]; exact hi)
  rwa [tx_get hi] at this
theorem tx_asc {l : Bs} (h : ∀ c ∈ l, c.toNat < 128) : asc (tx l) := fun k hk => by
  rw [tx_size] at hk
  rw [tx_get hk]; exact h _ (List.getElem_mem hk)

/-- The first (the last) place of a byte of some kind; -1 without one. -/
def fidx (p : UInt8 → Bool) (l : Bs) : Int := if l.findIdx p < l.length then (l.findIdx p : Int) else -1
def lidxR (p : UInt8 → Bool) : Bs → Int
  | [] => -1
  | c :: l => if p c then l.length else lidxR p l
def lidx (p : UInt8 → Bool) (l : Bs) : Int := lidxR p l.reverse
theorem lidx_nil (p : UInt8 → Bool) : lidx p [] = -1 := rfl
theorem lidx_snoc (p : UInt8 → Bool) (l : Bs) (c : UInt8) : lidx p (l ++ [c]) = if p c then (l.length : Int) else lidx p l := by
  unfold lidx; rw [List.reverse_append]; simp [lidxR]
theorem lidx_lt (p : UInt8 → Bool) (l : Bs) : -1 ≤ lidx p l ∧ lidx p l < l.length := by
  have : ∀ m : Bs, -1 ≤ lidxR p m ∧ lidxR p m < m.length := by
    intro m; induction m with
    | nil => simp [lidxR]
    | cons c m ih => unfold lidxR; split <;> simp <;> omega
  have h := this l.reverse
  simpa [lidx] using h
theorem fidx_lt (p : UInt8 → Bool) (l : Bs) : -1 ≤ fidx p l ∧ fidx p l < l.length := by
  unfold fidx; split <;> omega
theorem fidx_at {p : UInt8 → Bool} {l : Bs} {k : Nat} (hk : k < l.length) (h : ∀ j (hj : j < l.length), j < k → p l[j] = false) (e : p l[k] = true) : fidx p l = k := by
  have : l.findIdx p = k := by
    rw [List.findIdx_eq hk]
    exact ⟨e, fun j hj => h j (by omega) hj⟩
  unfold fidx; rw [this, if_pos hk]
theorem fidx_none {p : UInt8 → Bool} {l : Bs} (h : ∀ j (hj : j < l.length), p l[j] = false) : fidx p l = -1 := by
  have : ¬ l.findIdx p < l.length := by
    intro hl
    have h1 := List.findIdx_getElem (w := hl)
    rw [h _ hl] at h1; cases h1
  unfold fidx; rw [if_neg this]
theorem lidx_take_succ (p : UInt8 → Bool) {l : Bs} {k : Nat} (hk : k < l.length) : lidx p (l.take (k + 1)) = if p l[k] then (k : Int) else lidx p (l.take k) := by
  rw [List.take_succ_eq_append_getElem hk, lidx_snoc]
  have : (l.take k).length = k := by simp; omega
  rw [this]
theorem lidx_at {p : UInt8 → Bool} : ∀ {l : Bs} {k : Nat} (hk : k < l.length), (∀ j (hj : j < l.length), k < j → p l[j] = false) → p l[k] = true → lidx p l = k := by
  intro l k hk h e
  have key : ∀ n, k < n → n ≤ l.length → lidx p (l.take n) = k := by
    intro n
    induction n with
    | zero => intro h; omega
    | succ n ih =>
      intro h1 h2
      rw [lidx_take_succ p (by omega)]
      by_cases hn : n = k
      · subst hn; simp [e]
      · rw [h n (by omega) (by omega)]; simpa using ih (by omega) (by omega)
  have := key l.length hk (Nat.le_refl _)
  rwa [List.take_length] at this
theorem lidx_none {p : UInt8 → Bool} {l : Bs} (h : ∀ j (hj : j < l.length), p l[j] = false) : lidx p l = -1 := by
  have key : ∀ n, n ≤ l.length → lidx p (l.take n) = -1 := by
    intro n
    induction n with
    | zero => intro _; rfl
    | succ n ih =>
      intro h2
      rw [lidx_take_succ p (by omega), h n (by omega)]
      simpa using ih (by omega)
  have := key l.length (Nat.le_refl _)
  rwa [List.take_length] at this
/-- Where the last place is found, all behind it are of the other kind. -/
theorem lidx_spec (p : UInt8 → Bool) : ∀ (n : Nat) (l : Bs), l.length = n → (lidx p l = -1 ∧ ∀ j (hj : j < l.length), p l[j] = false) ∨ ∃ k, ∃ hk : k < l.length, lidx p l = k ∧ p l[k] = true ∧ ∀ j (hj : j < l.length), k < j → p l[j] = false
  | 0, l, h => by
    have : l = [] := List.eq_nil_of_length_eq_zero h
    subst this
    exact .inl ⟨rfl, fun j hj => absurd hj (by simp)⟩
  | n + 1, l, h => by
    obtain ⟨m, c, rfl⟩ : ∃ M s, l = M ++ [s] := ⟨l.dropLast, l.getLast (by intro e; rw [e] at h; simp at h), (List.dropLast_concat_getLast _).symm⟩
    have hm : m.length = n := by simpa using h
    rw [lidx_snoc]
    cases hc : p c with
    | true =>
      right
      refine ⟨m.length, by simp, by simp, by simp [hc], fun j hj hk => ?_⟩
      simp at hj; omega
    | false =>
      rcases lidx_spec p n m hm with ⟨h1, h2⟩ | ⟨k, hk, h1, h2, h3⟩
      · left
        refine ⟨by simpa using h1, fun j hj => ?_⟩
        by_cases hj2 : j < m.length
        · rw [List.getElem_append_left hj2]; exact h2 j hj2
        · have : j = m.length := by simp at hj; omega
          subst this; simp [hc]
      · right
        refine ⟨k, by simp; omega, by simpa using h1, by rw [List.getElem_append_left hk]; exact h2, fun j hj hkj => ?_⟩
        by_cases hj2 : j < m.length
        · rw [List.getElem_append_left hj2]; exact h3 j hj2 hkj
        · have : j = m.length := by simp at hj; omega
          subst this; simp [hc]
theorem fidx_spec (p : UInt8 → Bool) (l : Bs) : (fidx p l = -1 ∧ ∀ j (hj : j < l.length), p l[j] = false) ∨ ∃ k, ∃ hk : k < l.length, fidx p l = k ∧ p l[k] = true ∧ ∀ j (hj : j < l.length), j < k → p l[j] = false := by
  by_cases h : l.findIdx p < l.length
  · right
    refine ⟨l.findIdx p, h, by unfold fidx; rw [if_pos h], List.findIdx_getElem (w := h), fun j hj hjk => ?_⟩
    have := List.not_of_lt_findIdx hjk
    simpa using this
  · left
    refine ⟨by unfold fidx; rw [if_neg h], fun j hj => ?_⟩
    have hl : j < l.findIdx p := by omega
    have := List.not_of_lt_findIdx hl
    simpa using this
/-- The length of what stands ahead of the first one. -/
def flen (p : UInt8 → Bool) (l : Bs) : Nat := l.findIdx p
theorem flen_le (p : UInt8 → Bool) (l : Bs) : flen p l ≤ l.length := List.findIdx_le_length
theorem fidx_flen {p : UInt8 → Bool} {l : Bs} (h : 0 ≤ fidx p l) : fidx p l = flen p l ∧ flen p l < l.length := by
  unfold fidx flen at *; split at h
  · rename_i h1; exact ⟨if_pos h1, h1⟩
  · omega
theorem fidx_neg {p : UInt8 → Bool} {l : Bs} (h : fidx p l < 0) : fidx p l = -1 ∧ flen p l = l.length := by
  unfold fidx flen at *; split at h
  · omega
  · rename_i h1; have := List.findIdx_le_length (p := p) (xs := l); exact ⟨if_neg h1, by omega⟩

def nl (c : UInt8) : Bool := c == 10
/-- The lines of a text. -/
def splitL : Bs → List Bs
  | [] => [[]]
  | c :: l => if nl c then [] :: splitL l else match splitL l with
    | [] => [[c]]
    | h :: t => (c :: h) :: t
theorem splitL_ne (l : Bs) : splitL l ≠ [] := by
  cases l with
  | nil => simp [splitL]
  | cons c l => unfold splitL; split
                · simp
                · split <;> simp
theorem splitL_pos (l : Bs) : 0 < (splitL l).length := List.length_pos_iff.2 (splitL_ne l)
theorem splitL_cons {c : UInt8} {l : Bs} (h : nl c = false) : ∃ a t, splitL l = a :: t ∧ splitL (c :: l) = (c :: a) :: t := by
  cases hs : splitL l with
  | nil => exact absurd hs (splitL_ne l)
  | cons a t => exact ⟨a, t, rfl, by unfold splitL; rw [h, hs]; rfl⟩
theorem splitL_nl {c : UInt8} {l : Bs} (h : nl c = true) : splitL (c :: l) = [] :: splitL l := by conv => lhs; unfold splitL
                                                                                                  rw [h]; rfl
theorem splitL_cut : ∀ {l : Bs}, flen nl l < l.length → splitL l = l.take (flen nl l) :: splitL (l.drop (flen nl l + 1))
  | [], h => absurd h (by simp)
  | c :: l, h => by
    cases hc : nl c with
    | true =>
      have e : flen nl (c :: l) = 0 := by unfold flen; rw [List.findIdx_cons]; simp [hc]
      rw [e, splitL_nl hc]; rfl
    | false =>
      have e : flen nl (c :: l) = flen nl l + 1 := by unfold flen; rw [List.findIdx_cons]; simp [hc]
      rw [e] at h ⊢
      have ih := splitL_cut (l := l) (by simpa using h)
      obtain ⟨a, t, h1, h2⟩ := splitL_cons (l := l) hc
      rw [h1] at ih
      injection ih with i1 i2
      rw [h2, i1, i2]; rfl
theorem splitL_none : ∀ {l : Bs}, flen nl l = l.length → splitL l = [l]
  | [], _ => rfl
  | c :: l, h => by
    cases hc : nl c with
    | true =>
      have e : flen nl (c :: l) = 0 := by unfold flen; rw [List.findIdx_cons]; simp [hc]
      rw [e] at h; simp at h
    | false =>
      have e : flen nl (c :: l) = flen nl l + 1 := by unfold flen; rw [List.findIdx_cons]; simp [hc]
      rw [e] at h
      have ih := splitL_none (l := l) (by simpa using h)
      obtain ⟨a, t, h1, h2⟩ := splitL_cons (l := l) hc
      rw [ih] at h1
      injection h1 with i1 i2
      rw [h2, ← i1, ← i2]
/-- Line r; where it begins. -/
def line (L : List Bs) (r : Nat) : Bs := L.getD r []
def start (L : List Bs) (r : Nat) : Nat := ((L.take r).map fun x => x.length + 1).sum
theorem start_zero (L : List Bs) : start L 0 = 0 := by simp [start]
theorem start_succ {L : List Bs} {r : Nat} (h : r < L.length) : start L (r + 1) = start L r + ((line L r).length + 1) := by
  unfold start line
  rw [List.take_succ_eq_append_getElem h, List.map_append, List.sum_append]
  simp only [List.map_cons, List.map_nil, List.sum_cons, List.sum_nil, Nat.add_zero, List.getD, List.getElem?_eq_getElem h, Option.getD_some]
theorem start_cons (a : Bs) (L : List Bs) (r : Nat) : start (a :: L) (r + 1) = a.length + 1 + start L r := by unfold start; simp
theorem start_mono {L : List Bs} {a : Nat} : ∀ (d : Nat), a + d ≤ L.length → start L a ≤ start L (a + d)
  | 0, _ => Nat.le_refl _
  | d + 1, h => by
    have h1 := start_succ (L := L) (r := a + d) (by omega)
    have h2 := start_mono (L := L) (a := a) d (by omega)
    rw [← Nat.add_assoc, h1]; omega
/-- How many lines end ahead of a place. -/
def row (l : Bs) (k : Nat) : Nat := (l.take k).countP nl
theorem splitL_len (l : Bs) : (splitL l).length = l.countP nl + 1 := by
  induction l with
  | nil => rfl
  | cons c l ih =>
    cases hc : nl c with
    | true => rw [splitL_nl hc, List.countP_cons]; simp [hc, ih]
    | false =>
      obtain ⟨a, t, h1, h2⟩ := splitL_cons (l := l) hc
      rw [h2, List.countP_cons]; rw [h1] at ih; simp [hc] at ih ⊢; exact ih
theorem start_all (l : Bs) : start (splitL l) (splitL l).length = l.length + 1 := by
  induction l with
  | nil => rfl
  | cons c l ih =>
    cases hc : nl c with
    | true =>
      rw [splitL_nl hc]; simp only [List.length_cons]; rw [start_cons, ih]; simp; omega
    | false =>
      obtain ⟨a, t, h1, h2⟩ := splitL_cons (l := l) hc
      rw [h2]; rw [h1] at ih; simp only [List.length_cons] at ih ⊢
      rw [start_cons] at ih ⊢; simp; omega
theorem row_spec : ∀ (l : Bs) (k : Nat), k ≤ l.length → row l k < (splitL l).length ∧ start (splitL l) (row l k) ≤ k ∧ k < start (splitL l) (row l k + 1)
  | [], k, h => by
    obtain rfl : k = 0 := by simpa using h
    exact ⟨by decide, by decide, by decide⟩
  | c :: l, 0, h => by
    have h0 : row (c :: l) 0 = 0 := rfl
    rw [h0, start_zero]
    have hp := splitL_pos (c :: l)
    refine ⟨hp, Nat.le_refl _, ?_⟩
    rw [start_succ hp]; omega
  | c :: l, k + 1, h => by
    have ih := row_spec l k (by simpa using h)
    cases hc : nl c with
    | true =>
      have e : row (c :: l) (k + 1) = row l k + 1 := by unfold row; rw [List.take_succ_cons, List.countP_cons]; simp [hc]
      rw [e, splitL_nl hc, start_cons, start_cons]
      simp; omega
    | false =>
      have e : row (c :: l) (k + 1) = row l k := by unfold row; rw [List.take_succ_cons, List.countP_cons]; simp [hc]
      obtain ⟨a, t, h1, h2⟩ := splitL_cons (l := l) hc
      rw [e, h2]; rw [h1] at ih
      cases hr : row l k with
      | zero =>
        rw [hr] at ih
        rw [start_cons] at ih ⊢
        simp [start_zero] at ih ⊢; omega
      | succ r =>
        rw [hr] at ih
        rw [start_cons, start_cons] at ih ⊢
        simp at ih ⊢; omega

theorem lidx_cons (p : UInt8 → Bool) (c : UInt8) : ∀ (n : Nat) (l : Bs), l.length = n → lidx p (c :: l) = if 0 ≤ lidx p l then lidx p l + 1 else if p c then 0 else -1
  | 0, l, h => by
    have : l = [] := List.eq_nil_of_length_eq_zero h
    subst this
    have := lidx_snoc p [] c
    simp [lidx_nil] at this ⊢
    exact this
  | n + 1, l, h => by
    obtain ⟨m, d, rfl⟩ : ∃ M s, l = M ++ [s] := ⟨l.dropLast, l.getLast (by intro e; rw [e] at h; simp at h), (List.dropLast_concat_getLast _).symm⟩
    have hm : m.length = n := by simpa using h
    have ih := lidx_cons p c n m hm
    have e : c :: (m ++ [d]) = (c :: m) ++ [d] := rfl
    rw [e, lidx_snoc, lidx_snoc, ih]
    cases p d <;> simp <;> omega
/-- The part of a line ahead of the cursor, and behind it. -/
def lineB (l : Bs) (k : Nat) : Bs := (l.take k).drop (lidx nl (l.take k) + 1).toNat
def lineA (l : Bs) (k : Nat) : Bs := (l.drop k).take (flen nl (l.drop k))
theorem flen_none {p : UInt8 → Bool} {l : Bs} (h : ∀ j (hj : j < l.length), p l[j] = false) : flen p l = l.length := (fidx_neg (p := p) (l := l) (by rw [fidx_none h]; omega)).2
theorem line_zero (l : Bs) : line (splitL l) 0 = l.take (flen nl l) := by
  rcases Nat.lt_or_ge (flen nl l) l.length with h | h
  · rw [splitL_cut h]; rfl
  · have := flen_le nl l
    have e : flen nl l = l.length := by omega
    rw [splitL_none e, e, List.take_length]; rfl
theorem line_last : ∀ (l : Bs), line (splitL l) ((splitL l).length - 1) = l.drop (lidx nl l + 1).toNat
  | [] => rfl
  | c :: l => by
    have ih := line_last l
    have hb := lidx_lt nl l
    have hp := splitL_pos l
    rw [lidx_cons nl c l.length l rfl]
    cases hc : nl c with
    | true =>
      rw [splitL_nl hc]
      have e : ([] :: splitL l).length - 1 = ((splitL l).length - 1) + 1 := by simp; omega
      rw [e]
      have e2 : line ([] :: splitL l) ((splitL l).length - 1 + 1) = line (splitL l) ((splitL l).length - 1) := by unfold line; simp
      rw [e2, ih]
      by_cases h0 : 0 ≤ lidx nl l
      · rw [if_pos h0]
        have : (lidx nl l + 1 + 1).toNat = (lidx nl l + 1).toNat + 1 := by omega
        rw [this]; rfl
      · have h1 : lidx nl l = -1 := by omega
        rw [if_neg h0, h1]; rfl
    | false =>
      obtain ⟨a, t, h1, h2⟩ := splitL_cons (l := l) hc
      rw [h2]
      rw [h1] at ih
      cases t with
      | nil =>
        have hl : (splitL l).length = 1 := by rw [h1]; rfl
        have hn : lidx nl l = -1 := by
          rw [splitL_len] at hl
          refine lidx_none fun j hj => ?_
          have h0 : l.countP nl = 0 := by omega
          rw [List.countP_eq_zero] at h0
          simpa using h0 _ (List.getElem_mem hj)
        rw [hn] at ih ⊢
        simp [line] at ih ⊢
        exact ih
      | cons b t =>
        have h0 : 0 ≤ lidx nl l := by
          rcases lidx_spec nl l.length l rfl with ⟨h3, h4⟩ | ⟨k, hk, h3, _⟩
          · have := splitL_len l
            have hz : l.countP nl = 0 := by
              rw [List.countP_eq_zero]
              intro x hx
              obtain ⟨i, hi, rfl⟩ := List.getElem_of_mem hx
              simp [h4 i hi]
            rw [h1, hz] at this; simp at this
          · omega
        rw [if_pos h0]
        have : (lidx nl l + 1 + 1).toNat = (lidx nl l + 1).toNat + 1 := by omega
        rw [this, List.drop_succ_cons, ← ih]
        unfold line; simp
theorem start_row : ∀ (l : Bs) (k : Nat), k ≤ l.length → (start (splitL l) (row l k) : Int) = lidx nl (l.take k) + 1
  | [], k, h => by
    obtain rfl : k = 0 := by simpa using h
    rfl
  | c :: l, 0, h => by
    have h0 : row (c :: l) 0 = 0 := rfl
    rw [h0, start_zero]; rfl
  | c :: l, k + 1, h => by
    have ih := start_row l k (by simpa using h)
    have hb := lidx_lt nl (l.take k)
    rw [List.take_succ_cons, lidx_cons nl c _ _ rfl]
    cases hc : nl c with
    | true =>
      have e : row (c :: l) (k + 1) = row l k + 1 := by unfold row; rw [List.take_succ_cons, List.countP_cons]; simp [hc]
      rw [e, splitL_nl hc, start_cons]
      by_cases h0 : 0 ≤ lidx nl (l.take k)
      · rw [if_pos h0]; simp; omega
      · rw [if_neg h0]; simp; omega
    | false =>
      have e : row (c :: l) (k + 1) = row l k := by unfold row; rw [List.take_succ_cons, List.countP_cons]; simp [hc]
      obtain ⟨a, t, h1, h2⟩ := splitL_cons (l := l) hc
      rw [e, h2]; rw [h1] at ih
      cases hr : row l k with
      | zero =>
        rw [hr, start_zero] at ih
        rw [start_zero, if_neg (by omega)]; simp
      | succ r =>
        rw [hr, start_cons] at ih
        rw [start_cons, if_pos (by omega)]; simp; omega
theorem row_take (l : Bs) (k : Nat) : (splitL (l.take k)).length = row l k + 1 := splitL_len _
theorem lineB_len {l : Bs} {k : Nat} (h : k ≤ l.length) : (start (splitL l) (row l k) + (lineB l k).length) = k := by
  have := start_row l k h
  have hb := lidx_lt nl (l.take k)
  have hk : (l.take k).length = k := by simp; omega
  unfold lineB
  rw [List.length_drop, hk]
  omega
end Go.Proofs.YtpkmamdgpjncoaaDoor
