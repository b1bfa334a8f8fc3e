/- What is filled up and set in sign by sign is so line by line (no program in sight). -/
import Derived.Test.YtpkmamdgpjncoaaDoorTextM
namespace Go.Proofs.YtpkmamdgpjncoaaDoor
set_option linter.unusedVariables false
set_option linter.unusedSimpArgs false
set_option linter.unnecessarySimpa false
set_option maxRecDepth 100000

/-- Lines, one behind the other, with line feeds between. -/
def joinN : List Bs → Bs
  | [] => []
  | [a] => a
  | a :: b :: t => a ++ 10 :: joinN (b :: t)
/-- Each line made anew, but an empty last one. -/
def mapRows (g : Bs → Bs) : List Bs → List Bs
  | [] => []
  | [a] => [if a = [] then [] else g a]
  | a :: b :: t => g a :: mapRows g (b :: t)
theorem mapRows_len (g : Bs → Bs) : ∀ L, (mapRows g L).length = L.length
  | [] => rfl
  | [a] => rfl
  | a :: b :: t => by
    show (mapRows g (b :: t)).length + 1 = _
    rw [mapRows_len g (b :: t)]; rfl
theorem mapRows_cons (g : Bs → Bs) (a : Bs) {t : List Bs} (h : t ≠ []) : mapRows g (a :: t) = g a :: mapRows g t := by
  cases t with
  | nil => exact absurd rfl h
  | cons b t => rfl
theorem joinN_cons (a : Bs) {t : List Bs} (h : t ≠ []) : joinN (a :: t) = a ++ 10 :: joinN t := by
  cases t with
  | nil => exact absurd rfl h
  | cons b t => rfl
theorem mapRows_ne (g : Bs → Bs) {t : List Bs} (h : t ≠ []) : mapRows g t ≠ [] := by
  intro e
  have := mapRows_len g t
  rw [e] at this
  exact h (List.eq_nil_of_length_eq_zero this.symm)
def padT (f : Nat → Bs) (n : Nat) : Nat → Bs → Bs
  | k, [] => if k = 0 then [] else f (n - k)
  | k, c :: l => if c = 10 then f (n - k) ++ 10 :: padT f n 0 l else c :: padT f n (k + 1) l
theorem padT_rows (f : Nat → Bs) (n : Nat) : ∀ (l p a : Bs) (t : List Bs), splitL l = a :: t → p ++ padT f n p.length l = joinN (mapRows (fun x => x ++ f (n - x.length)) ((p ++ a) :: t))
  | [], p, a, t, h => by
    have e : splitL [] = [[]] := rfl
    rw [e] at h
    injection h with h1 h2
    subst h1 h2
    rw [List.append_nil]
    show p ++ (if p.length = 0 then [] else f (n - p.length)) = (if p = [] then [] else p ++ f (n - p.length))
    by_cases h0 : p = []
    · subst h0; rfl
    · rw [if_neg (fun e => h0 (List.eq_nil_of_length_eq_zero e)), if_neg h0]
  | c :: l, p, a, t, h => by
    by_cases hc : c = 10
    · subst hc
      rw [splitL_nl (by decide)] at h
      injection h with h1 h2
      subst h1 h2
      have hne := splitL_ne l
      obtain ⟨a', t', h'⟩ : ∃ a' t', splitL l = a' :: t' := by
        cases hs : splitL l with
        | nil => exact absurd hs hne
        | cons x y => exact ⟨x, y, rfl⟩
      have ih := padT_rows f n l [] a' t' h'
      rw [List.append_nil, mapRows_cons _ _ hne, joinN_cons _ (mapRows_ne _ hne), h']
      simp only [List.nil_append, List.length_nil] at ih
      rw [← ih]
      show p ++ (if (10 : UInt8) = 10 then f (n - p.length) ++ 10 :: padT f n 0 l else _) = _
      rw [if_pos rfl, ← List.append_assoc]
    · obtain ⟨a', t', h1, h2⟩ := splitL_cons (c := c) (l := l) (by unfold nl; simp [hc])
      rw [h2] at h
      injection h with e1 e2
      subst e1 e2
      have ih := padT_rows f n l (p ++ [c]) a' t' h1
      have e : p ++ [c] ++ a' = p ++ c :: a' := by simp
      rw [e] at ih
      rw [← ih]
      show p ++ (if c = 10 then _ else c :: padT f n (p.length + 1) l) = _
      rw [if_neg hc]
      simp
/-- The lines of a text. -/
theorem padT_all (f : Nat → Bs) (n : Nat) (l : Bs) : padT f n 0 l = joinN (mapRows (fun x => x ++ f (n - x.length)) (splitL l)) := by
  have hne := splitL_ne l
  cases hs : splitL l with
  | nil => exact absurd hs hne
  | cons a t => exact padT_rows f n l [] a t hs
def indT (x : Bs) : Bool → Bs → Bs
  | _, [] => []
  | s, c :: l => (if s then [] else x) ++ c :: indT x (decide (c ≠ 10)) l
def preT (x p : Bs) : Bs := if p = [] then [] else x ++ p
theorem indT_rows (x : Bs) : ∀ (l p a : Bs) (t : List Bs), splitL l = a :: t → preT x p ++ indT x (decide (p ≠ [])) l = joinN (mapRows (fun y => x ++ y) ((p ++ a) :: t))
  | [], p, a, t, h => by
    have e : splitL [] = [[]] := rfl
    rw [e] at h
    injection h with h1 h2
    subst h1 h2
    rw [List.append_nil]
    show preT x p ++ [] = (if p = [] then [] else x ++ p)
    rw [List.append_nil]; rfl
  | c :: l, p, a, t, h => by
    have hp : preT x p ++ (if decide (p ≠ []) then [] else x) = x ++ p := by
      unfold preT
      by_cases h0 : p = []
      · simp [h0]
      · simp [h0]
    by_cases hc : c = 10
    · subst hc
      rw [splitL_nl (by decide)] at h
      injection h with h1 h2
      subst h1 h2
      have hne := splitL_ne l
      obtain ⟨a', t', h'⟩ : ∃ a' t', splitL l = a' :: t' := by
        cases hs : splitL l with
        | nil => exact absurd hs hne
        | cons x y => exact ⟨x, y, rfl⟩
      have ih := indT_rows x l [] a' t' h'
      rw [List.append_nil, mapRows_cons _ _ hne, joinN_cons _ (mapRows_ne _ hne), h']
      rw [List.nil_append] at ih
      rw [← ih]
      show preT x p ++ ((if decide (p ≠ []) then [] else x) ++ 10 :: indT x (decide ((10 : UInt8) ≠ 10)) l) = _
      rw [← List.append_assoc, hp]
      rfl
    · obtain ⟨a', t', h1, h2⟩ := splitL_cons (c := c) (l := l) (by unfold nl; simp [hc])
      rw [h2] at h
      injection h with e1 e2
      subst e1 e2
      have ih := indT_rows x l (p ++ [c]) a' t' h1
      have e : p ++ [c] ++ a' = p ++ c :: a' := by simp
      rw [e] at ih
      rw [← ih]
      show preT x p ++ ((if decide (p ≠ []) then [] else x) ++ c :: indT x (decide (c ≠ 10)) l) = _
      rw [← List.append_assoc, hp]
      have e3 : preT x (p ++ [c]) = x ++ p ++ [c] := by unfold preT; simp
      have e4 : decide (p ++ [c] ≠ []) = decide (c ≠ 10) := by simp [hc]
      rw [e3, e4]
      simp
theorem indT_all (x l : Bs) : indT x false l = joinN (mapRows (fun y => x ++ y) (splitL l)) := by
  have hne := splitL_ne l
  cases hs : splitL l with
  | nil => exact absurd hs hne
  | cons a t => exact indT_rows x l [] a t hs
end Go.Proofs.YtpkmamdgpjncoaaDoor
