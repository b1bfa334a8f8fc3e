/- What a writer that fills lines up makes of a plain text, sign by sign; filled up twice (no program in sight). -/
import Derived.Test.YtpkmamdgpjncoaaDoorTextM
namespace Go.Proofs.YtpkmamdgpjncoaaDoor
set_option linter.unusedVariables false
set_option linter.unusedSimpArgs false
set_option linter.unnecessarySimpa false
set_option maxRecDepth 100000

theorem snoc_ind {P : Bs → Prop} (h0 : P []) (h1 : ∀ l c, P l → P (l ++ [c])) (l : Bs) : P l := by
  have h : ∀ m : Bs, P m.reverse := by
    intro m
    induction m with
    | nil => exact h0
    | cons c m ih => rw [List.reverse_cons]; exact h1 _ _ ih
  have := h l.reverse
  rwa [List.reverse_reverse] at this
def blk (n : Nat) : Bs := List.replicate n 32
theorem blk_len (n : Nat) : (blk n).length = n := by simp [blk]
theorem blk_add (a b : Nat) : blk a ++ blk b = blk (a + b) := by simp [blk]
/-- One sign: what was written so far, and how long its line is. -/
def padS (n : Nat) (s : Bs × Nat) (c : UInt8) : Bs × Nat := if c = 10 then (s.1 ++ blk (n - s.2) ++ [10], 0) else (s.1 ++ [c], s.2 + 1)
def padR (n : Nat) (l : Bs) : Bs × Nat := l.foldl (padS n) ([], 0)
def padE (n : Nat) (s : Bs × Nat) : Bs := if s.2 = 0 then s.1 else s.1 ++ blk (n - s.2)
def padM (n : Nat) (l : Bs) : Bs := padE n (padR n l)
theorem padR_nil (n : Nat) : padR n [] = ([], 0) := rfl
theorem padR_app (n : Nat) (l m : Bs) : padR n (l ++ m) = m.foldl (padS n) (padR n l) := by unfold padR; rw [List.foldl_append]
theorem padR_snoc (n : Nat) (l : Bs) (c : UInt8) : padR n (l ++ [c]) = padS n (padR n l) c := by rw [padR_app]; rfl
theorem padR_succ (n : Nat) {l : Bs} {k : Nat} (h : k < l.length) : padR n (l.take (k + 1)) = padS n (padR n (l.take k)) l[k] := by
  rw [List.take_succ_eq_append_getElem h, padR_snoc]
theorem padR_blk (n : Nat) : ∀ (m : Nat) (s : Bs × Nat), (blk m).foldl (padS n) s = (s.1 ++ blk m, s.2 + m)
  | 0, s => by simp [blk]
  | m + 1, s => by
    have e : blk (m + 1) = 32 :: blk m := rfl
    rw [e, List.foldl_cons, padR_blk n m]
    have e2 : padS n s 32 = (s.1 ++ [32], s.2 + 1) := by unfold padS; rw [if_neg (by decide)]
    rw [e2]
    simp only [List.append_assoc, List.singleton_append, Prod.mk.injEq, true_and]
    omega
theorem padR_k (n : Nat) (l : Bs) : (padR n l).2 ≤ l.length := by
  induction l using snoc_ind with
  | h0 => simp [padR]
  | h1 l c ih =>
    rw [padR_snoc]
    unfold padS
    split
    · simp
    · simp; omega
theorem padR_len (n : Nat) (l : Bs) : (padR n l).1.length ≤ l.length + l.length * n := by
  induction l using snoc_ind with
  | h0 => simp [padR]
  | h1 l c ih =>
    rw [padR_snoc, List.length_append, Nat.add_mul]
    unfold padS
    split
    · simp [blk_len]; omega
    · simp; omega
theorem padM_len (n : Nat) (l : Bs) : (padM n l).length ≤ l.length + l.length * n + n := by
  have := padR_len n l
  unfold padM padE
  split
  · omega
  · simp [blk_len]; omega
theorem padR_two (a b : Nat) (l : Bs) : padR b (padR a l).1 = ((padR (max a b) l).1, (padR (max a b) l).2) ∧ (padR a l).2 = (padR (max a b) l).2 := by
  induction l using snoc_ind with
  | h0 => exact ⟨rfl, rfl⟩
  | h1 l c ih =>
    obtain ⟨h1, h2⟩ := ih
    rw [padR_snoc, padR_snoc]
    by_cases hc : c = 10
    · have e1 : padS a (padR a l) c = ((padR a l).1 ++ blk (a - (padR a l).2) ++ [10], 0) := by unfold padS; rw [if_pos hc]
      have e2 : padS (max a b) (padR (max a b) l) c = ((padR (max a b) l).1 ++ blk (max a b - (padR (max a b) l).2) ++ [10], 0) := by unfold padS; rw [if_pos hc]
      rw [e1, e2]
      refine ⟨?_, rfl⟩
      rw [padR_snoc, padR_app, padR_blk, h1]
      unfold padS
      rw [if_pos rfl, h2]
      simp only [List.append_assoc]
      rw [← List.append_assoc (blk _) (blk _), blk_add]
      have : a - (padR (max a b) l).2 + (b - ((padR (max a b) l).2 + (a - (padR (max a b) l).2))) = max a b - (padR (max a b) l).2 := by omega
      rw [this]
    · have e1 : padS a (padR a l) c = ((padR a l).1 ++ [c], (padR a l).2 + 1) := by unfold padS; rw [if_neg hc]
      have e2 : padS (max a b) (padR (max a b) l) c = ((padR (max a b) l).1 ++ [c], (padR (max a b) l).2 + 1) := by unfold padS; rw [if_neg hc]
      rw [e1, e2]
      refine ⟨?_, by rw [h2]⟩
      rw [padR_snoc, h1]
      unfold padS
      rw [if_neg hc]
/-- Filled up to a width, and then to another one. -/
theorem padM_two (a b : Nat) (l : Bs) : padM b (padM a l) = padM (max a b) l := by
  obtain ⟨h1, h2⟩ := padR_two a b l
  by_cases h0 : (padR (max a b) l).2 = 0
  · have e1 : padM a l = (padR a l).1 := by unfold padM padE; rw [if_pos (by rw [h2]; exact h0)]
    have e2 : padM (max a b) l = (padR (max a b) l).1 := by unfold padM padE; rw [if_pos h0]
    rw [e1, e2]
    unfold padM padE
    rw [h1, if_pos h0]
  · have e1 : padM a l = (padR a l).1 ++ blk (a - (padR a l).2) := by unfold padM padE; rw [if_neg (by rw [h2]; exact h0)]
    have e2 : padM (max a b) l = (padR (max a b) l).1 ++ blk (max a b - (padR (max a b) l).2) := by unfold padM padE; rw [if_neg h0]
    rw [e1, e2]
    unfold padM padE
    rw [padR_app, padR_blk, h1]
    dsimp only
    rw [if_neg (by omega), List.append_assoc, blk_add, h2]
    congr 2
    omega
/-- A plain text: printable ASCII and line feeds. -/
def plnC (c : UInt8) : Prop := c = 10 ∨ 32 ≤ c.toNat ∧ c.toNat ≤ 126
def pln (l : Bs) : Prop := ∀ c ∈ l, plnC c
theorem pln_blk (n : Nat) : pln (blk n) := fun c hc => by
  have := List.eq_of_mem_replicate hc
  subst this
  exact .inr ⟨by decide, by decide⟩
theorem pln_app {a b : Bs} (h : pln a) (k : pln b) : pln (a ++ b) := fun c hc => (List.mem_append.1 hc).elim (h c) (k c)
theorem pln_one {c : UInt8} (h : plnC c) : pln [c] := fun d hd => by
  have := List.mem_singleton.1 hd
  subst this; exact h
theorem pln_padR (n : Nat) {l : Bs} (h : pln l) : pln (padR n l).1 := by
  induction l using snoc_ind with
  | h0 => intro c hc; simp [padR] at hc
  | h1 l c ih =>
    have ih := ih (fun x hx => h x (List.mem_append_left _ hx))
    have hc := h c (by simp)
    rw [padR_snoc]
    unfold padS
    split
    · exact pln_app (pln_app ih (pln_blk _)) (pln_one (.inl rfl))
    · exact pln_app ih (pln_one hc)
theorem pln_padM (n : Nat) {l : Bs} (h : pln l) : pln (padM n l) := by
  unfold padM padE
  split
  · exact pln_padR n h
  · exact pln_app (pln_padR n h) (pln_blk _)
end Go.Proofs.YtpkmamdgpjncoaaDoor
