/- Turns over a history, in plain words. -/
import Derived.Test.YtbkdppfjmfepiaaBase
namespace Go.Proofs.Ytbkdppfjmfepiaa
set_option linter.unusedVariables false
set_option linter.unusedSimpArgs false
set_option maxRecDepth 100000

/-- A turn: what it is (1 adds, 2 older, 3 newer, 4 clears), and its text. -/
abbrev Trn := Int × ByteArray
/-- Turn k of a list. -/
def gt (l : List Trn) (k : Nat) : Trn := l.getD k (0, ⟨#[]⟩)
theorem gt_lt {l : List Trn} {k : Nat} (h : k < l.length) : gt l k = l[k] := by simp [gt, List.getD, List.getElem?_eq_getElem h]
/-- A history: what was added, what is kept, which one is shown. -/
structure HM where
  hs : List ByteArray
  ks : List ByteArray
  at_ : Nat
def HM.new : HM := ⟨[], [⟨#[]⟩], 0⟩
def hStep (m : HM) (t : Trn) : HM × ByteArray × Bool :=
  if t.1 = 1 then (⟨m.hs ++ [t.2], m.hs ++ [t.2] ++ [⟨#[]⟩], (m.hs ++ [t.2]).length⟩, ⟨#[]⟩, false)
  else if t.1 = 4 then (⟨m.hs, m.hs ++ [⟨#[]⟩], m.hs.length⟩, ⟨#[]⟩, false)
  else if t.1 = 2 then (if m.at_ = 0 then (m, t.2, false) else (⟨m.hs, m.ks.set m.at_ t.2, m.at_ - 1⟩, gs m.ks (m.at_ - 1), true))
  else if t.1 = 3 then (if m.at_ + 1 = m.ks.length then (m, t.2, false) else (⟨m.hs, m.ks.set m.at_ t.2, m.at_ + 1⟩, gs m.ks (m.at_ + 1), true))
  else (m, ⟨#[]⟩, false)
theorem hStep1 {m : HM} {t : Trn} (h : t.1 = 1) : hStep m t = (⟨m.hs ++ [t.2], m.hs ++ [t.2] ++ [⟨#[]⟩], (m.hs ++ [t.2]).length⟩, ⟨#[]⟩, false) := by unfold hStep; rw [if_pos h]
theorem hStep4 {m : HM} {t : Trn} (h : t.1 = 4) : hStep m t = (⟨m.hs, m.hs ++ [⟨#[]⟩], m.hs.length⟩, ⟨#[]⟩, false) := by unfold hStep; rw [if_neg (by omega), if_pos h]
theorem hStep2a {m : HM} {t : Trn} (h : t.1 = 2) (h0 : m.at_ = 0) : hStep m t = (m, t.2, false) := by unfold hStep; rw [if_neg (by omega), if_neg (by omega), if_pos h, if_pos h0]
theorem hStep2b {m : HM} {t : Trn} (h : t.1 = 2) (h0 : m.at_ ≠ 0) : hStep m t = (⟨m.hs, m.ks.set m.at_ t.2, m.at_ - 1⟩, gs m.ks (m.at_ - 1), true) := by unfold hStep; rw [if_neg (by omega), if_neg (by omega), if_pos h, if_neg h0]
theorem hStep3a {m : HM} {t : Trn} (h : t.1 = 3) (h0 : m.at_ + 1 = m.ks.length) : hStep m t = (m, t.2, false) := by unfold hStep; rw [if_neg (by omega), if_neg (by omega), if_neg (by omega), if_pos h, if_pos h0]
theorem hStep3b {m : HM} {t : Trn} (h : t.1 = 3) (h0 : m.at_ + 1 ≠ m.ks.length) : hStep m t = (⟨m.hs, m.ks.set m.at_ t.2, m.at_ + 1⟩, gs m.ks (m.at_ + 1), true) := by unfold hStep; rw [if_neg (by omega), if_neg (by omega), if_neg (by omega), if_pos h, if_neg h0]
theorem hStep0 {m : HM} {t : Trn} (h1 : t.1 ≠ 1) (h2 : t.1 ≠ 2) (h3 : t.1 ≠ 3) (h4 : t.1 ≠ 4) : hStep m t = (m, ⟨#[]⟩, false) := by unfold hStep; rw [if_neg h1, if_neg h4, if_neg h2, if_neg h3]

/-- A text that a history takes. -/
def fine (x : ByteArray) : Prop := asc x ∧ x.size ≤ 2147483647
theorem fine_nil : fine ⟨#[]⟩ := ⟨fun k h => absurd h (by simp [ByteArray.size]), by simp [ByteArray.size]⟩
structure HM.ok (m : HM) (n : Nat) : Prop where
  lt : m.at_ < m.ks.length
  kl : m.ks.length ≤ m.hs.length + 1
  hl : m.hs.length ≤ n
  hf : ∀ x ∈ m.hs, fine x
  kf : ∀ x ∈ m.ks, fine x
theorem HM.new_ok : HM.new.ok 0 := ⟨by simp [HM.new], by simp [HM.new], by simp [HM.new], by simp [HM.new], by intro x hx; simp [HM.new] at hx; subst hx; exact fine_nil⟩
theorem HM.ok.text {m : HM} {n k : Nat} (h : m.ok n) (hk : k < m.ks.length) : fine (gs m.ks k) := by rw [gs_lt hk]; exact h.kf _ (List.getElem_mem hk)
theorem HM.ok.step {m : HM} {n : Nat} {t : Trn} (h : m.ok n) (ht : fine t.2) : (hStep m t).1.ok (n + 1) := by
  have hlt := h.lt
  have hkl := h.kl
  have hhl := h.hl
  have hset : ∀ k, ∀ x ∈ m.ks.set k t.2, fine x := fun k x hx => by
    rcases List.mem_or_eq_of_mem_set hx with h1 | h1
    · exact h.kf _ h1
    · rw [h1]; exact ht
  unfold hStep
  split
  · refine ⟨by simp, by simp, by simp; omega, fun x hx => ?_, fun x hx => ?_⟩
    · simp at hx; rcases hx with hx | hx
      · exact h.hf _ hx
      · rw [hx]; exact ht
    · simp at hx; rcases hx with hx | hx | hx
      · exact h.hf _ hx
      · rw [hx]; exact ht
      · rw [hx]; exact fine_nil
  split
  · refine ⟨by simp, by simp, by simp; omega, h.hf, fun x hx => ?_⟩
    simp at hx; rcases hx with hx | hx
    · exact h.hf _ hx
    · rw [hx]; exact fine_nil
  split
  · split
    · exact ⟨hlt, hkl, Nat.le_trans hhl (Nat.le_succ _), h.hf, h.kf⟩
    · exact ⟨by simp; omega, by simp; omega, by simp; omega, h.hf, hset _⟩
  split
  · split
    · exact ⟨hlt, hkl, Nat.le_trans hhl (Nat.le_succ _), h.hf, h.kf⟩
    · exact ⟨by simp; omega, by simp; omega, by simp; omega, h.hf, hset _⟩
  · exact ⟨hlt, hkl, Nat.le_trans hhl (Nat.le_succ _), h.hf, h.kf⟩
theorem HM.ok.told {m : HM} {n : Nat} {t : Trn} (h : m.ok n) (ht : fine t.2) : fine (hStep m t).2.1 := by
  have hlt := h.lt
  unfold hStep
  split
  · exact fine_nil
  split
  · exact fine_nil
  split
  · split
    · exact ht
    · exact h.text (by omega)
  split
  · split
    · exact ht
    · exact h.text (by omega)
  · exact fine_nil

/-- All turns: the history, what they tell, and whether it changed. -/
def hAll (l : List Trn) : HM × List ByteArray × List Bool := l.foldl (fun s t => ((hStep s.1 t).1, s.2.1 ++ [(hStep s.1 t).2.1], s.2.2 ++ [(hStep s.1 t).2.2])) (HM.new, [], [])
theorem hAll_nil : hAll [] = (HM.new, [], []) := rfl
theorem hAll_snoc (l : List Trn) (t : Trn) : hAll (l ++ [t]) = ((hStep (hAll l).1 t).1, (hAll l).2.1 ++ [(hStep (hAll l).1 t).2.1], (hAll l).2.2 ++ [(hStep (hAll l).1 t).2.2]) := by unfold hAll; simp [List.foldl_append]
theorem hAll_take {l : List Trn} {k : Nat} (h : k < l.length) : hAll (l.take (k + 1)) = ((hStep (hAll (l.take k)).1 (gt l k)).1, (hAll (l.take k)).2.1 ++ [(hStep (hAll (l.take k)).1 (gt l k)).2.1], (hAll (l.take k)).2.2 ++ [(hStep (hAll (l.take k)).1 (gt l k)).2.2]) := by
  rw [List.take_succ_eq_append_getElem h, hAll_snoc, gt_lt h]
theorem hAll_len1 (l : List Trn) : ∀ k, k ≤ l.length → (hAll (l.take k)).2.1.length = k
  | 0, _ => by simp [hAll_nil]
  | k + 1, h => by rw [hAll_take (by omega)]; simp [hAll_len1 l k (by omega)]
theorem hAll_len2 (l : List Trn) : ∀ k, k ≤ l.length → (hAll (l.take k)).2.2.length = k
  | 0, _ => by simp [hAll_nil]
  | k + 1, h => by rw [hAll_take (by omega)]; simp [hAll_len2 l k (by omega)]
theorem hAll_ok (l : List Trn) (hf : ∀ j, j < l.length → fine (gt l j).2) : ∀ k, k ≤ l.length → (hAll (l.take k)).1.ok k
  | 0, _ => by rw [List.take_zero, hAll_nil]; exact HM.new_ok
  | k + 1, h => by
    rw [hAll_take (by omega)]
    exact (hAll_ok l hf k (by omega)).step (hf k (by omega))
end Go.Proofs.Ytbkdppfjmfepiaa
