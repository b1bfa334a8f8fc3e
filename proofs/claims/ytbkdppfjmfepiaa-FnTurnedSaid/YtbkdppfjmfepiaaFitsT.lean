/- laws.zzFits7, zzFits8: no text of some turns is longer than zzMost. -/
import Derived.Test.YtbkdppfjmfepiaaProg
import Derived.Test.YtbkdppfjmfepiaaTurnsArg
namespace Go.Proofs.Ytbkdppfjmfepiaa
open Go.RowKit
set_option linter.unusedVariables false
set_option linter.unusedSimpArgs false
set_option linter.unnecessarySimpa false
set_option maxRecDepth 100000

def fit8 (s : ByteArray) : Bool := decide (s.size ≤ 2147483647)
theorem fits8_any (op : Int) (s : ByteArray) (w : World) (hs : s.size ≤ maxLen) : Calls Try.prog 54 #[.agg #[.int .i64 op, .string s]] w fun e w' => e = .returned (.bool (fit8 s)) ∧ Old w w' := by
  unfold maxLen at hs
  by_cases h : s.size ≤ 2147483647
  · have R : Hid (fit8 s = true) := decide_eq_true h
    go_enter Try.func54, Try.ntmps54
    go_wp2_with fail
    go_ret
    exact ⟨ret_bool R.out, Old.alloc _ _⟩
  · have R : Hid (fit8 s = false) := decide_eq_false h
    go_enter Try.func54, Try.ntmps54
    go_wp2_with fail
    go_ret
    exact ⟨ret_bool R.out, Old.alloc _ _⟩
def fitT (l : List Trn) : Bool := decide (l.length ≤ 2147483647 ∧ ∀ j, j < l.length → (gt l j).2.size ≤ 2147483647)
theorem fitT_len {l : List Trn} (h : ¬ l.length ≤ 2147483647) : fitT l = false := decide_eq_false fun k => h k.1
theorem fitT_at {l : List Trn} {j : Nat} (hj : j < l.length) (h : fit8 (gt l j).2 = false) : fitT l = false := decide_eq_false fun k => by
  have := k.2 j hj
  unfold fit8 at h
  simp at h; omega
theorem fits7_any (v : Value) (l : List Trn) (w : World) (h : Turns w v l) : Calls Try.prog 19 #[v] w fun e w' => e = .returned (.bool (fitT l)) ∧ Old w w' := by
  have HT := Lib.hid h
  obtain ⟨ad, c, rfl, h2, h3, h4, h5⟩ := h
  have H5 := Lib.hid h5
  clear h4 h5
  unfold maxLen at h3
  by_cases hl : l.length ≤ 2147483647
  · go_enter Try.func19, Try.ntmps19
    go_wp2_with fail
    go_loopw [10] (fun i wr => ∃ k : Nat, k ≤ l.length ∧ i = .int .i64 k ∧ Old w wr ∧ ∀ j, j < k → (gt l j).2.size ≤ 2147483647) (fun i _ => l.length - (intOf i).toNat)
    case atStart => exact ⟨0, Nat.zero_le _, rfl, Old.refl _, fun j hj => absurd hj (by omega)⟩
    case round =>
      obtain ⟨k, hk, rfl, ho, hall⟩ := hrel
      have OO := Lib.hid ho
      have AL := Lib.hid hall
      clear ho hall
      by_cases hlt : k < l.length
      · obtain ⟨b, o, rfl, c1, c2⟩ := (HT.out.old OO.out).cells k hlt
        rw [← Nat.add_assoc] at c2
        have hsz := (H5.out k hlt).2
        obtain ⟨op, hop⟩ : ∃ op, op = (gt l k).1 := ⟨_, rfl⟩
        obtain ⟨s, hs⟩ : ∃ s, s = (gt l k).2 := ⟨_, rfl⟩
        rw [← hop] at c1
        rw [← hs] at c2 hsz
        have HS := Lib.hid hs
        clear hop hs
        have i0 : (0 : Int) ≤ k := by omega
        have i1 : (k : Int) < l.length := by omega
        cases hf : fit8 s with
        | false =>
          have HF := Lib.hid hf
          go_wp2_with (go_at_call 54; refine (fits8_any op s _ hsz).mono ?_; rw [HF.out]; rintro e w2 ⟨rfl, o2⟩; have O2 := Lib.hid (OO.out.trans ((Old.alloc _ _).trans o2)); clear o2)
          go_ret
          exact ⟨ret_bool (fitT_at hlt (by rw [← HS.out]; exact HF.out)), O2.out⟩
        | true =>
          have HF := Lib.hid hf
          go_wp2_with (go_at_call 54; refine (fits8_any op s _ hsz).mono ?_; rw [HF.out]; rintro e w2 ⟨rfl, o2⟩; have O2 := Lib.hid (OO.out.trans ((Old.alloc _ _).trans o2)); clear o2)
          go_roundw
          case rel =>
            refine ⟨k + 1, by omega, by go_num, O2.out, fun j hj => ?_⟩
            by_cases e : j = k
            · subst e; rw [← HS.out]; exact of_decide_eq_true HF.out
            · exact AL.out j (by omega)
          case measure => simp [intOf]; omega
      · have hkn' : k = l.length := by omega
        subst hkn'
        go_wp2_with fail
        go_ret
        exact ⟨ret_bool (decide_eq_true ⟨hl, AL.out⟩), OO.out⟩
  · have R : Hid (fitT l = false) := fitT_len hl
    go_enter Try.func19, Try.ntmps19
    go_wp2_with fail
    go_ret
    exact ⟨ret_bool R.out, Old.refl _⟩
end Go.Proofs.Ytbkdppfjmfepiaa
