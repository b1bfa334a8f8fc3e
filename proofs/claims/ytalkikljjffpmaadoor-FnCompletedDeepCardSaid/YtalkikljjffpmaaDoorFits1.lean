/- laws.zzFits1: no text of a list is longer than zzMost. -/
import Derived.Test.YtalkikljjffpmaaDoorProg
import Derived.Test.YtalkikljjffpmaaDoorArgs
namespace Go.Proofs.YtalkikljjffpmaaDoor
open Go.RowKit
set_option linter.unusedVariables false
set_option linter.unusedSimpArgs false
set_option linter.unnecessarySimpa false
set_option maxRecDepth 100000

def fitS (l : List ByteArray) : Bool := decide (l.length ≤ 2147483647 ∧ ∀ j, j < l.length → (gs l j).size ≤ 2147483647)
theorem fitS_len {l : List ByteArray} (h : ¬ l.length ≤ 2147483647) : fitS l = false := decide_eq_false fun k => h k.1
theorem fitS_at {l : List ByteArray} {j : Nat} (hj : j < l.length) (h : ¬ (gs l j).size ≤ 2147483647) : fitS l = false := decide_eq_false fun k => h (k.2 j hj)
theorem Strs.cell {w : World} {ad : Option Addr} {n c : Nat} {l : List ByteArray} (h : Strs w (.slice ad n c) l) (j : Nat) (hj : j < l.length) : ∃ b o, ad = some ⟨b, o, none⟩ ∧ w.cell? ⟨b, o + j, none⟩ = some (.string (gs l j)) := by
  obtain ⟨ad', c', e, h2, h3, h4, h5⟩ := h
  injection e with e1 e2 e3
  subst e1
  exact h4 j hj
theorem Strs.sized {w : World} {v : Value} {l : List ByteArray} (h : Strs w v l) (j : Nat) (hj : j < l.length) : (gs l j).size ≤ maxLen := by
  obtain ⟨ad', c', e, h2, h3, h4, h5⟩ := h
  rw [gs_lt hj]; exact h5 _ (List.getElem_mem hj)
theorem fits1_any (v : Value) (l : List ByteArray) (w : World) (h : Strs w v l) : Calls Tryd.prog 7 #[v] w fun e w' => e = .returned (.bool (fitS l)) ∧ Old w w' := by
  have HT := Lib.hid h
  obtain ⟨ad, c, rfl, h2, h3, h4, h5⟩ := h
  clear h4 h5
  unfold maxLen at h3
  by_cases hl : l.length ≤ 2147483647
  · go_enter Tryd.func7, Tryd.ntmps7
    go_wp2_with fail
    go_loopw [10] (fun i wr => ∃ k : Nat, k ≤ l.length ∧ i = .int .i64 k ∧ Old w wr ∧ ∀ j, j < k → (gs l j).size ≤ 2147483647) (fun i _ => l.length - (intOf i).toNat)
    case atStart => exact ⟨0, Nat.zero_le _, rfl, Old.refl _, fun j hj => absurd hj (by omega)⟩
    case round =>
      obtain ⟨k, hk, rfl, ho, hall⟩ := hrel
      have OO := Lib.hid ho
      have AL := Lib.hid hall
      clear ho hall
      by_cases hlt : k < l.length
      · obtain ⟨b, o, rfl, c1⟩ := (HT.out.old OO.out).cell k hlt
        have hsz := HT.out.sized k hlt
        unfold maxLen at hsz
        have i0 : (0 : Int) ≤ k := by omega
        have i1 : (k : Int) < l.length := by omega
        by_cases hf : (gs l k).size ≤ 2147483647
        · go_wp2_with fail
          go_roundw
          case rel =>
            refine ⟨k + 1, by omega, by go_num, OO.out, fun j hj => ?_⟩
            by_cases e : j = k
            · subst e; exact hf
            · exact AL.out j (by omega)
          case measure => simp [intOf]; omega
        · go_wp2_with fail
          go_ret
          exact ⟨ret_bool (fitS_at hlt hf), OO.out⟩
      · have hkn' : k = l.length := by omega
        subst hkn'
        go_wp2_with fail
        go_ret
        exact ⟨ret_bool (decide_eq_true ⟨hl, AL.out⟩), OO.out⟩
  · have R : Hid (fitS l = false) := fitS_len hl
    go_enter Tryd.func7, Tryd.ntmps7
    go_wp2_with fail
    go_ret
    exact ⟨ret_bool R.out, Old.refl _⟩
end Go.Proofs.YtalkikljjffpmaaDoor
