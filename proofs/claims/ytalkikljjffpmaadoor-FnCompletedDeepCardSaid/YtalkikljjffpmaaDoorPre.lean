/- Runes.HasPrefix. -/
import Derived.Test.YtalkikljjffpmaaDoorFold
import Derived.StillTailTactics
namespace Go.Proofs.YtalkikljjffpmaaDoor
open Go.RowKit
set_option linter.unusedVariables false
set_option linter.unusedSimpArgs false
set_option linter.unnecessarySimpa false
set_option maxRecDepth 100000

/-- l begins with p. -/
def preB (l p : List Int) : Bool := decide (p.length ≤ l.length ∧ l.take p.length = p)
theorem RunesAt.cut {w : World} {b o n c : Nat} {l : List Int} {k : Nat} (h : RunesAt w (.slice (some ⟨b, o, none⟩) n c) l) (hk : k ≤ l.length) : RunesAt w (.slice (some ⟨b, o, none⟩) k c) (l.take k) := by
  obtain ⟨b', o', c', e, h1, h2, h3, h4⟩ := h
  injection e with e1 e2 e3; injection e1 with e1; injection e1 with e1 e4; subst e1 e4 e2 e3
  have hl : (l.take k).length = k := by simp; omega
  refine ⟨b, o, c, by rw [hl], by omega, h2, h3, fun j hj => ?_⟩
  rw [hl] at hj
  rw [h4 j (by omega), gi_take hj]
theorem pre_any (v u : Value) (l p : List Int) (w : World) (h : RunesAt w v l) (k : RunesAt w u p) (hl : l.length ≤ 1000000) (hp : p.length ≤ 1000000) :
    Calls Tryd.prog 84 #[.agg #[], v, u] w fun e w' => e = .returned (.bool (preB l p)) ∧ Old w w' := by
  have H := Lib.hid h
  have K := Lib.hid k
  obtain ⟨b, o, c, rfl, h1, h2, h3, h4⟩ := h
  obtain ⟨b', o', c', rfl, k1, k2, k3, k4⟩ := k
  unfold maxLen at h2 k2
  by_cases hlt : l.length < p.length
  · have R : Hid (preB l p = false) := decide_eq_false fun e => by omega
    go_enter Tryd.func84, Tryd.ntmps84
    go_wp2_with fail
    go_ret
    exact ⟨ret_bool R.out, Old.alloc _ _⟩
  · go_enter Tryd.func84, Tryd.ntmps84
    go_wp2_with fail
    have i0 : (p.length : Int) ≤ c := by omega
    have i1 : (p.length : Int) ≤ l.length := by omega
    have HC : Hid (RunesAt (w.alloc (.cells #[] 124)).drew (.slice (some ⟨b, o, none⟩) p.length c) (l.take p.length)) := (H.out.later ((Old.alloc w _).then_drew)).cut (by omega)
    have KC : Hid (RunesAt (w.alloc (.cells #[] 124)).drew (.slice (some ⟨b', o', none⟩) p.length c') p) := K.out.later ((Old.alloc w _).then_drew)
    have OW : Hid (Old w (w.alloc (.cells #[] 124)).drew) := (Old.alloc w _).then_drew
    have R : Hid (decide (l.take p.length = p) = preB l p) := by
      unfold Hid preB
      exact decide_eq_decide.2 ⟨fun e => ⟨by omega, e⟩, fun e => e.2⟩
    generalize w.alloc (.cells #[] 124) = wa at HC KC OW ⊢
    go_still_tail 6, (by kernel_rfl)
    change wpList _ _ _ _ _ wa.drew
    generalize wa.drew = w2 at HC KC OW ⊢
    go_wp2_with (go_at_call 116; refine (equal_any _ _ _ _ w2 HC.out KC.out).mono ?_; rw [R.out]; rintro e w3 ⟨rfl, o3⟩; have O3 := Lib.hid (OW.out.trans o3); clear o3)
    go_ret
    exact ⟨rfl, O3.out⟩
end Go.Proofs.YtalkikljjffpmaaDoor
