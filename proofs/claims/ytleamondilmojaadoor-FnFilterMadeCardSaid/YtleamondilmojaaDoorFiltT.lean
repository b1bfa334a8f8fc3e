/- goprompt.FilterHasPrefix, FilterHasSuffix, FilterContains, FilterFuzzy of one suggestion that passes. -/
import Derived.Test.YtleamondilmojaaDoorFiltS
namespace Go.Proofs.YtleamondilmojaaDoor
open Go.RowKit
set_option linter.unusedVariables false
set_option linter.unusedSimpArgs false
set_option linter.unnecessarySimpa false
set_option maxRecDepth 100000

theorem fil_all (F : FuncId) (hk : ∀ (args : Array Value) (W : World), (callFunc F args).run Tryd.prog W = .ok (.enter F args) W) (v : Value) (s p : Bs) (d : ByteArray) (ic : Bool) (w : World) (h : Two w v s d) (oks : okT s) (okp : okT p)
    (hF : ∀ w', Calls Tryd.prog F #[.string (tx (upIf ic s)), .string (tx (upIf ic p))] w' fun e w2 => e = .returned (.bool true) ∧ Old w' w2) :
    Calls Tryd.prog 53 #[v, .string (tx p), .bool ic, .func (.func F) #[] #[]] w fun e w' => ∃ v', e = .returned v' ∧ Old w w' ∧ Two w' v' s d := by
  cases p with
  | nil =>
    refine (fil_empty _ v s d ic w h).mono ?_
    rintro e w' ⟨rfl, o⟩
    exact ⟨v, rfl, o, h.old o⟩
  | cons x l =>
    cases ic with
    | false => exact fil_any F hk v s (x :: l) d w h oks okp (by simp) hF
    | true => exact filU_any F hk v s (x :: l) d w h oks okp (by simp) hF

theorem hpw_any (p a : Bs) (w : World) (hp : p.length ≤ 100000) (ha : a.length ≤ 100000) : Calls Tryd.prog 54 #[.string (tx (p ++ a)), .string (tx p)] w fun e w' => e = .returned (.bool true) ∧ Old w w' := by
  have H := hp_any p a w hp ha
  generalize tx (p ++ a) = s at H ⊢
  generalize tx p = t at H ⊢
  go_enter Tryd.func54, Tryd.ntmps54
  go_wp2_with (go_at_call 77; refine H.mono ?_; rintro e w1 ⟨rfl, o1⟩)
  go_ret
  exact ⟨rfl, o1⟩
theorem hsw_any (a p : Bs) (w : World) (hp : p.length ≤ 100000) (ha : a.length ≤ 100000) : Calls Tryd.prog 55 #[.string (tx (a ++ p)), .string (tx p)] w fun e w' => e = .returned (.bool true) ∧ Old w w' := by
  have H := hs_any a p w hp ha
  generalize tx (a ++ p) = s at H ⊢
  generalize tx p = t at H ⊢
  go_enter Tryd.func55, Tryd.ntmps55
  go_wp2_with (go_at_call 78; refine H.mono ?_; rintro e w1 ⟨rfl, o1⟩)
  go_ret
  exact ⟨rfl, o1⟩

theorem upIf_app (ic : Bool) (a b : Bs) : upIf ic (a ++ b) = upIf ic a ++ upIf ic b := by cases ic <;> simp [upIf, upB_app]
theorem upIf_len (ic : Bool) (a : Bs) : (upIf ic a).length = a.length := by cases ic <;> simp [upIf, upB_len]
theorem upIf_ok (ic : Bool) {a : Bs} (h : okT a) : okT (upIf ic a) := by cases ic <;> simp only [upIf] <;> first | exact h | exact upB_asc h
theorem upIf_sub (ic : Bool) {a b : Bs} (h : a.Sublist b) : (upIf ic a).Sublist (upIf ic b) := by
  cases ic
  · exact h
  · exact h.map _
/-- The text s is made of the part p in the way k. -/
def Made (k : Nat) (s p : Bs) : Prop :=
  (k = 1 ∧ ∃ a, s = p ++ a) ∨ (k = 2 ∧ ∃ a, s = a ++ p) ∨ (k = 3 ∧ ∃ a b, s = a ++ p ++ b) ∨ (k = 4 ∧ p.Sublist s)
theorem made1 {s p : Bs} (h : Made 1 s p) : ∃ a, s = p ++ a := by
  rcases h with ⟨h, h1⟩ | ⟨h, h1⟩ | ⟨h, h1⟩ | ⟨h, h1⟩
  all_goals first | exact h1 | (exact absurd h (by decide))
theorem flt1_any (v : Value) (s p : Bs) (d : ByteArray) (ic : Bool) (w : World) (h : Two w v s d) (oks : okT s) (okp : okT p) (hl : s.length ≤ 100000) (hm : Made 1 s p) :
    Calls Tryd.prog 28 #[v, .string (tx p), .bool ic] w fun e w' => ∃ v', e = .returned v' ∧ Old w w' ∧ Two w' v' s d := by
  have H := fil_all 54 (fun _ _ => rfl) v s p d ic w h oks okp (fun w2 => by
    obtain ⟨a, rfl⟩ := made1 hm
    rw [upIf_app]; exact hpw_any _ _ w2 (by rw [upIf_len]; simp at hl; omega) (by rw [upIf_len]; simp at hl; omega))
  obtain ⟨vb, vc, rfl, -⟩ := h
  have HH := Lib.hid H
  clear H oks okp hm hl
  generalize tx p = t at HH ⊢
  go_enter Tryd.func28, Tryd.ntmps28
  go_wp2_with (go_at_call 53; refine HH.out.mono ?_; rintro e w1 ⟨v', rfl, o1, t1⟩; have O1 := Lib.hid o1; have T1 := Lib.hid t1; clear o1 t1)
  go_ret
  exact ⟨_, rfl, O1.out, T1.out⟩
theorem made2 {s p : Bs} (h : Made 2 s p) : ∃ a, s = a ++ p := by
  rcases h with ⟨h, h1⟩ | ⟨h, h1⟩ | ⟨h, h1⟩ | ⟨h, h1⟩
  all_goals first | exact h1 | (exact absurd h (by decide))
theorem flt2_any (v : Value) (s p : Bs) (d : ByteArray) (ic : Bool) (w : World) (h : Two w v s d) (oks : okT s) (okp : okT p) (hl : s.length ≤ 100000) (hm : Made 2 s p) :
    Calls Tryd.prog 29 #[v, .string (tx p), .bool ic] w fun e w' => ∃ v', e = .returned v' ∧ Old w w' ∧ Two w' v' s d := by
  have H := fil_all 55 (fun _ _ => rfl) v s p d ic w h oks okp (fun w2 => by
    obtain ⟨a, rfl⟩ := made2 hm
    rw [upIf_app]; exact hsw_any _ _ w2 (by rw [upIf_len]; simp at hl; omega) (by rw [upIf_len]; simp at hl; omega))
  obtain ⟨vb, vc, rfl, -⟩ := h
  have HH := Lib.hid H
  clear H oks okp hm hl
  generalize tx p = t at HH ⊢
  go_enter Tryd.func29, Tryd.ntmps29
  go_wp2_with (go_at_call 53; refine HH.out.mono ?_; rintro e w1 ⟨v', rfl, o1, t1⟩; have O1 := Lib.hid o1; have T1 := Lib.hid t1; clear o1 t1)
  go_ret
  exact ⟨_, rfl, O1.out, T1.out⟩
theorem made3 {s p : Bs} (h : Made 3 s p) : ∃ a b, s = a ++ p ++ b := by
  rcases h with ⟨h, h1⟩ | ⟨h, h1⟩ | ⟨h, h1⟩ | ⟨h, h1⟩
  all_goals first | exact h1 | (exact absurd h (by decide))
theorem flt3_any (v : Value) (s p : Bs) (d : ByteArray) (ic : Bool) (w : World) (h : Two w v s d) (oks : okT s) (okp : okT p) (hl : s.length ≤ 100000) (hm : Made 3 s p) :
    Calls Tryd.prog 30 #[v, .string (tx p), .bool ic] w fun e w' => ∃ v', e = .returned v' ∧ Old w w' ∧ Two w' v' s d := by
  have H := fil_all 56 (fun _ _ => rfl) v s p d ic w h oks okp (fun w2 => by
    obtain ⟨a, b, rfl⟩ := made3 hm
    rw [upIf_app, upIf_app]; exact con_any _ _ _ w2 (by rw [upIf_len]; simp at hl; omega) (by rw [upIf_len]; simp at hl; omega) (by rw [upIf_len]; simp at hl; omega))
  obtain ⟨vb, vc, rfl, -⟩ := h
  have HH := Lib.hid H
  clear H oks okp hm hl
  generalize tx p = t at HH ⊢
  go_enter Tryd.func30, Tryd.ntmps30
  go_wp2_with (go_at_call 53; refine HH.out.mono ?_; rintro e w1 ⟨v', rfl, o1, t1⟩; have O1 := Lib.hid o1; have T1 := Lib.hid t1; clear o1 t1)
  go_ret
  exact ⟨_, rfl, O1.out, T1.out⟩
theorem made4 {s p : Bs} (h : Made 4 s p) : p.Sublist s := by
  rcases h with ⟨h, h1⟩ | ⟨h, h1⟩ | ⟨h, h1⟩ | ⟨h, h1⟩
  all_goals first | exact h1 | (exact absurd h (by decide))
theorem flt4_any (v : Value) (s p : Bs) (d : ByteArray) (ic : Bool) (w : World) (h : Two w v s d) (oks : okT s) (okp : okT p) (hl : s.length ≤ 100000) (hm : Made 4 s p) :
    Calls Tryd.prog 31 #[v, .string (tx p), .bool ic] w fun e w' => ∃ v', e = .returned v' ∧ Old w w' ∧ Two w' v' s d := by
  have H := fil_all 57 (fun _ _ => rfl) v s p d ic w h oks okp (fun w2 => by
    obtain hsub := made4 hm
    exact fuz_any _ _ w2 (upIf_sub ic hsub) (upIf_ok ic oks) (upIf_ok ic okp))
  obtain ⟨vb, vc, rfl, -⟩ := h
  have HH := Lib.hid H
  clear H oks okp hm hl
  generalize tx p = t at HH ⊢
  go_enter Tryd.func31, Tryd.ntmps31
  go_wp2_with (go_at_call 53; refine HH.out.mono ?_; rintro e w1 ⟨v', rfl, o1, t1⟩; have O1 := Lib.hid o1; have T1 := Lib.hid t1; clear o1 t1)
  go_ret
  exact ⟨_, rfl, O1.out, T1.out⟩
end Go.Proofs.YtleamondilmojaaDoor
