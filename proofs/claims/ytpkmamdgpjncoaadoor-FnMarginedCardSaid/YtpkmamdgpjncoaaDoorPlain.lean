/- spec.Plain, spec.Lined, laws.plain16, laws.some16; padding.String, impl.Padded. -/
import Derived.Test.YtpkmamdgpjncoaaDoorPadY
namespace Go.Proofs.YtpkmamdgpjncoaaDoor
open Go.RowKit
set_option linter.unusedVariables false
set_option linter.unusedSimpArgs false
set_option linter.unnecessarySimpa false
set_option maxRecDepth 100000

instance (c : UInt8) : Decidable (plnC c) := by unfold plnC; infer_instance
def plain (s : ByteArray) : Prop := ∀ k (h : k < s.size), plnC s[k]
instance (s : ByteArray) : Decidable (plain s) := by unfold plain; infer_instance
def lined (s : ByteArray) : Prop := ∀ k (h : k < s.size), s[k] ≠ 10
instance (s : ByteArray) : Decidable (lined s) := by unfold lined; infer_instance
def plB (s : ByteArray) : Bool := decide (plain s)
def lnB (s : ByteArray) : Bool := decide (lined s)
def p16B (s : ByteArray) : Bool := decide (s.size ≤ 2000 ∧ plain s)
def s16B (s : ByteArray) : Bool := decide (s.size ≤ 800 ∧ plain s)
theorem plB_no {s : ByteArray} (k : Nat) (h : k < s.size) (hc : ¬ plnC s[k]) : plB s = false := decide_eq_false (fun hh => hc (hh k h))
theorem plB_yes {s : ByteArray} (h : plain s) : plB s = true := decide_eq_true h
theorem lnB_no {s : ByteArray} (k : Nat) (h : k < s.size) (hc : s[k] = 10) : lnB s = false := decide_eq_false (fun hh => hh k h hc)
theorem lnB_yes {s : ByteArray} (h : lined s) : lnB s = true := decide_eq_true h
theorem plain_pln {s : ByteArray} (h : plain s) : pln s.data.toList := fun c hc => by
  obtain ⟨i, hi, e⟩ := List.getElem_of_mem hc
  have := h i (by simpa using hi)
  rw [← e]; exact this
theorem tenB (c : UInt8) : (((c.toNat : Nat) : Int) == 10) = decide (c = 10) := by
  by_cases h : c = 10
  · subst h; rfl
  · rw [decide_eq_false h, beq_eq_false_iff_ne]
    intro e
    apply h
    have : c.toNat = (10 : UInt8).toNat := by have : (c.toNat : Int) = ((10 : Nat) : Int) := e; exact_mod_cast this
    exact UInt8.toNat_inj.1 this
theorem ten10 {c : UInt8} (h : ((c.toNat : Nat) : Int) = 10) : c = 10 := by have := tenB c; rw [h] at this; exact of_decide_eq_true this.symm
theorem not10 {c : UInt8} (h : ¬ ((c.toNat : Nat) : Int) = 10) : c ≠ 10 := by rintro rfl; exact h rfl
theorem pln10 {c : UInt8} (h : ((c.toNat : Nat) : Int) = 10) : plnC c := .inl (ten10 h)
theorem plnR {c : UInt8} (h1 : (32 : Int) ≤ (c.toNat : Nat)) (h2 : ((c.toNat : Nat) : Int) ≤ 126) : plnC c := .inr ⟨by omega, by omega⟩
theorem plnNo {c : UInt8} (h1 : ¬ ((c.toNat : Nat) : Int) = 10) (h2 : ((c.toNat : Nat) : Int) < 32 ∨ (126 : Int) < (c.toNat : Nat)) : ¬ plnC c := by
  rintro (e | e)
  · exact not10 h1 e
  · omega
theorem pl_any (s : ByteArray) (w : World) (hs : s.size ≤ 140737488351232) : Calls Tryd.prog 43 #[.string s] w fun e w' => e = .returned (.bool (plB s)) ∧ w = w' := by
  go_enter Tryd.func43, Tryd.ntmps43
  go_wp2
  go_loop [3] (fun i => ∃ k : Nat, k ≤ s.size ∧ i = .int .i64 k ∧ ∀ j (h : j < s.size), j < k → plnC s[j]) (fun i => s.size - (intOf i).toNat)
  case atStart => exact ⟨0, Nat.zero_le _, rfl, fun _ _ h => absurd h (by omega)⟩
  case round =>
    obtain ⟨k, hk, rfl, hall⟩ := hrel
    have Hall := Lib.hid hall
    clear hall
    by_cases hlt : k < s.size
    · go_wp2
      · rename_i h1
        exact ⟨⟨k + 1, by omega, by go_num, fun j hj hjk => by
          by_cases e : j = k
          · subst e; exact pln10 h1
          · exact Hall.out j hj (by omega)⟩, by simp [intOf]; omega⟩
      · rename_i h1 h2 h3 _
        go_ret
        exact ⟨ret_bool (plB_no k hlt (plnNo h1 (by omega))), rfl⟩
      · rename_i h1 h2 h3
        exact ⟨⟨k + 1, by omega, by go_num, fun j hj hjk => by
          by_cases e : j = k
          · subst e
            rcases h3 with h3 | h3
            · exact absurd (by simpa using h3) h1
            · exact plnR h3.1 h3.2
          · exact Hall.out j hj (by omega)⟩, by simp [intOf]; omega⟩
      · rename_i h1 h2 _ h3
        go_ret
        exact ⟨ret_bool (plB_no k hlt (plnNo h1 (.inl h3))), rfl⟩
    · go_wp2
      go_ret
      exact ⟨ret_bool (plB_yes (fun j hj => Hall.out j hj (by omega))), rfl⟩
theorem ln_any16 (s : ByteArray) (w : World) (hs : s.size ≤ 140737488351232) : Calls Tryd.prog 9 #[.string s] w fun e w' => e = .returned (.bool (lnB s)) ∧ w = w' := by
  go_enter Tryd.func9, Tryd.ntmps9
  go_wp2
  go_loop [3] (fun i => ∃ k : Nat, k ≤ s.size ∧ i = .int .i64 k ∧ ∀ j (h : j < s.size), j < k → s[j] ≠ 10) (fun i => s.size - (intOf i).toNat)
  case atStart => exact ⟨0, Nat.zero_le _, rfl, fun _ _ h => absurd h (by omega)⟩
  case round =>
    obtain ⟨k, hk, rfl, hall⟩ := hrel
    have Hall := Lib.hid hall
    clear hall
    by_cases hlt : k < s.size
    · go_wp2
      · rename_i h1 _
        go_ret
        exact ⟨ret_bool (lnB_no k hlt (ten10 (by simpa using h1))), rfl⟩
      · rename_i h1
        exact ⟨⟨k + 1, by omega, by go_num, fun j hj hjk => by
          by_cases e : j = k
          · subst e; exact not10 (by simpa using h1)
          · exact Hall.out j hj (by omega)⟩, by simp [intOf]; omega⟩
    · go_wp2
      go_ret
      exact ⟨ret_bool (lnB_yes (fun j hj => Hall.out j hj (by omega))), rfl⟩
theorem p16_any (s : ByteArray) (w : World) (hs : s.size ≤ 2147483647) : Calls Tryd.prog 18 #[.string s] w fun e w' => e = .returned (.bool (p16B s)) ∧ w = w' := by
  by_cases h : s.size ≤ 2000
  · have hd : decide ((s.size : Int) ≤ 2000) = true := by simp; omega
    have e : p16B s = plB s := by unfold p16B plB; simp [h]
    rw [e]
    go_enter Tryd.func18, Tryd.ntmps18
    go_wp2_with (go_at_call 43; refine (pl_any s w (by omega)).mono ?_; rintro e w1 ⟨rfl, rfl⟩)
    go_ret
    exact ⟨rfl, rfl⟩
  · have hd : decide ((s.size : Int) ≤ 2000) = false := by simp; omega
    have e : p16B s = false := by unfold p16B; simp [h]
    rw [e]
    go_enter Tryd.func18, Tryd.ntmps18
    go_wp2_with fail
    go_ret
    exact ⟨rfl, rfl⟩
theorem s16_any (s : ByteArray) (w : World) (hs : s.size ≤ 2147483647) : Calls Tryd.prog 8 #[.string s] w fun e w' => e = .returned (.bool (s16B s)) ∧ w = w' := by
  by_cases h : s.size ≤ 800
  · have hd : decide ((s.size : Int) ≤ 800) = true := by simp; omega
    have e : s16B s = p16B s := by
      unfold s16B p16B
      have : s.size ≤ 2000 := by omega
      simp [h, this]
    rw [e]
    go_enter Tryd.func8, Tryd.ntmps8
    go_wp2_with (go_at_call 18; refine (p16_any s w (by omega)).mono ?_; rintro e w1 ⟨rfl, rfl⟩)
    go_ret
    exact ⟨rfl, rfl⟩
  · have hd : decide ((s.size : Int) ≤ 800) = false := by simp; omega
    have e : s16B s = false := by unfold s16B; simp [h]
    rw [e]
    go_enter Tryd.func8, Tryd.ntmps8
    go_wp2_with fail
    go_ret
    exact ⟨rfl, rfl⟩
theorem pst_any (width : Nat) (d : List UInt8) (w : World) (ok : padOk width d) : Calls Tryd.prog 45 #[.string ⟨d.toArray⟩, .int .u64 width] w fun e w' => e = .returned (.string ⟨(padM width d).toArray⟩) ∧ Old w w' := by
  have OK := Lib.hid ok
  obtain ⟨cc, w1, hcv, o1, hback⟩ := conv_text w d (by have := ok.2.1; omega)
  have O1 := Lib.hid o1
  have RD : Hid (Reads w1 (.slice (some ⟨w.heap.size, 0, none⟩) d.length cc) d) := ⟨⟨_, _, rfl⟩, hback⟩
  clear o1 hback ok
  go_enter Tryd.func45, Tryd.ntmps45
  go_wp2_with (go_at_call 65
               refine (pby_any width d _ _ cc w1 rfl RD.out OK.out).mono ?_
               rintro e w2 ⟨sv, rfl, o2, r2⟩
               have hcv2 := r2.2 w2 (Old.refl _)
               have O2 := Lib.hid (O1.out.trans o2)
               clear o2 r2)
  go_ret
  exact ⟨rfl, O2.out⟩
theorem ipd_any (width : Nat) (d : List UInt8) (w : World) (ok : padOk width d) : Calls Tryd.prog 21 #[.string ⟨d.toArray⟩, .int .u64 width] w fun e w' => e = .returned (.string ⟨(padM width d).toArray⟩) ∧ Old w w' := by
  go_enter Tryd.func21, Tryd.ntmps21
  go_wp2_with (go_at_call 45; refine (pst_any width d w ok).mono ?_; rintro e w1 ⟨rfl, o1⟩)
  go_ret
  exact ⟨rfl, o1⟩
end Go.Proofs.YtpkmamdgpjncoaaDoor
