/- spec.Editor.cutWord. -/
import Derived.Test.YtlfmmmbafkelhaaDoorDoes
import Derived.Test.YtlfmmmbafkelhaaDoorWords
namespace Go.Proofs.YtlfmmmbafkelhaaDoor
open Go.RowKit
set_option linter.unusedVariables false
set_option linter.unusedSimpArgs false
set_option maxRecDepth 100000

theorem ED.cell0 {w : World} {E a : Nat} {l : List Int} {kv : Value} (h : ED w E l a kv) : ∃ lb c, w.cell? ⟨E, 0, none⟩ = some (.slice (some ⟨lb, 0, none⟩) l.length c) ∧ w.cell? ⟨E, 1, none⟩ = some (.int .i64 a) ∧ ∀ j, j < l.length → w.cell? ⟨lb, j, none⟩ = some (.int .i32 (gi l j)) := by
  obtain ⟨lb, c, h1, h2, h3⟩ := h
  exact ⟨lb, c, cell_of_heap h1 0, cell_of_heap h1 1, fun j hj => h2.cell j hj⟩

set_option maxHeartbeats 1000000 in
theorem beg_any (E a k : Nat) (l : List Int) (kv : Value) (w : World) (h : ED w E l a kv) (hk : 0 < k) (hk2 : k < l.length) (hl : l.length ≤ 1000) :
    Calls Tryd.prog 55 #[.pointer (some ⟨E, 0, none⟩), .int .i64 k] w fun e w' => e = .returned (.bool (bg l k)) ∧ w' = w := by
  obtain ⟨lb, c, c0, c1, cs⟩ := h.cell0
  have k0 := cs k hk2
  have k1 := cs (k - 1) (by omega)
  obtain ⟨m, rfl⟩ : ∃ m, k = m + 1 := ⟨k - 1, by omega⟩
  rw [Nat.add_sub_cancel] at k1
  have d1 : decide ((0 : Int) < ((m + 1 : Nat) : Int)) = true := by rw [decide_eq_true_eq]; omega
  have d2 : decide (((m + 1 : Nat) : Int) < (l.length : Int)) = true := by rw [decide_eq_true_eq]; omega
  have i1 : ((m + 1 : Nat) : Int) < (l.length : Int) := by omega
  have i2 : (m : Int) < (l.length : Int) := by omega
  have i3 : m < l.length := by omega
  have i4 : m + 1 < l.length := hk2
  have e1 : IntKind.i64.wrap (((m + 1 : Nat) : Int) - 1) = (m : Int) := by rw [show ((m + 1 : Nat) : Int) - 1 = (m : Int) by omega]; exact IntWalk.i64_in _ (by omega)
  have d1' : decide ((0 : Int) < (m : Int) + 1) = true := d1
  have d2' : decide ((m : Int) + 1 < (l.length : Int)) = true := d2
  have i1' : (m : Int) + 1 < (l.length : Int) := i1
  have i0' : (0 : Int) ≤ (m : Int) + 1 := by omega
  have e2 : IntKind.i64.wrap (m : Int) = (m : Int) := IntWalk.i64_in _ (by omega)
  have e3 : ((m : Int) + 1).toNat = m + 1 := by omega
  clear h cs
  cases h1 : ws (gi l (m + 1))
  · have W1 := Lib.hid h1
    clear h1
    go_enter Tryd.func55, Tryd.ntmps55
    go_wp2_with (go_at_call 82; refine (sgn_any _ _).mono ?_; rintro e w1 ⟨rfl, rfl⟩; rw [W1.out])
    go_ret
    exact ⟨ret_bool_eq (by rw [bg_no (.inl W1.out)]), rfl⟩
  · have W1 := Lib.hid h1
    clear h1
    cases h2 : ws (gi l m)
    all_goals
      have W2 := Lib.hid h2
      have M1 := W1
      clear h2
      go_enter Tryd.func55, Tryd.ntmps55
      go_wp2_with (first
        | (go_at_call 82; have hq := M1.out; clear hq; refine (sgn_any (gi l (m + 1)) _).mono ?_; rintro e w1 ⟨rfl, rfl⟩; rw [W1.out]; clear M1)
        | (go_at_call 82; refine (sgn_any (gi l m) _).mono ?_; rintro e w1 ⟨rfl, rfl⟩; rw [W2.out]))
      go_ret
    · exact ⟨ret_bool_eq (by rw [bg_of (Nat.succ_pos m) i4 W1.out (show ws (gi l m) = false from W2.out)]), rfl⟩
    · exact ⟨ret_bool_eq (by rw [bg_no (.inr (show ws (gi l m) = true from W2.out))]), rfl⟩

/-- What Editor.after tells. -/
def aftV (l : List Int) (f : Nat) : Int := if find l (f + 1) < l.length then (find l (f + 1) : Int) else -1
set_option maxHeartbeats 1000000 in
theorem aft_any (E a f : Nat) (l : List Int) (kv : Value) (w : World) (h : ED w E l a kv) (hf : f ≤ l.length) (hl : l.length ≤ 1000) :
    Calls Tryd.prog 38 #[.pointer (some ⟨E, 0, none⟩), .int .i64 f] w fun e w' => e = .returned (.int .i64 (aftV l f)) ∧ w' = w := by
  have H := Lib.hid h
  obtain ⟨lb, c, c0, c1, cs⟩ := h.cell0
  have e0 : IntKind.i64.wrap ((f : Int) + 1) = (f : Int) + 1 := IntWalk.i64_in _ (by omega)
  clear h cs c1
  go_enter Tryd.func38, Tryd.ntmps38
  go_wp2_with fail
  go_loopw [5] (fun v wr => ∃ i : Nat, f + 1 ≤ i ∧ i ≤ l.length + 1 ∧ v = .int .i64 i ∧ find l i = find l (f + 1) ∧ wr = w) (fun v _ => l.length + 1 - (intOf v).toNat)
  case atStart => exact ⟨f + 1, Nat.le_refl _, by omega, rfl, rfl, rfl⟩
  case round =>
    obtain ⟨i, h1, h2, rfl, hfi, rfl⟩ := hrel
    have HF := Lib.hid hfi
    clear hfi
    by_cases hi : i < l.length
    · have d1 : decide ((i : Int) < (l.length : Int)) = true := by rw [decide_eq_true_eq]; omega
      have e1 : IntKind.i64.wrap ((i : Int) + 1) = (i : Int) + 1 := IntWalk.i64_in _ (by omega)
      cases hb : bg l i
      · have HB := Lib.hid hb
        clear hb
        go_wp2_with (go_at_call 55; refine (beg_any E a i l kv _ H.out (by omega) hi hl).mono ?_; rintro e w1 ⟨rfl, rfl⟩; rw [HB.out])
        go_roundw
        case rel => exact ⟨i + 1, by omega, by omega, by go_num, by rw [← find_step hi HB.out]; exact HF.out, by first | rfl | trivial⟩
        case measure => simp [intOf]; omega
      · have HB := Lib.hid hb
        clear hb
        go_wp2_with (go_at_call 55; refine (beg_any E a i l kv _ H.out (by omega) hi hl).mono ?_; rintro e w1 ⟨rfl, rfl⟩; rw [HB.out])
        go_ret
        have hv : aftV l f = (i : Int) := by
          unfold aftV
          rw [← HF.out, find_stop hi HB.out, if_pos hi]
        exact ⟨ret_int hv, rfl⟩
    · have d1 : decide ((i : Int) < (l.length : Int)) = false := by rw [decide_eq_false_iff_not]; omega
      go_wp2_with fail
      go_ret
      have hv : aftV l f = -1 := by
        unfold aftV
        rw [← HF.out, find_end (by omega), if_neg (Nat.lt_irrefl _)]
      exact ⟨ret_int hv, rfl⟩

set_option maxHeartbeats 1000000 in
theorem cutw_pos (E a : Nat) (l : List Int) (kv : Value) (w : World) (h : ED w E l a kv) (ha : a < l.length) (hl : l.length ≤ 1000) :
    Calls Tryd.prog 57 #[.pointer (some ⟨E, 0, none⟩)] w fun e w' => e = .returned (.tuple #[]) ∧ ∃ kv', ED w' E (l.take a ++ l.drop (cutTo l a)) a kv' ∧ Mod E E w w' := by
  have H := Lib.hid h
  obtain ⟨lb, c, c0, c1, cs⟩ := h.cell0
  have CS := Lib.hid cs
  have d0 : ((a : Int) == (l.length : Int)) = false := by simp; omega
  clear h cs
  go_enter Tryd.func57, Tryd.ntmps57
  go_wp2_with fail
  go_loopw [3] (fun v wr => ∃ i : Nat, a ≤ i ∧ i ≤ l.length ∧ v = .int .i64 i ∧ skip l i = skip l a ∧ wr = w) (fun v _ => l.length - (intOf v).toNat)
  case atStart => exact ⟨a, Nat.le_refl _, by omega, rfl, rfl, rfl⟩
  case round =>
    obtain ⟨i, h1, h2, rfl, hsk, rfl⟩ := hrel
    have HS := Lib.hid hsk
    clear hsk
    by_cases hgo : i < l.length ∧ ws (gi l i) = false
    · obtain ⟨hi, hw⟩ := hgo
      have W1 := Lib.hid hw
      have k0 := CS.out i hi
      have d1 : decide ((i : Int) < (l.length : Int)) = true := by rw [decide_eq_true_eq]; omega
      have i1 : (i : Int) < (l.length : Int) := by omega
      have e1 : IntKind.i64.wrap ((i : Int) + 1) = (i : Int) + 1 := IntWalk.i64_in _ (by omega)
      clear hw
      go_wp2_with (go_at_call 82; refine (sgn_any _ _).mono ?_; rintro e w1 ⟨rfl, rfl⟩; rw [W1.out])
      go_roundw
      case rel => exact ⟨i + 1, by omega, by omega, by go_num, by rw [← skip_step hi W1.out]; exact HS.out, by first | rfl | trivial⟩
      case measure => simp [intOf]; omega
    · have hsi : skip l a = i := by
        rw [← HS.out]
        by_cases hi : i < l.length
        · have : ws (gi l i) = true := by
            cases hw : ws (gi l i)
            · exact absurd ⟨hi, hw⟩ hgo
            · rfl
          exact skip_stop hi this
        · exact skip_end (by omega)
      have hct : cutTo l a = if find l (i + 1) < l.length then find l (i + 1) - 1 else l.length := by unfold cutTo; rw [hsi]
      have CT := Lib.hid hct
      have HA := Lib.hid (aft_any E a i l kv wr H.out h2 hl)
      have hgo2 : (i < l.length ∧ ws (gi l i) = true) ∨ ¬ i < l.length := by
        by_cases hi : i < l.length
        · left; refine ⟨hi, ?_⟩
          cases hw : ws (gi l i)
          · exact absurd ⟨hi, hw⟩ hgo
          · rfl
        · exact .inr hi
      clear hsi hct hgo HS
      have hfi : i + 1 ≤ find l (i + 1) ∨ ¬ find l (i + 1) < l.length := by
        by_cases h : find l (i + 1) < l.length
        · exact .inl (find_ge h)
        · exact .inr h
      by_cases hk : find l (i + 1) < l.length
      · obtain ⟨k, hkk⟩ : ∃ k, find l (i + 1) = k + 1 := ⟨find l (i + 1) - 1, by omega⟩
        have hv : aftV l i = (k : Int) + 1 := by unfold aftV; rw [if_pos hk, hkk]; rfl
        have hto : cutTo l a = k := by rw [CT.out, if_pos hk, hkk]; rfl
        have HV := Lib.hid hv
        have HT := Lib.hid hto
        have d2 : decide ((0 : Int) ≤ (k : Int) + 1) = true := by rw [decide_eq_true_eq]; omega
        have e2 : IntKind.i64.wrap (k : Int) = (k : Int) := IntWalk.i64_in _ (by omega)
        have e3 : IntKind.i64.wrap ((k : Int) + 1 - 1) = (k : Int) := by rw [Int.add_sub_cancel]; exact e2
        have hak : a ≤ k := by omega
        have hkl : k ≤ l.length := by omega
        have hkl2 : k + 1 < l.length := by omega
        clear hv hto CT hk hfi
        rcases hgo2 with ⟨hi, hw⟩ | hi
        · have W1 := Lib.hid hw
          have k0 := CS.out i hi
          have d1 : decide ((i : Int) < (l.length : Int)) = true := by rw [decide_eq_true_eq]; omega
          have i1 : (i : Int) < (l.length : Int) := by omega
          clear hw
          go_wp2_with (first
            | (go_at_call 82; refine (sgn_any _ _).mono ?_; rintro e w1 ⟨rfl, rfl⟩; rw [W1.out])
            | (go_at_call 38; refine HA.out.mono ?_; rintro e w1 ⟨rfl, rfl⟩; rw [HV.out])
            | (go_at_call 35; refine (take_keep E a a k l kv _ H.out hl hak hkl).mono ?_; rintro e w2 ⟨rfl, kv', ed2, m2⟩; have E2 := Lib.hid ed2; have M2 := Lib.hid m2; clear ed2 m2))
          go_end0
          exact ⟨rfl, kv', by rw [HT.out]; exact E2.out, M2.out⟩
        · exfalso
          have := find_end (l := l) (i := i + 1) (by omega)
          omega
      · have hv : aftV l i = -1 := by unfold aftV; rw [if_neg hk]
        have hto : cutTo l a = l.length := by rw [CT.out, if_neg hk]
        have HV := Lib.hid hv
        have HT := Lib.hid hto
        clear hv hto CT hk hfi
        rcases hgo2 with ⟨hi, hw⟩ | hi
        · have W1 := Lib.hid hw
          have k0 := CS.out i hi
          have d1 : decide ((i : Int) < (l.length : Int)) = true := by rw [decide_eq_true_eq]; omega
          have i1 : (i : Int) < (l.length : Int) := by omega
          clear hw
          go_wp2_with (first
            | (go_at_call 82; refine (sgn_any _ _).mono ?_; rintro e w1 ⟨rfl, rfl⟩; rw [W1.out])
            | (go_at_call 38; refine HA.out.mono ?_; rintro e w1 ⟨rfl, rfl⟩; rw [HV.out])
            | (go_at_call 35; refine (take_keep E a a l.length l kv _ H.out hl (by omega) (Nat.le_refl _)).mono ?_; rintro e w2 ⟨rfl, kv', ed2, m2⟩; have E2 := Lib.hid ed2; have M2 := Lib.hid m2; clear ed2 m2))
          go_end0
          exact ⟨rfl, kv', by rw [HT.out]; exact E2.out, M2.out⟩
        · have d1 : decide ((i : Int) < (l.length : Int)) = false := by rw [decide_eq_false_iff_not]; omega
          go_wp2_with (first
            | (go_at_call 38; refine HA.out.mono ?_; rintro e w1 ⟨rfl, rfl⟩; rw [HV.out])
            | (go_at_call 35; refine (take_keep E a a l.length l kv _ H.out hl (by omega) (Nat.le_refl _)).mono ?_; rintro e w2 ⟨rfl, kv', ed2, m2⟩; have E2 := Lib.hid ed2; have M2 := Lib.hid m2; clear ed2 m2))
          go_end0
          exact ⟨rfl, kv', by rw [HT.out]; exact E2.out, M2.out⟩

theorem cutw_end (E : Nat) (l : List Int) (kv : Value) (w : World) (h : ED w E l l.length kv) :
    Calls Tryd.prog 57 #[.pointer (some ⟨E, 0, none⟩)] w fun e w' => e = .returned (.tuple #[]) ∧ w' = w := by
  obtain ⟨lb, c, c0, c1, cs⟩ := h.cell0
  clear h cs
  go_enter Tryd.func57, Tryd.ntmps57
  go_wp2_with fail
  refine bodyPost_ret (results_none rfl _ _ _) rfl ?_
  exact ⟨rfl, rfl⟩

/-- The line behind DeleteWord. -/
def dwL (l : List Int) (a : Nat) : List Int := if a < l.length then l.take a ++ l.drop (cutTo l a) else l
theorem cutw_any (E a : Nat) (l : List Int) (kv : Value) (w : World) (h : ED w E l a kv) (ha : a ≤ l.length) (hl : l.length ≤ 1000) :
    Calls Tryd.prog 57 #[.pointer (some ⟨E, 0, none⟩)] w fun e w' => e = .returned (.tuple #[]) ∧ ∃ kv', ED w' E (dwL l a) a kv' ∧ Mod E E w w' := by
  unfold dwL
  by_cases h0 : a < l.length
  · rw [if_pos h0]; exact cutw_pos E a l kv w h h0 hl
  · rw [if_neg h0]
    obtain rfl : a = l.length := by omega
    refine (cutw_end E l kv w h).mono ?_
    rintro e w' ⟨rfl, rfl⟩
    exact ⟨rfl, kv, h, Mod.refl E E _⟩
theorem more_k13 (E : Nat) (l : List Int) (a : Nat) : Mores E 13 l a (dwL l a) a := by
  intro kv w h hl hal
  have HA : Hid (∀ o, ED (w.alloc o) E l a kv) := fun o => h.old (Old.alloc w o)
  have hE := h.lt
  obtain ⟨lb, c, c0, c1, c3, c4⟩ := h.cells
  clear h
  unfold KeyS.v opk
  go_enter Tryd.func39, Tryd.ntmps39
  go_wp2_with (go_at_call 57; refine (cutw_any E a l kv _ (HA.out _) hal hl).mono ?_; rintro e w2 ⟨rfl, kv', ed2, m2⟩; have E2 := Lib.hid ed2; have M2 := Lib.hid (mod_alloc m2 hE); clear ed2 m2 HA)
  go_ret
  exact ⟨rfl, kv', E2.out, M2.out⟩
theorem do_k13 (E : Nat) (l : List Int) (a : Nat) : Does E 13 l a (dwL l a) a (-1) := by
  intro kv w h hl hal
  have HA : Hid (∀ o, ED (w.alloc o) E l a kv) := fun o => h.old (Old.alloc w o)
  have hE := h.lt
  obtain ⟨lb, c, c0, c1, c3, c4⟩ := h.cells
  clear h
  have MC := Lib.hid (more_k13 E l a)
  unfold Mores at MC
  unfold KeyS.v opk at *
  go_enter Tryd.func19, Tryd.ntmps19
  go_wp2_with (go_at_call 39; refine (MC.out kv _ (HA.out _) hl hal).mono ?_; rintro e w2 ⟨rfl, kv', ed2, m2⟩; have E2 := Lib.hid ed2; have M2 := Lib.hid (mod_alloc m2 hE); clear ed2 m2 HA MC)
  go_ret
  exact ⟨rfl, kv', E2.out, M2.out⟩
end Go.Proofs.YtlfmmmbafkelhaaDoor
