/- laws.names9: small letters, at most 12, each once; at most eight texts. -/
import Derived.Test.YtalkikljjffpmaaDoorSegL
namespace Go.Proofs.YtalkikljjffpmaaDoor
open Go.RowKit
set_option linter.unusedVariables false
set_option linter.unusedSimpArgs false
set_option linter.unnecessarySimpa false
set_option maxRecDepth 100000

def okN (s : ByteArray) : Prop := 1 ≤ s.size ∧ s.size ≤ 12 ∧ rngB 97 122 s = true
def nmP (l : List ByteArray) (n : Nat) : Prop := ∀ j, j < n → okN (gs l j) ∧ ∀ k, k < j → gs l k ≠ gs l j
instance (s : ByteArray) : Decidable (okN s) := by unfold okN; infer_instance
instance (l : List ByteArray) (n : Nat) : Decidable (nmP l n) := by unfold nmP; infer_instance
def nm9 (l : List ByteArray) : Bool := decide (nmP l l.length) && decide (l.length ≤ 8)
theorem nm9_no {l : List ByteArray} {j : Nat} (hj : j < l.length) (h : ¬ okN (gs l j)) : nm9 l = false := by
  unfold nm9
  rw [Bool.and_eq_false_iff]; left
  exact decide_eq_false fun k => h (k j hj).1
theorem nm9_twice {l : List ByteArray} {j k : Nat} (hj : j < l.length) (hk : k < j) (h : gs l k = gs l j) : nm9 l = false := by
  unfold nm9
  rw [Bool.and_eq_false_iff]; left
  exact decide_eq_false fun q => (q j hj).2 k hk h
theorem nm9_yes {l : List ByteArray} (h : nm9 l = true) : l.length ≤ 8 ∧ ∀ j, j < l.length → okN (gs l j) := by
  unfold nm9 at h
  rw [Bool.and_eq_true] at h
  exact ⟨of_decide_eq_true h.2, fun j hj => ((of_decide_eq_true h.1) j hj).1⟩
theorem toList_nil9 {s : ByteArray} (h : s.size = 0) : s.toList = [] := by
  rw [ByteArray.toList_eq]
  apply List.eq_nil_of_length_eq_zero
  simpa using h
theorem toList_some9 {s : ByteArray} (h : 1 ≤ s.size) : s.toList ≠ [] := by
  rw [ByteArray.toList_eq]
  intro e
  have h2 : s.data.toList.length = 0 := by rw [e]; rfl
  rw [Array.length_toList] at h2
  have h3 : s.size = s.data.size := rfl
  omega
set_option maxHeartbeats 1000000 in
theorem names_any (v : Value) (l : List ByteArray) (w : World) (h : Strs w v l) : Calls Tryd.prog 8 #[v] w fun e w' => e = .returned (.bool (nm9 l)) ∧ ∃ n, w' = w.drewN n := by
  have HT := Lib.hid h
  have HZ := Lib.hid (fun j hj => h.sized j hj)
  obtain ⟨ad, c, rfl, h2, h3, -⟩ := h
  unfold maxLen at h3
  go_enter Tryd.func8, Tryd.ntmps8
  go_wp2_with fail
  go_loopw [7] (fun iv wr => ∃ k n : Nat, k ≤ l.length ∧ iv = .int .i64 k ∧ wr = w.drewN n ∧ nmP l k) (fun iv _ => l.length - (intOf iv).toNat)
  case atStart => exact ⟨0, 0, Nat.zero_le _, rfl, rfl, fun j hj => absurd hj (by omega)⟩
  case round =>
    obtain ⟨k, n, hk, rfl, rfl, hall⟩ := hrel
    have AL := Lib.hid hall
    clear hall
    by_cases hlt : k < l.length
    · obtain ⟨b, o, rfl, c1⟩ := HT.out.cell k hlt
      have d1 : ∀ m, (w.drewN m).cell? ⟨b, o + k, none⟩ = some (.string (gs l k)) := fun m => c1
      have hsz := HZ.out k hlt
      unfold maxLen at hsz
      have D1 := Lib.hid d1
      by_cases hok : okN (gs l k)
      · have OK := Lib.hid hok
        have z1 := hok.1
        have z2 := hok.2.1
        have e1 := toList_some9 hok.1
        have e2 : (gs l k).toList.isEmpty = false := by cases hh : (gs l k).toList with | nil => exact absurd hh e1 | cons a t => rfl
        have e3 : ((gs l k).toList == []) = false := by rw [beq_eq_false_iff_ne]; exact e1
        have SM := fun W => small_any (gs l k) W (by unfold maxLen; omega)
        rw [hok.2.2] at SM
        have SM' := Lib.hid SM
        clear SM hok c1
        obtain ⟨t, ht⟩ : ∃ t, t = gs l k := ⟨_, rfl⟩
        rw [← ht] at d1 z1 z2 e1 e2 e3 hsz SM'
        have HT2 := Lib.hid ht
        clear ht
        have d12 : decide ((12 : Int) < (t.size : Int)) = false := by simp; omega
        have d13 : decide ((t.size : Int) > 12) = false := by simp; omega
        go_wp2_with (go_at_call 14; refine (SM'.out _).mono ?_; rintro e w2 ⟨rfl, rfl⟩)
        go_loopw [32] (fun qv wr => ∃ q m : Nat, q ≤ k ∧ qv = .int .i64 q ∧ wr = w.drewN m ∧ ∀ j, j < q → gs l j ≠ t) (fun qv _ => k - (intOf qv).toNat)
        case atStart => exact ⟨0, n, Nat.zero_le _, rfl, rfl, fun j hj => absurd hj (by omega)⟩
        case round =>
          obtain ⟨q, m, hq, rfl, rfl, hne⟩ := hrel
          have NE := Lib.hid hne
          clear hne
          by_cases hqk : q < k
          · obtain ⟨b', o', e', c2⟩ := HT.out.cell q (by omega)
            injection e' with e'; injection e' with e1' e2'; subst e1' e2'
            have d2 : ∀ m, (w.drewN m).cell? ⟨b, o + q, none⟩ = some (.string (gs l q)) := fun m => c2
            have i0 : (0 : Int) ≤ q := by omega
            have i1 : (q : Int) < l.length := by omega
            have i2 : (0 : Int) ≤ k := by omega
            have i3 : (k : Int) < l.length := by omega
            clear c2
            by_cases he : gs l q = t
            · have R := Lib.hid (nm9_twice hlt hqk (he.trans HT2.out))
              rw [he] at d2
              clear he
              go_wp2_with fail
              go_quiet (fail)
              go_wp2_with fail
              go_ret
              exact ⟨ret_bool R.out, m + nq, by simp [World.drewN, Nat.add_assoc]⟩
            · have HE := Lib.hid he
              have q1 := bytes_ne9 he
              generalize gs l q = u at d2 q1
              clear he
              go_wp2_with fail
              go_quiet (fail)
              go_wp2_with fail
              go_roundw
              case rel =>
                refine ⟨q + 1, _, by omega, by go_num, rfl, fun j hj => ?_⟩
                by_cases e : j = q
                · subst e; exact HE.out
                · exact NE.out j (by omega)
              case measure => simp [intOf]; omega
          · have hqk' : q = k := by omega
            subst hqk'
            go_wp2_with fail
            go_roundw
            case rel =>
              refine ⟨q + 1, m, by omega, by go_num, rfl, fun j hj => ?_⟩
              by_cases e : j = q
              · subst e; exact ⟨OK.out, fun k hk => by rw [← HT2.out]; exact NE.out k hk⟩
              · exact AL.out j (by omega)
            case measure => simp [intOf]; omega
      · have R := Lib.hid (nm9_no hlt hok)
        have SM := fun W => small_any (gs l k) W (by unfold maxLen; omega)
        by_cases z1 : 1 ≤ (gs l k).size
        · have e1 := toList_some9 z1
          have e2 : (gs l k).toList.isEmpty = false := by cases hh : (gs l k).toList with | nil => exact absurd hh e1 | cons a t => rfl
          have e3 : ((gs l k).toList == []) = false := by rw [beq_eq_false_iff_ne]; exact e1
          by_cases z2 : (gs l k).size ≤ 12
          · have sf : rngB 97 122 (gs l k) = false := by
              cases hs : rngB 97 122 (gs l k) with
              | false => rfl
              | true => exact absurd ⟨z1, z2, hs⟩ hok
            rw [sf] at SM
            have SM' := Lib.hid SM
            generalize gs l k = t at d1 z1 z2 e1 e2 e3 SM'
            have d12 : decide ((12 : Int) < (t.size : Int)) = false := by simp; omega
            have d13 : decide ((t.size : Int) > 12) = false := by simp; omega
            clear SM hok sf c1
            go_wp2_with (go_at_call 14; refine (SM'.out _).mono ?_; rintro e w2 ⟨rfl, rfl⟩)
            go_ret
            exact ⟨ret_bool R.out, n, rfl⟩
          · clear SM hok c1
            generalize gs l k = t at d1 z1 z2 e1 e2 e3 hsz
            have d12 : decide ((12 : Int) < (t.size : Int)) = true := by simp; omega
            have d13 : decide ((t.size : Int) > 12) = true := by simp; omega
            go_wp2_with fail
            go_ret
            exact ⟨ret_bool R.out, n, rfl⟩
        · have e1 := toList_nil9 (s := gs l k) (by omega)
          have e2 : (gs l k).toList.isEmpty = true := by rw [e1]; rfl
          have e3 : ((gs l k).toList == []) = true := by rw [e1]; rfl
          clear SM hok c1
          generalize gs l k = t at d1 z1 e1 e2 e3 hsz
          go_wp2_with fail
          go_ret
          exact ⟨ret_bool R.out, n, rfl⟩
    · have hkn' : k = l.length := by omega
      subst hkn'
      have R : Hid (nm9 l = decide (l.length ≤ 8)) := by unfold Hid nm9; rw [decide_eq_true AL.out, Bool.true_and]
      go_wp2_with fail
      go_ret
      exact ⟨ret_bool (by rw [R.out]; exact decide_eq_decide.2 (by omega)), n, rfl⟩
end Go.Proofs.YtalkikljjffpmaaDoor
