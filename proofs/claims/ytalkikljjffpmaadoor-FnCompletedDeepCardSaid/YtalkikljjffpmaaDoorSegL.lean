/- The parts of the law FnSegmented: spec.Small, IsPlain, Offers, SameTexts9; laws.names9. -/
import Derived.Test.YtalkikljjffpmaaDoorSame7
import Derived.Test.YtalkikljjffpmaaDoorFits1
import Derived.Test.YtalkikljjffpmaaDoorAppNew
import Derived.Test.YtalkikljjffpmaaDoorRows4
import Derived.Test.YtalkikljjffpmaaDoorSplit
namespace Go.Proofs.YtalkikljjffpmaaDoor
open Go.RowKit
set_option linter.unusedVariables false
set_option linter.unusedSimpArgs false
set_option linter.unnecessarySimpa false
set_option maxRecDepth 100000

def rngB (lo hi : Nat) (s : ByteArray) : Bool := decide (∀ k (h : k < s.size), lo ≤ s[k].toNat ∧ s[k].toNat ≤ hi)
theorem rngB_asc {lo hi : Nat} {s : ByteArray} (h : rngB lo hi s = true) (hh : hi < 128) : asc s := fun k hk => by have := (of_decide_eq_true h) k hk; omega

theorem small_any (s : ByteArray) (w : World) (hl : s.size ≤ maxLen) : Calls Tryd.prog 14 #[.string s] w fun e w' => e = .returned (.bool (rngB 97 122 s)) ∧ w' = w := by
  unfold maxLen at hl
  go_enter Tryd.func14, Tryd.ntmps14
  go_wp2
  go_loop [6] (fun i => ∃ k : Nat, k ≤ s.size ∧ i = .int .i64 k ∧ ∀ j (hj : j < s.size), j < k → 97 ≤ s[j].toNat ∧ s[j].toNat ≤ 122) (fun i => s.size - (intOf i).toNat)
  case atStart => exact ⟨0, Nat.zero_le _, rfl, fun j hj h => absurd h (by omega)⟩
  case round =>
    obtain ⟨q, hk, rfl, hall⟩ := hrel
    have AL := Lib.hid hall
    clear hall
    by_cases hq : q < s.size
    · by_cases hc : 97 ≤ s[q].toNat ∧ s[q].toNat ≤ 122
      · have e1 : decide ((s[q].toNat : Int) < 97) = false := by simp; omega
        have e2 : decide ((s[q].toNat : Int) > 122) = false := by simp; omega
        have HC := Lib.hid hc
        clear hc
        go_wp2_with fail
        go_round
        case rel =>
          refine ⟨q + 1, by omega, by go_num, fun j hj h => ?_⟩
          by_cases e : j = q
          · subst e; exact HC.out
          · exact AL.out j hj (by omega)
        case measure => simp [intOf]; omega
      · have R : Hid (rngB 97 122 s = false) := decide_eq_false fun h => hc (h q hq)
        by_cases h1 : s[q].toNat < 97
        · have e1 : decide ((s[q].toNat : Int) < 97) = true := by simp; omega
          clear hc h1
          go_wp2_with fail
          go_ret
          exact ⟨ret_bool R.out, rfl⟩
        · have h2 : 122 < s[q].toNat := by omega
          have e1 : decide ((s[q].toNat : Int) < 97) = false := by simp; omega
          have e2 : decide ((s[q].toNat : Int) > 122) = true := by simp; omega
          clear hc h1 h2
          go_wp2_with fail
          go_ret
          exact ⟨ret_bool R.out, rfl⟩
    · obtain rfl : q = s.size := by omega
      have R : Hid (rngB 97 122 s = true) := decide_eq_true fun k hk => AL.out k hk hk
      go_wp2_with fail
      go_ret
      exact ⟨ret_bool R.out, rfl⟩

theorem plain_any (s : ByteArray) (w : World) (hl : s.size ≤ maxLen) : Calls Tryd.prog 9 #[.string s] w fun e w' => e = .returned (.bool (rngB 32 126 s)) ∧ w' = w := by
  unfold maxLen at hl
  go_enter Tryd.func9, Tryd.ntmps9
  go_wp2
  go_loop [6] (fun i => ∃ k : Nat, k ≤ s.size ∧ i = .int .i64 k ∧ ∀ j (hj : j < s.size), j < k → 32 ≤ s[j].toNat ∧ s[j].toNat ≤ 126) (fun i => s.size - (intOf i).toNat)
  case atStart => exact ⟨0, Nat.zero_le _, rfl, fun j hj h => absurd h (by omega)⟩
  case round =>
    obtain ⟨q, hk, rfl, hall⟩ := hrel
    have AL := Lib.hid hall
    clear hall
    by_cases hq : q < s.size
    · by_cases hc : 32 ≤ s[q].toNat ∧ s[q].toNat ≤ 126
      · have e1 : decide ((s[q].toNat : Int) < 32) = false := by simp; omega
        have e2 : decide ((s[q].toNat : Int) > 126) = false := by simp; omega
        have HC := Lib.hid hc
        clear hc
        go_wp2_with fail
        go_round
        case rel =>
          refine ⟨q + 1, by omega, by go_num, fun j hj h => ?_⟩
          by_cases e : j = q
          · subst e; exact HC.out
          · exact AL.out j hj (by omega)
        case measure => simp [intOf]; omega
      · have R : Hid (rngB 32 126 s = false) := decide_eq_false fun h => hc (h q hq)
        by_cases h1 : s[q].toNat < 32
        · have e1 : decide ((s[q].toNat : Int) < 32) = true := by simp; omega
          clear hc h1
          go_wp2_with fail
          go_ret
          exact ⟨ret_bool R.out, rfl⟩
        · have h2 : 126 < s[q].toNat := by omega
          have e1 : decide ((s[q].toNat : Int) < 32) = false := by simp; omega
          have e2 : decide ((s[q].toNat : Int) > 126) = true := by simp; omega
          clear hc h1 h2
          go_wp2_with fail
          go_ret
          exact ⟨ret_bool R.out, rfl⟩
    · obtain rfl : q = s.size := by omega
      have R : Hid (rngB 32 126 s = true) := decide_eq_true fun k hk => AL.out k hk hk
      go_wp2_with fail
      go_ret
      exact ⟨ret_bool R.out, rfl⟩

/-- What is left, with a blank behind, of those texts that begin with b. -/
def preS (x b : ByteArray) : Bool := decide (b.size ≤ x.size ∧ x.extract 0 b.size = b)
def offB (l : List ByteArray) (b : ByteArray) : List ByteArray := (l.filter (fun x => preS x b)).map (fun x => x.extract b.size x.size ++ ⟨#[32]⟩)
theorem offB_len (l : List ByteArray) (b : ByteArray) : (offB l b).length ≤ l.length := by unfold offB; rw [List.length_map]; exact List.length_filter_le _ _
theorem offB_yes {l : List ByteArray} {b : ByteArray} {k : Nat} (h : k < l.length) (hp : preS (gs l k) b = true) : (offB (l.take k) b).map Value.string ++ [.string ((gs l k).extract b.size (gs l k).size ++ ⟨#[32]⟩)] = (offB (l.take (k + 1)) b).map Value.string := by
  rw [gs_lt h] at hp ⊢
  rw [List.take_succ_eq_append_getElem h]; unfold offB; rw [List.filter_append]; simp [List.filter_cons, hp]
theorem offB_no {l : List ByteArray} {b : ByteArray} {k : Nat} (h : k < l.length) (hp : preS (gs l k) b = false) : offB (l.take (k + 1)) b = offB (l.take k) b := by
  rw [gs_lt h] at hp
  rw [List.take_succ_eq_append_getElem h]; unfold offB; rw [List.filter_append]; simp [List.filter_cons, hp]
theorem bytes_ne9 {a b : ByteArray} (h : a ≠ b) : (a.toList == b.toList) = false := by
  rw [beq_eq_false_iff_ne]
  intro e
  rw [ByteArray.toList_eq, ByteArray.toList_eq] at e
  apply h
  cases a; cases b
  simp at e
  rw [e]
theorem bytes_eq9 {a b : ByteArray} (h : a = b) : (a.toList == b.toList) = true := by rw [h]; simp
set_option maxHeartbeats 400000 in
theorem off_any (v : Value) (l : List ByteArray) (b : ByteArray) (w : World) (h : Strs w v l) (hl : l.length ≤ 1000) (hs : ∀ j, j < l.length → (gs l j).size ≤ 1000) (hb : b.size ≤ 1000) :
    Calls Tryd.prog 13 #[v, .string b] w fun e w' => ∃ v', e = .returned v' ∧ Old w w' ∧ w'.ownsRow w.heap.size 9 1 v' (offB l b).length ((offB l b).map Value.string) := by
  have HT := Lib.hid h
  have HS := Lib.hid hs
  obtain ⟨ad, c, rfl, h2, h3, -⟩ := h
  unfold maxLen at h3
  clear hs
  go_enter Tryd.func13, Tryd.ntmps13
  go_wp2_with fail
  go_loopw [5, 9] (fun ov iv wr => ∃ k : Nat, k ≤ l.length ∧ iv = .int .i64 k ∧ wr.ownsRow w.heap.size 9 1 ov (offB (l.take k) b).length ((offB (l.take k) b).map Value.string) ∧ Old w wr) (fun _ iv _ => l.length - (intOf iv).toNat)
  case atStart => exact ⟨0, Nat.zero_le _, rfl, ⟨by simp [offB], .inl ⟨rfl, by simp [offB]⟩⟩, Old.refl _⟩
  case round =>
    obtain ⟨k, hk, rfl, hown, hold⟩ := hrel
    have OW := Lib.hid hown
    have OO := Lib.hid hold
    have RL := offB_len (l.take k) b
    rw [List.length_take] at RL
    clear hown hold
    by_cases hkn : k < l.length
    · obtain ⟨bb, o, rfl, c1⟩ := (HT.out.old OO.out).cell k hkn
      have hsz := HS.out k hkn
      have RY := fun h => offB_yes (b := b) hkn h
      have RN := fun h => offB_no (b := b) hkn h
      generalize gs l k = x at c1 hsz RY RN
      by_cases hbx : b.size ≤ x.size
      · have g0 : decide ((x.size : Int) ≥ (b.size : Int)) = true := by simp; omega
        have g1 : decide (b.size ≤ x.size) = true := by simp; omega
        by_cases he : x.extract 0 b.size = b
        · have hp : preS x b = true := decide_eq_true ⟨hbx, he⟩
          have YY := Lib.hid (RY hp)
          have q1 := bytes_eq9 he
          have s1 : ¬ 9223372036854775807 < (x.extract b.size x.size).size + (⟨#[32]⟩ : ByteArray).size := by
            have : (⟨#[32]⟩ : ByteArray).size = 1 := rfl
            rw [this, ByteArray.size_extract]; omega
          have s2 : ¬ 9223372036854775807 < (min x.size x.size - b.size) + 1 := by omega
          have s3 : ¬ 9223372036854775807 < x.size - b.size + 1 := by omega
          clear RY RN hp he
          go_wp2_with (at_builtin; refine wpList_append_new rfl _ _ 22 9 _ (.string ByteArray.empty) 1 16 rfl Tryd.underlying22 info_str rfl (by decide) w.heap.size u5 (offB (l.take k) b).length ((offB (l.take k) b).map Value.string) rfl OW.out 1 #[.string (x.extract b.size x.size ++ (⟨#[32]⟩ : ByteArray))] rfl (by decide) rfl (by intro z hz; simp at hz; subst hz; rfl) (by omega) (by omega) OO.out.size ?_; intro v3 w3 own3 gr3 at3; obtain ⟨b3, cc3, rfl, at3⟩ := at3; have OW3 := Lib.hid own3; have O3 := Lib.hid (OO.out.own (Nat.le_refl _) OW.out gr3); clear own3 gr3 at3)
          go_roundw
          case rel => exact ⟨k + 1, by omega, by go_num, by
            have h3 := OW3.out
            have e3 : (offB (l.take (k + 1)) b).length = (offB (l.take k) b).length + 1 := by
              have := congrArg List.length YY.out; simpa using this.symm
            rw [← YY.out, e3]; exact h3, O3.out⟩
          case measure => simp [intOf]; omega
        · have hp : preS x b = false := decide_eq_false fun h => he h.2
          have NN := Lib.hid (RN hp)
          have q1 := bytes_ne9 he
          clear RY RN hp he
          go_wp2_with fail
          go_roundw
          case rel => exact ⟨k + 1, by omega, by go_num, by rw [NN.out]; exact OW.out, OO.out⟩
          case measure => simp [intOf]; omega
      · have hp : preS x b = false := decide_eq_false fun h => hbx h.1
        have NN := Lib.hid (RN hp)
        have g0 : decide ((x.size : Int) ≥ (b.size : Int)) = false := by simp; omega
        have g1 : decide (b.size ≤ x.size) = false := by simp; omega
        clear RY RN hp
        go_wp2_with fail
        go_roundw
        case rel => exact ⟨k + 1, by omega, by go_num, by rw [NN.out]; exact OW.out, OO.out⟩
        case measure => simp [intOf]; omega
    · obtain rfl : k = l.length := by omega
      rw [List.take_length] at OW
      go_wp2_with fail
      go_ret
      exact ⟨_, rfl, OO.out, OW.out⟩
theorem same9_eq (v u : Value) (l : List ByteArray) (w : World) (h : SR w v l) (k : SR w u l) : Calls Tryd.prog 12 #[v, u] w fun e w' => e = .returned (.bool true) ∧ ∃ n, w' = w.drewN n := by
  have H := Lib.hid h
  have K := Lib.hid k
  obtain ⟨ad, c, rfl, h2, h3, -⟩ := h
  obtain ⟨bd, d, rfl, k2, k3, -⟩ := k
  unfold maxLen at h3 k3
  go_enter Tryd.func12, Tryd.ntmps12
  go_wp2_with fail
  go_loopw [13] (fun i wr => ∃ k n : Nat, k ≤ l.length ∧ i = .int .i64 k ∧ wr = w.drewN n) (fun i _ => l.length - (intOf i).toNat)
  case atStart => exact ⟨0, 0, Nat.zero_le _, rfl, rfl⟩
  case round =>
    obtain ⟨k, n, hk, rfl, rfl⟩ := hrel
    by_cases hlt : k < l.length
    · obtain ⟨b, o, rfl, c1⟩ := H.out.cell k hlt
      obtain ⟨b', o', rfl, c2⟩ := K.out.cell k hlt
      have d1 : ∀ m, (w.drewN m).cell? ⟨b, o + k, none⟩ = some (.string (gs l k)) := fun m => c1
      have d2 : ∀ m, (w.drewN m).cell? ⟨b', o' + k, none⟩ = some (.string (gs l k)) := fun m => c2
      have i0 : (0 : Int) ≤ k := by omega
      have i1 : (k : Int) < l.length := by omega
      clear c1 c2
      go_wp2_with fail
      go_quiet (fail)
      go_wp2_with fail
      go_roundw
      case rel => exact ⟨k + 1, n + nq, by omega, by go_num, rfl⟩
      case measure => simp [intOf]; omega
    · have hkn' : k = l.length := by omega
      subst hkn'
      go_wp2_with fail
      go_ret
      exact ⟨rfl, n, rfl⟩
end Go.Proofs.YtalkikljjffpmaaDoor
