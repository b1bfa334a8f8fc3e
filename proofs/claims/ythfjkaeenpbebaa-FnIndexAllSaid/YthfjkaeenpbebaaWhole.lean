/- Contracts: spec.Whole (it returns), laws.whole9 of two texts (it returns; if true both have at most 300 bytes). -/
import Derived.Test.YthfjkaeenpbebaaChecked
import Derived.Test.YthfjkaeenpbebaaBase
import Derived.Laws.RangeAny
namespace Go.Proofs.Ythfjkaeenpbebaa
open Go.RowKit
set_option linter.unusedVariables false
set_option linter.unusedSimpArgs false
set_option maxRecDepth 100000

theorem decode_adv (s : ByteArray) (pos : Nat) (h : pos < s.size) : 1 ≤ (Utf8.decode s pos).2 := by
  by_cases ha : (s[pos]'h).toNat < 128
  · rw [decode_ascii s pos h ha]; omega
  · exact (decode_high s pos h (by omega)).2

/-- It returns some Bool, and keeps what was there. -/
def AnyBool (w : World) (e : Ending) (w' : World) : Prop := ∃ r : Bool, e = .returned (.bool r) ∧ Old w w'

theorem whole_any (s : ByteArray) (w : World) (hs : s.size ≤ 140737488351232) :
    Calls Try.prog 32 #[.string s] w (AnyBool w) := by
  go_enter Try.func32, Try.ntmps32
  go_wp2
  go_loopw [3, 4] (fun _ _ wr => ∃ pos : Nat, wr = w.iter s pos) (fun _ _ wr => s.size - wr.iterPos w.heap.size)
  case atStart => exact ⟨0, rfl⟩
  case round =>
    obtain ⟨pos, rfl⟩ := hrel
    by_cases hlt : pos < s.size
    · have hadv := decode_adv s pos hlt
      have hn := run_next_any (P := Try.prog) w s pos 0 hlt
      by_cases h3 : pos + 3 ≤ s.size
      · go_wp2
        all_goals first
          | (go_ret; exact ⟨_, rfl, Old.alloc _ _⟩)
          | (refine ⟨⟨_, rfl⟩, ?_⟩; simp only [World.iterPos_iter]; omega)
      · go_wp2
        all_goals first
          | (go_ret; exact ⟨_, rfl, Old.alloc _ _⟩)
          | (refine ⟨⟨_, rfl⟩, ?_⟩; simp only [World.iterPos_iter]; omega)
    · have hn := run_next_end (P := Try.prog) w s pos 0 hlt
      go_wp2
      all_goals (go_ret; exact ⟨_, rfl, Old.alloc _ _⟩)

theorem strsAt_two (w : World) (s t : ByteArray) (T : TypeId) : StrsAt (w.alloc (.cells #[.string s, .string t] T)) (.slice (some ⟨w.heap.size, 0, none⟩) 2 2) [s, t] := by
  refine ⟨w.heap.size, 0, 2, rfl, Nat.le_refl _, by unfold maxLen; omega, by simp, fun j hj => ?_⟩
  have h := World.cell?_alloc_mark w #[.string s, .string t] T (0, 0) j
  rw [Nat.zero_add]
  refine h.trans ?_
  have hj' : j < 2 := hj
  match j, hj' with
  | 0, _ => rfl
  | 1, _ => rfl
/-- It returns some Bool; if that is true all texts have at most 300 bytes. -/
def Bool300 (l : List ByteArray) (w : World) (e : Ending) (w' : World) : Prop := ∃ r : Bool, e = .returned (.bool r) ∧ Old w w' ∧ (r = true → ∀ j, j < l.length → (gs l j).size ≤ 300)

theorem whole9_any (v : Value) (l : List ByteArray) (w : World) (hv : StrsAt w v l) (hl : ∀ j, j < l.length → (gs l j).size ≤ 140737488351232) :
    Calls Try.prog 19 #[v] w (Bool300 l w) := by
  obtain ⟨b, o, c, rfl, h1, h2, h3, h4⟩ := hv
  unfold maxLen at h2
  have HL := Lib.hid hl
  clear hl
  go_enter Try.func19, Try.ntmps19
  go_wp2
  go_loopw [3, 6] (fun _ i wr => ∃ k : Nat, k ≤ l.length ∧ i = .int .i64 k ∧ Old w wr ∧ ∀ j, j < k → (gs l j).size ≤ 300) (fun _ i _ => l.length - (intOf i).toNat)
  case atStart => exact ⟨0, Nat.zero_le _, rfl, Old.refl _, fun _ h => absurd h (by omega)⟩
  case round =>
    obtain ⟨k, hk, rfl, ho, hall⟩ := hrel
    have HO := Lib.hid ho
    have HA := Lib.hid hall
    clear hall
    by_cases hlt : k < l.length
    · have hc := (ho.cell (o := o + k) h3).trans (h4 k hlt)
      have hs := HL.out k hlt
      have H4 := Lib.hid h4
      clear ho h4
      by_cases h300 : (gs l k).size ≤ 300
      · go_wp2_with (go_at_call 32; refine (whole_any _ _ (by omega)).mono ?_; rintro e w1 ⟨r, rfl, h5⟩; have H5 := Lib.hid h5; clear h5; cases r)
        · go_ret
          exact ⟨_, rfl, HO.out.trans H5.out, fun h => by cases h⟩
        · go_roundw
          case rel => exact ⟨k + 1, by omega, by go_num, HO.out.trans H5.out, fun j hj => by
            by_cases e : j = k
            · subst e; exact h300
            · exact HA.out j (by omega)⟩
          case measure => simp [intOf]; omega
      · go_wp2
        go_ret
        exact ⟨_, rfl, HO.out, fun h => by cases h⟩
    · clear ho h4
      go_wp2
      go_ret
      exact ⟨_, rfl, HO.out, fun _ j hj => HA.out j (by omega)⟩
end Go.Proofs.Ythfjkaeenpbebaa
