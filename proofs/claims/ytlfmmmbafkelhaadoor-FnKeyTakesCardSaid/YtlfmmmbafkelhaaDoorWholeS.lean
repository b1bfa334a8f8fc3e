/- Contracts: spec.Whole (it returns), laws.whole9 of two texts (it returns; if true both have at most 300 bytes). -/
import Derived.Test.YtlfmmmbafkelhaaDoorProg
import Derived.Test.YtlfmmmbafkelhaaDoorBase
import Derived.Laws.RangeAny
namespace Go.Proofs.YtlfmmmbafkelhaaDoor
open Go.RowKit
set_option linter.unusedVariables false
set_option linter.unusedSimpArgs false
set_option maxRecDepth 100000

theorem decode_adv (s : ByteArray) (pos : Nat) (h : pos < s.size) : 1 ≤ (Utf8.decode s pos).2 := by
  by_cases ha : (s[pos]'h).toNat < 128
  · rw [decode_ascii s pos h ha]; omega
  · exact (decode_high s pos h (by omega)).2

/-- It returns some Bool, and keeps what was there. -/
def AnyBool (w : World) (e : Ending) (w' : World) : Prop := ∃ r : Bool, e = .returned (.bool r) ∧ Old w w'

theorem whole_any (s : ByteArray) (w : World) (hs : s.size ≤ 140737488351232) :
    Calls Tryd.prog 54 #[.string s] w (AnyBool w) := by
  go_enter Tryd.func54, Tryd.ntmps54
  go_wp2
  go_loopw [3, 4] (fun _ _ wr => ∃ pos : Nat, wr = w.iter s pos) (fun _ _ wr => s.size - wr.iterPos w.heap.size)
  case atStart => exact ⟨0, rfl⟩
  case round =>
    obtain ⟨pos, rfl⟩ := hrel
    by_cases hlt : pos < s.size
    · have hadv := decode_adv s pos hlt
      have hn := run_next_any (P := Tryd.prog) w s pos 0 hlt
      by_cases h3 : pos + 3 ≤ s.size
      · go_wp2
        all_goals first
          | (go_ret; exact ⟨_, rfl, Old.alloc _ _⟩)
          | (refine ⟨⟨_, rfl⟩, ?_⟩; simp only [World.iterPos_iter]; omega)
      · go_wp2
        all_goals first
          | (go_ret; exact ⟨_, rfl, Old.alloc _ _⟩)
          | (refine ⟨⟨_, rfl⟩, ?_⟩; simp only [World.iterPos_iter]; omega)
    · have hn := run_next_end (P := Tryd.prog) w s pos 0 hlt
      go_wp2
      all_goals (go_ret; exact ⟨_, rfl, Old.alloc _ _⟩)
end Go.Proofs.YtlfmmmbafkelhaaDoor
