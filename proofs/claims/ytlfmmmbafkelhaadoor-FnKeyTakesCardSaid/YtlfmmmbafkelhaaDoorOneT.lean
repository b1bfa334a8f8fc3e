/- laws.one9 of the steps that take out. -/
import Derived.Test.YtlfmmmbafkelhaaDoorOneS
import Derived.Test.YtlfmmmbafkelhaaDoorCutW
import Derived.Test.YtlfmmmbafkelhaaDoorDelW
import Derived.Test.YtlfmmmbafkelhaaDoorDispB
import Derived.Test.YtlfmmmbafkelhaaDoorDispW
namespace Go.Proofs.YtlfmmmbafkelhaaDoor
open Go.RowKit
set_option linter.unusedVariables false
set_option linter.unusedSimpArgs false
set_option maxRecDepth 100000

/-- One step that takes out. -/
theorem one9_takes (op : Int) (hop : op = 6 ∨ op = 7 ∨ op = 9 ∨ op = 15 ∨ op = 16 ∨ op = 13) (s : ByteArray) (k : Int) (w : World) (hs : s.size ≤ 2147483647) (hk : (Lit.int .i64 k).wf = true) :
    Calls Tryd.prog 23 #[.agg #[.string s, .int .i64 k], (opk op).v] w fun e w' => e = .returned (.bool true) ∧ Old w w' := by
  cases h : ln9 s k
  · exact one9_guard op s k w hs hk h
  · have hq : asc9 s = true ∧ 0 ≤ k ∧ k ≤ s.size := by have := h; unfold ln9 at this; simpa using this
    have ha := asc9_iff.1 hq.1
    obtain ⟨a, rfl⟩ : ∃ a : Nat, k = a := ⟨k.toNat, by omega⟩
    have hr : (runes s).length = s.size := by rw [runes_asc ha.1, length_nums]
    have hb : runesBytes (runes s) = s := by rw [runes_asc ha.1, runesBytes_nums ha.1]
    have hae : a ≤ s.size := by omega
    rcases hop with rfl | rfl | rfl | rfl | rfl | rfl
    · by_cases h0 : a < s.size
      · have e1 : ∀ T, delSt (st1 s a T) = { l := cutAt (runes s) a (a + 1), at_ := a, kl := ((runes s).drop a).take 1, t := T } := fun T => if_pos (show a < (runes s).length by omega)
        have e2 : ∀ T, tellB (delB (st1 s a T)) = 1 := fun T => by
          have : a < (runes s).length := by omega
          simp [tellB, delB, st1, this]
        exact one9_step 6 (fun T => delSt (st1 s a T)) 1 (runesBytes (cutAt (runes s) a (a + 1))) a (cutAt (runes s) a (a + 1)) s a w ha.1 ha.2 hae h hk (by omega) (by omega) (by omega) (by omega) (by decide)
          (fun T p b w h => by have := keyed_k6 p b _ ⟨#[]⟩ 0 false false w h; rw [e2] at this; exact this) (fun T => by rw [e1]) (fun T => by rw [e1]) (fun T => by rw [e1]) (fun E => do_k6 E _ a (by omega)) rfl
      · have e0 : a = (runes s).length := by omega
        have e1 : ∀ T, delSt (st1 s a T) = st1 s a T := fun T => if_neg (show ¬ a < (runes s).length by omega)
        have e2 : ∀ T, tellB (delB (st1 s a T)) = 0 := fun T => by
          have : ¬ a < (runes s).length := by omega
          simp [tellB, delB, st1, this]
        exact one9_step 6 (fun T => delSt (st1 s a T)) 0 s a (runes s) s a w ha.1 ha.2 hae h hk (by omega) (by omega) (by omega) (by omega) (by decide)
          (fun T p b w h => by have := keyed_k6 p b _ ⟨#[]⟩ 0 false false w h; rw [e2] at this; exact this) (fun T => by rw [e1]; rfl) (fun T => by rw [e1]; exact hb) (fun T => by rw [e1]; rfl) (fun E => by rw [e0]; exact do_k6e E _) hb
    · by_cases h0 : a = 0
      · subst h0
        have e1 : ∀ T, bkSt (st1 s 0 T) = st1 s 0 T := fun T => if_pos rfl
        exact one9_step 7 (fun T => bkSt (st1 s 0 T)) (-1) s 0 (runes s) s 0 w ha.1 ha.2 hae h hk (by omega) (by omega) (by omega) (by omega) (by decide)
          (fun T p b w h => keyed_k7 p b _ _ _ _ _ w h) (fun T => by rw [e1]; rfl) (fun T => by rw [e1]; exact hb) (fun T => by rw [e1]; rfl) (fun E => do_k7z E _) hb
      · obtain ⟨c, rfl⟩ : ∃ c, a = c + 1 := ⟨a - 1, by omega⟩
        have e1 : ∀ T, bkSt (st1 s (c + 1) T) = { st1 s (c + 1) T with l := cutAt (runes s) c (c + 1), at_ := c } := fun T => if_neg (show ¬ (st1 s (c + 1) T).at_ = 0 from h0)
        exact one9_step 7 (fun T => bkSt (st1 s (c + 1) T)) (-1) (runesBytes (cutAt (runes s) c (c + 1))) c (cutAt (runes s) c (c + 1)) s (c + 1) w ha.1 ha.2 hae h hk (by omega) (by omega) (by omega) (by omega) (by decide)
          (fun T p b w h => keyed_k7 p b _ _ _ _ _ w h) (fun T => by rw [e1]; rfl) (fun T => by rw [e1]) (fun T => by rw [e1]) (fun E => do_k7 E _ c) rfl
    · exact one9_step 9 (fun T => { st1 s a T with l := [], at_ := 0, kl := runes s }) (-1) (runesBytes []) 0 ((runes s).take 0 ++ (runes s).drop (runes s).length) s a w ha.1 ha.2 hae h hk (by omega) (by omega) (by omega) (by omega) (by decide)
        (fun T p b w h => keyed_k9 p b _ _ _ _ _ w h) (fun T => rfl) (fun T => rfl) (fun T => rfl) (fun E => do_k9 E _ a) (by rw [List.take_zero, List.drop_length, List.nil_append])
    · exact one9_step 15 (fun T => { st1 s a T with l := (runes s).take a, kl := (runes s).drop a }) (-1) (runesBytes ((runes s).take a)) a ((runes s).take a ++ (runes s).drop (runes s).length) s a w ha.1 ha.2 hae h hk (by omega) (by omega) (by omega) (by omega) (by decide)
        (fun T p b w h => keyed_k15 p b _ _ _ _ _ w h) (fun T => rfl) (fun T => rfl) (fun T => rfl) (fun E => do_k15 E _ a) (by rw [List.drop_length, List.append_nil])
    · by_cases h0 : a = 0
      · subst h0
        have e1 : ∀ T, kfSt (st1 s 0 T) = st1 s 0 T := fun T => if_pos rfl
        exact one9_step 16 (fun T => kfSt (st1 s 0 T)) (-1) s 0 (runes s) s 0 w ha.1 ha.2 hae h hk (by omega) (by omega) (by omega) (by omega) (by decide)
          (fun T p b w h => keyed_k16 p b _ _ _ _ _ w h) (fun T => by rw [e1]; rfl) (fun T => by rw [e1]; exact hb) (fun T => by rw [e1]; rfl) (fun E => do_k16z E _) hb
      · have e1 : ∀ T, kfSt (st1 s a T) = { st1 s a T with l := (runes s).drop a, at_ := 0, kl := (runes s).take a } := fun T => if_neg (show ¬ (st1 s a T).at_ = 0 from h0)
        exact one9_step 16 (fun T => kfSt (st1 s a T)) (-1) (runesBytes ((runes s).drop a)) 0 ((runes s).take 0 ++ (runes s).drop a) s a w ha.1 ha.2 hae h hk (by omega) (by omega) (by omega) (by omega) (by decide)
          (fun T p b w h => keyed_k16 p b _ _ _ _ _ w h) (fun T => by rw [e1]; rfl) (fun T => by rw [e1]) (fun T => by rw [e1]) (fun E => do_k16 E _ a h0) (by rw [List.take_zero, List.nil_append])
    · have e1 : ∀ T, (dwSt (st1 s a T)).l = dwL (runes s) a ∧ (dwSt (st1 s a T)).at_ = a ∧ (dwSt (st1 s a T)).t = T := fun T => by
        unfold dwSt dwL
        by_cases h0 : a < (runes s).length
        · rw [if_pos (show (st1 s a T).at_ < (st1 s a T).l.length from h0), if_pos h0]; exact ⟨rfl, rfl, rfl⟩
        · rw [if_neg (show ¬ (st1 s a T).at_ < (st1 s a T).l.length from h0), if_neg h0]; exact ⟨rfl, rfl, rfl⟩
      exact one9_step 13 (fun T => dwSt (st1 s a T)) (-1) (runesBytes (dwL (runes s) a)) a (dwL (runes s) a) s a w ha.1 ha.2 hae h hk (by omega) (by omega) (by omega) (by omega) (by decide)
        (fun T p b w h => keyed_k13 p b _ _ _ _ _ w h) (fun T => (e1 T).2.2) (fun T => by rw [(e1 T).1]) (fun T => (e1 T).2.1) (fun E => do_k13 E _ a) rfl
end Go.Proofs.YtlfmmmbafkelhaaDoor
