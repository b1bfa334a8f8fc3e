/- spec.Blanks; rows that are made anew line by line. -/
import Derived.Test.YtpkmamdgpjncoaaDoorSpecT
import Derived.Test.YtpkmamdgpjncoaaDoorFr
namespace Go.Proofs.YtpkmamdgpjncoaaDoor
open Go.RowKit
set_option linter.unusedVariables false
set_option linter.unusedSimpArgs false
set_option linter.unnecessarySimpa false
set_option maxRecDepth 100000

def bcs (k j : Nat) : Array Value := ((List.range k).map fun t => Value.int .u8 (if t < j then 32 else 0)).toArray
theorem bcs_size (k j : Nat) : (bcs k j).size = k := by simp [bcs]
theorem bcs_zero (k : Nat) : bcs k 0 = (List.replicate k (Value.int .u8 0)).toArray := by
  unfold bcs
  congr 1
  apply List.ext_getElem
  · simp
  · intro i h1 h2; simp
theorem bcs_get {k j t : Nat} (h : t < k) : (bcs k j)[t]? = some (.int .u8 (if t < j then 32 else 0)) := by
  unfold bcs
  simp [h]
theorem bcs_set {k j : Nat} (h : j < k) : (bcs k j).setIfInBounds j (.int .u8 32) = bcs k (j + 1) := by
  apply Array.ext
  · simp [bcs]
  · intro i h1 h2
    have hi : i < k := by rw [bcs_size] at h2; exact h2
    rw [Array.getElem_setIfInBounds]
    · by_cases e : j = i
      · subst e
        simp [bcs]
      · rw [if_neg e]
        simp [bcs]
        by_cases h3 : i < j
        · rw [if_pos h3, if_pos (by omega)]
        · rw [if_neg h3, if_neg (by omega)]
    · rw [bcs_size]; exact hi
set_option maxHeartbeats 2000000 in
theorem bln_nat (k : Nat) (w : World) (hk : k ≤ 1000) (h0 : 0 < k) : Calls Tryd.prog 47 #[.int .i64 k] w fun e w' => e = .returned (.string ⟨(blk k).toArray⟩) ∧ Old w w' := by
  have hpos : (0 : Int) < (k : Int) := by omega
  have info_u8 : (Tryd.prog.info? 5).map (fun i => (i.zero, i.size, i.bytes)) = some (some (.int .u8 0), 1, 1) := by kernel_rfl
  have HI := Lib.hid info_u8
  clear info_u8
  go_enter Tryd.func47, Tryd.ntmps47
  go_wp2_with (refine wpList_make_ints rfl _ _ 49 5 .u8 1 rfl Tryd.underlying49 HI.out (by omega) .i64 .i64 k k k rfl rfl rfl rfl (by omega) ?_; intro w1 c1 o1; have C1 := Lib.hid c1.out; have O1 := Lib.hid o1; clear c1 o1)
  go_loopw [4] (fun iv wr => ∃ j : Nat, j ≤ k ∧ iv = .int .i64 j ∧ wr.heap[w.heap.size]? = some (.cells (bcs k j) 5) ∧ Old w wr) (fun iv _ => k - (intOf iv).toNat)
  case atStart => exact ⟨0, Nat.zero_le _, rfl, by rw [bcs_zero]; exact C1.out, O1.out⟩
  case round =>
    obtain ⟨j, hj, rfl, hc, ho⟩ := hrel
    have HC := Lib.hid hc
    have OO := Lib.hid ho
    by_cases hlt : j < k
    · have cj := (fcell hc j).trans (bcs_get hlt)
      have fj := ffree hc j
      clear hc ho
      go_wp2_with fail
      refine ⟨⟨j + 1, by omega, by go_num, by rw [← bcs_set hlt]; exact fset HC.out _, OO.out.stored (Nat.le_refl _) _⟩, ?_⟩
      simp [intOf]; omega
    · have hjk : j = k := by omega
      subst hjk
      have hconv : (convert 49 9 (.slice (some ⟨w.heap.size, 0, none⟩) j j)).run Tryd.prog wr = .ok (.string ⟨(blk j).toArray⟩) wr := by
        have := run_convert_bytes_back (P := Tryd.prog) wr 49 9 5 ⟨w.heap.size, 0, none⟩ j (blk j) Tryd.underlying49 Tryd.underlying5 Tryd.underlying9 (fun t ht => by
          have hadd : (⟨w.heap.size, 0, none⟩ : Addr).add t = ⟨w.heap.size, t, none⟩ := by unfold Addr.add; split <;> simp_all
          have ht2 : t < j := by rwa [blk_len] at ht
          rw [hadd, fcell hc t, bcs_get ht2, if_pos ht2]
          simp [blk])
        rwa [blk_len] at this
      clear hc ho
      go_wp2_with fail
      go_ret
      exact ⟨rfl, OO.out⟩
set_option maxHeartbeats 2000000 in
theorem bln_neg (z : Int) (w : World) (hz : z < 0) : Calls Tryd.prog 47 #[.int .i64 z] w fun e w' => e = .returned (.string ⟨(blk 0).toArray⟩) ∧ Old w w' := by
  have info_u8 : (Tryd.prog.info? 5).map (fun i => (i.zero, i.size, i.bytes)) = some (some (.int .u8 0), 1, 1) := by kernel_rfl
  have HI := Lib.hid info_u8
  clear info_u8
  go_enter Tryd.func47, Tryd.ntmps47
  go_wp2_with (refine wpList_make_ints rfl _ _ 49 5 .u8 1 rfl Tryd.underlying49 HI.out (by omega) .i64 .i64 0 0 0 rfl rfl rfl rfl (by omega) ?_; intro w1 c1 o1; have C1 := Lib.hid c1.out; have O1 := Lib.hid o1; clear c1 o1)
  go_loopw [4] (fun iv wr => ∃ j : Nat, j ≤ 0 ∧ iv = .int .i64 j ∧ wr.heap[w.heap.size]? = some (.cells (bcs 0 j) 5) ∧ Old w wr) (fun iv _ => 0 - (intOf iv).toNat)
  case atStart => exact ⟨0, Nat.zero_le _, rfl, by rw [bcs_zero]; exact C1.out, O1.out⟩
  case round =>
    obtain ⟨j, hj, rfl, hc, ho⟩ := hrel
    have HC := Lib.hid hc
    have OO := Lib.hid ho
    by_cases hlt : j < 0
    · exact absurd hlt (by omega)
    · have hjk : j = 0 := by omega
      subst hjk
      have hconv : (convert 49 9 (.slice (some ⟨w.heap.size, 0, none⟩) 0 0)).run Tryd.prog wr = .ok (.string ⟨(blk 0).toArray⟩) wr := by
        have := run_convert_bytes_back (P := Tryd.prog) wr 49 9 5 ⟨w.heap.size, 0, none⟩ 0 (blk 0) Tryd.underlying49 Tryd.underlying5 Tryd.underlying9 (fun t ht => absurd ht (by simp [blk]))
        rwa [blk_len] at this
      clear hc ho
      go_wp2_with fail
      go_ret
      exact ⟨rfl, OO.out⟩
set_option maxHeartbeats 2000000 in
theorem bln_zero (w : World) : Calls Tryd.prog 47 #[.int .i64 0] w fun e w' => e = .returned (.string ⟨(blk 0).toArray⟩) ∧ Old w w' := by
  have info_u8 : (Tryd.prog.info? 5).map (fun i => (i.zero, i.size, i.bytes)) = some (some (.int .u8 0), 1, 1) := by kernel_rfl
  have HI := Lib.hid info_u8
  clear info_u8
  go_enter Tryd.func47, Tryd.ntmps47
  go_wp2_with (refine wpList_make_ints rfl _ _ 49 5 .u8 1 rfl Tryd.underlying49 HI.out (by omega) .i64 .i64 0 0 0 rfl rfl rfl rfl (by omega) ?_; intro w1 c1 o1; have C1 := Lib.hid c1.out; have O1 := Lib.hid o1; clear c1 o1)
  go_loopw [4] (fun iv wr => ∃ j : Nat, j ≤ 0 ∧ iv = .int .i64 j ∧ wr.heap[w.heap.size]? = some (.cells (bcs 0 j) 5) ∧ Old w wr) (fun iv _ => 0 - (intOf iv).toNat)
  case atStart => exact ⟨0, Nat.zero_le _, rfl, by rw [bcs_zero]; exact C1.out, O1.out⟩
  case round =>
    obtain ⟨j, hj, rfl, hc, ho⟩ := hrel
    have HC := Lib.hid hc
    have OO := Lib.hid ho
    by_cases hlt : j < 0
    · exact absurd hlt (by omega)
    · have hjk : j = 0 := by omega
      subst hjk
      have hconv : (convert 49 9 (.slice (some ⟨w.heap.size, 0, none⟩) 0 0)).run Tryd.prog wr = .ok (.string ⟨(blk 0).toArray⟩) wr := by
        have := run_convert_bytes_back (P := Tryd.prog) wr 49 9 5 ⟨w.heap.size, 0, none⟩ 0 (blk 0) Tryd.underlying49 Tryd.underlying5 Tryd.underlying9 (fun t ht => absurd ht (by simp [blk]))
        rwa [blk_len] at this
      clear hc ho
      go_wp2_with fail
      go_ret
      exact ⟨rfl, OO.out⟩
theorem bln_any (z : Int) (w : World) (h1 : z ≤ 1000) : Calls Tryd.prog 47 #[.int .i64 z] w fun e w' => e = .returned (.string ⟨(blk z.toNat).toArray⟩) ∧ Old w w' := by
  by_cases h : z < 0
  · rw [show z.toNat = 0 by omega]
    exact bln_neg z w h
  · by_cases h0 : z = 0
    · subst h0
      exact bln_zero w
    · obtain ⟨k, rfl⟩ : ∃ k : Nat, z = k := ⟨z.toNat, by omega⟩
      rw [Int.toNat_natCast]
      exact bln_nat k w (by omega) (by omega)
/-- A text of an owned row is set. -/
theorem own_set {w : World} {base b n c k : Nat} {e : TypeId} {xs : List Value} (h : w.ownsRow base e 1 (.slice (some ⟨b, 0, none⟩) n c) n xs) (v : Value) : (w.setCell ⟨b, k, none⟩ v).ownsRow base e 1 (.slice (some ⟨b, 0, none⟩) n c) n (xs.set k v) := by
  have hl := h.1
  rcases h.2 with ⟨hv, _⟩ | ⟨g, cap, cur, hv, h1, h2, h3, h4, h5, h6⟩
  · cases hv
  · injection hv with e1 e2 e3
    injection e1 with e1
    injection e1 with e1
    subst e1 e3
    refine ⟨by rw [List.length_set]; exact hl, .inr ⟨b, c, cur.setIfInBounds k v, rfl, h1, fset h2 v, h3, h4, by simpa using h5, ?_⟩⟩
    rw [Array.toList_setIfInBounds, List.take_set, h6]
theorem own_fr {w : World} {base b n c : Nat} {e : TypeId} {xs : List Value} (h : w.ownsRow base e 1 (.slice (some ⟨b, 0, none⟩) n c) n xs) (k : Nat) : w.frozen? ⟨b, k, none⟩ = false := by
  rcases h.2 with ⟨hv, _⟩ | ⟨g, cap, cur, hv, h1, h2, h3⟩
  · cases hv
  · injection hv with e1 e2 e3
    injection e1 with e1
    injection e1 with e1
    subst e1
    exact ffree h2 k
/-- Rows of which the first k were made anew. -/
def preR (g : List UInt8 → List UInt8) (L : List (List UInt8)) (k : Nat) : List (List UInt8) := (mapRows g L).take k ++ L.drop k
theorem preR_len (g : List UInt8 → List UInt8) (L : List (List UInt8)) (k : Nat) : (preR g L k).length = L.length := by
  unfold preR
  rw [List.length_append, List.length_take, List.length_drop, mapRows_len]
  omega
theorem preR_zero (g : List UInt8 → List UInt8) (L : List (List UInt8)) : preR g L 0 = L := by simp [preR]
theorem preR_all (g : List UInt8 → List UInt8) (L : List (List UInt8)) : preR g L L.length = mapRows g L := by
  unfold preR
  rw [List.drop_length, List.append_nil, ← mapRows_len g L, List.take_length]
theorem preR_at (g : List UInt8 → List UInt8) {L : List (List UInt8)} {k : Nat} (h : k < L.length) (h2 : k < (preR g L k).length) : (preR g L k)[k] = L[k] := by
  have e : (preR g L k)[k]? = L[k]? := by
    unfold preR
    have hl : ((mapRows g L).take k).length = k := by rw [List.length_take, mapRows_len]; omega
    rw [List.getElem?_append_right (by omega), hl]
    simp
  rw [List.getElem?_eq_getElem h2, List.getElem?_eq_getElem h] at e
  exact Option.some.inj e
theorem preR_succ (g : List UInt8 → List UInt8) {L : List (List UInt8)} {k : Nat} (h : k < L.length) : preR g L (k + 1) = (preR g L k).set k ((mapRows g L)[k]'(by rw [mapRows_len]; exact h)) := by
  unfold preR
  have hl : ((mapRows g L).take k).length = k := by rw [List.length_take, mapRows_len]; omega
  rw [List.take_succ_eq_append_getElem (by rw [mapRows_len]; exact h), List.drop_eq_getElem_cons h, List.set_append_right _ _ (by omega), hl, Nat.sub_self, List.set_cons_zero, List.append_assoc]
  rfl
theorem mapRows_at (g : List UInt8 → List UInt8) : ∀ {L : List (List UInt8)} {k : Nat} (h : k < L.length) (h2 : k < (mapRows g L).length), (mapRows g L)[k] = if k + 1 < L.length ∨ L[k] ≠ [] then g L[k] else []
  | [], k, h, _ => absurd h (by simp)
  | [a], 0, _, _ => by
    show (if a = [] then [] else g a) = _
    by_cases e : a = [] <;> simp [e]
  | [a], k + 1, h, _ => absurd h (by simp)
  | a :: b :: t, 0, _, _ => by
    show g a = _
    rw [if_pos (Or.inl (by simp))]
    rfl
  | a :: b :: t, k + 1, h, h2 => by
    have ih := mapRows_at g (L := b :: t) (k := k) (by simpa using h) (by rw [mapRows_len]; simpa using h)
    show (mapRows g (b :: t))[k]'(by rw [mapRows_len]; simpa using h) = _
    rw [ih]
    simp
theorem rowV_set (L : List (List UInt8)) (k : Nat) (a : List UInt8) : (rowV L).set k (.string ⟨a.toArray⟩) = rowV (L.set k a) := by
  unfold rowV
  rw [List.map_set]
end Go.Proofs.YtpkmamdgpjncoaaDoor
