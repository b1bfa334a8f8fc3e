/- readline.zzSplit9: a text cut at a byte. -/
import Derived.Test.YthfjkaeenpbebaaDoorProg
import Derived.Test.YthfjkaeenpbebaaDoorBase
import Derived.Test.YthfjkaeenpbebaaDoorApp
import Derived.LoopTactic
namespace Go.Proofs.YthfjkaeenpbebaaDoor
open Go.RowKit
set_option linter.unusedVariables false
set_option linter.unusedSimpArgs false
set_option linter.unnecessarySimpa false
set_option maxRecDepth 100000

/-- The parts up to place k, and where the next one begins. -/
def sp (s : ByteArray) (c : Int) : Nat → List ByteArray × Nat
  | 0 => ([], 0)
  | k + 1 => if gi (nums s) k = c then ((sp s c k).1 ++ [s.extract (sp s c k).2 k], k + 1) else sp s c k
def spAll (s : ByteArray) (c : Int) : List ByteArray := (sp s c s.size).1 ++ [s.extract (sp s c s.size).2 s.size]
theorem sp_le (s : ByteArray) (c : Int) : ∀ k, (sp s c k).2 ≤ k
  | 0 => Nat.le_refl _
  | k + 1 => by
    have := sp_le s c k
    unfold sp
    split
    · exact Nat.le_refl _
    · omega
theorem sp_len (s : ByteArray) (c : Int) : ∀ k, (sp s c k).1.length ≤ k
  | 0 => Nat.le_refl _
  | k + 1 => by
    have := sp_len s c k
    unfold sp
    split
    · simp; omega
    · omega
theorem sp_yes {s : ByteArray} {c : Int} {k : Nat} (h : gi (nums s) k = c) : sp s c (k + 1) = ((sp s c k).1 ++ [s.extract (sp s c k).2 k], k + 1) := by rw [sp, if_pos h]
theorem sp_no {s : ByteArray} {c : Int} {k : Nat} (h : ¬ gi (nums s) k = c) : sp s c (k + 1) = sp s c k := by rw [sp, if_neg h]
theorem sp_run {s : ByteArray} {c : Int} {i : Nat} : ∀ n, (∀ k, i ≤ k → k < i + n → ¬ gi (nums s) k = c) → sp s c (i + n) = sp s c i
  | 0, _ => rfl
  | n + 1, h => by rw [← Nat.add_assoc, sp_no (h (i + n) (by omega) (by omega))]; exact sp_run n (fun k h1 h2 => h k h1 (by omega))

theorem info_s9 : (Tryd.prog.info? 9).map (fun i => (i.zero, i.size, i.bytes)) = some (some (.string ByteArray.empty), 1, 16) := by kernel_rfl
/-- A slice of strings that the call has made. -/
def RowS (w : World) (r : Value) (l : List ByteArray) : Prop := ∃ b c, r = .slice (some ⟨b, 0, none⟩) l.length c ∧ b < w.heap.size ∧ ∀ j, j < l.length → w.cell? ⟨b, j, none⟩ = some (.string (gs l j))
theorem RowS.of_own {w : World} {base : Nat} {e : TypeId} {v : Value} {n : Nat} {l : List ByteArray} (h : w.ownsRow base e 1 v n (l.map Value.string)) (hn : 1 ≤ n) : RowS w v l := by
  have hl : l.length = n := by have := h.1; simpa using this
  obtain ⟨b, c, rfl⟩ := own_some h hn
  refine ⟨b, c, by rw [hl], (own_lt h).2.1, fun j hj => ?_⟩
  rw [own_cell h j (by omega), gv_lt (by simpa using hj)]
  simp [gs_lt hj]
theorem RowS.old {w w' : World} {r : Value} {l : List ByteArray} (h : RowS w r l) (o : Old w w') : RowS w' r l := by
  obtain ⟨b, c, h1, h2, h3⟩ := h
  exact ⟨b, c, h1, Nat.lt_of_lt_of_le h2 o.size, fun j hj => (o.cell h2).trans (h3 j hj)⟩

set_option maxHeartbeats 1000000 in
theorem split9_any (s : ByteArray) (c : Int) (w : World) (hs : s.size ≤ 1000) (hc : 0 ≤ c) (hc2 : c < 128) :
    Calls Tryd.prog 54 #[.string s, .int .u8 c] w fun e w' => ∃ r, e = .returned r ∧ RowS w' r (spAll s c) ∧ Old w w' := by
  go_enter Tryd.func54, Tryd.ntmps54
  go_wp2_with fail
  go_loopw [5, 6, 7] (fun o f i wr => ∃ k : Nat, k ≤ s.size ∧ i = .int .i64 k ∧ f = .int .i64 (sp s c k).2 ∧ wr.ownsRow w.heap.size 9 1 o (sp s c k).1.length ((sp s c k).1.map Value.string) ∧ Old w wr) (fun _ _ i _ => s.size - (intOf i).toNat)
  case atStart => exact ⟨0, Nat.zero_le _, rfl, rfl, by simpa [sp] using World.ownsRow_nil w w.heap.size 9 1, Old.refl _⟩
  case round =>
    obtain ⟨k, hk, rfl, rfl, hown, hold⟩ := hrel
    have HW := Lib.hid hown
    have HO := Lib.hid hold
    have hle := sp_le s c k
    have hln := sp_len s c k
    clear hown hold
    by_cases hks : k < s.size
    · have hx := gi_nums hks
      by_cases he : gi (nums s) k = c
      · have Y := Lib.hid (sp_yes he)
        have E1 : ((s[k].toNat : Int) == c) = true := by rw [← hx, he]; simp
        obtain ⟨f, hf⟩ : ∃ f, f = (sp s c k).2 := ⟨_, rfl⟩
        obtain ⟨L, hL⟩ : ∃ L, L = (sp s c k).1 := ⟨_, rfl⟩
        rw [← hf, ← hL] at Y
        rw [← hf] at hle ⊢
        rw [← hL] at HW hln
        clear hf hL hx he
        go_wp2_with (at_builtin; refine wpList_append1 rfl _ _ 35 9 9 (.string ByteArray.empty) _ 16 rfl Tryd.underlying35 info_s9 rfl w.heap.size _ L.length _ rfl HW.out rfl rfl (by omega) (by omega) HO.out.size ?_; intro v' w3 hown1 hg1 hv1; have HW1 := Lib.hid hown1; have HG1 := Lib.hid hg1; clear hown1 hg1 hv1)
        go_roundw
        case rel =>
          refine ⟨k + 1, by omega, by go_num, by rw [Y.out]; go_num, ?_, HO.out.own (Nat.le_refl _) HW.out HG1.out⟩
          rw [Y.out, List.length_append, List.map_append]
          exact HW1.out
        case measure => simp [intOf]; omega
      · have Y := Lib.hid (sp_no he)
        have E1 : ((s[k].toNat : Int) == c) = false := by rw [← hx, beq_eq_false_iff_ne]; exact he
        clear hx he
        go_wp2_with fail
        go_roundw
        case rel => exact ⟨k + 1, by omega, by go_num, by rw [Y.out], by rw [Y.out]; exact HW.out, HO.out⟩
        case measure => simp [intOf]; omega
    · have hks' : k = s.size := by omega
      subst hks'
      obtain ⟨f, hf⟩ : ∃ f, f = (sp s c s.size).2 := ⟨_, rfl⟩
      obtain ⟨L, hL⟩ : ∃ L, L = (sp s c s.size).1 := ⟨_, rfl⟩
      have HF := Lib.hid hf
      have HL := Lib.hid hL
      rw [← hf] at hle ⊢
      rw [← hL] at HW hln
      clear hf hL
      go_wp2_with (at_builtin; refine wpList_append1 rfl _ _ 35 9 9 (.string ByteArray.empty) _ 16 rfl Tryd.underlying35 info_s9 rfl w.heap.size _ L.length _ rfl HW.out rfl rfl (by omega) (by omega) HO.out.size ?_; intro v' w3 hown1 hg1 hv1; have HW1 := Lib.hid hown1; have HG1 := Lib.hid hg1; clear hown1 hg1 hv1)
      go_ret
      have hw1 := HW1.out
      refine ⟨_, rfl, ?_, HO.out.own (Nat.le_refl _) HW.out HG1.out⟩
      unfold spAll
      rw [← HF.out, ← HL.out]
      exact RowS.of_own (n := L.length + 1) (by rw [List.map_append]; exact hw1) (by omega)

/-- Two parts. -/
theorem spAll_two {a b : ByteArray} {c : Int} (ha : ∀ k, k < a.size → ¬ gi (nums a) k = c) (hb : ∀ k, k < b.size → ¬ gi (nums b) k = c) (q : ByteArray) (hq : q.size = 1) (hqc : gi (nums q) 0 = c) :
    spAll (a ++ q ++ b) c = [a, b] := by
  have hs : (a ++ q ++ b).size = a.size + 1 + b.size := by rw [ByteArray.size_append, ByteArray.size_append, hq]
  have hn : nums (a ++ q ++ b) = nums a ++ (nums q ++ nums b) := by unfold nums; rw [ByteArray.data_append, ByteArray.data_append]; simp
  have g1 : ∀ k, k < a.size → gi (nums (a ++ q ++ b)) k = gi (nums a) k := fun k hk => by
    rw [hn]; simp [gi, List.getD, List.getElem?_append, length_nums, hk]
  have g2 : gi (nums (a ++ q ++ b)) a.size = c := by
    rw [hn, ← hqc]; simp [gi, List.getD, List.getElem?_append, length_nums, hq]
  have g3 : ∀ k, k < b.size → gi (nums (a ++ q ++ b)) (a.size + 1 + k) = gi (nums b) k := fun k hk => by
    rw [hn]
    have h1 : ¬ (a.size + 1 + k < a.size) := by omega
    have h2 : ¬ (a.size + 1 + k - a.size < 1) := by omega
    have h3 : a.size + 1 + k - a.size - 1 = k := by omega
    simp only [gi, List.getD, List.getElem?_append, length_nums, hq, h1, h2, if_false, h3]
  have s1 : sp (a ++ q ++ b) c a.size = ([], 0) := by
    have := sp_run (s := a ++ q ++ b) (c := c) (i := 0) a.size (fun k _ hk => by rw [g1 k (by omega)]; exact ha k (by omega))
    rw [Nat.zero_add] at this
    rw [this]; rfl
  have s2 : sp (a ++ q ++ b) c (a.size + 1) = ([a], a.size + 1) := by
    rw [sp_yes g2, s1]
    have e : (a ++ q ++ b).extract 0 a.size = a := by rw [ByteArray.append_assoc]; exact ByteArray.extract_append_eq_left rfl
    show ([] ++ [(a ++ q ++ b).extract 0 a.size], _) = _
    rw [e]; rfl
  have s3 : sp (a ++ q ++ b) c (a.size + 1 + b.size) = ([a], a.size + 1) := by
    rw [sp_run b.size (fun k h1 h2 => by
      have := g3 (k - (a.size + 1)) (by omega)
      rw [show a.size + 1 + (k - (a.size + 1)) = k by omega] at this
      rw [this]; exact hb _ (by omega)), s2]
  unfold spAll
  rw [hs, s3]
  have e : (a ++ q ++ b).extract (a.size + 1) (a.size + 1 + b.size) = b := ByteArray.extract_append_eq_right (by rw [ByteArray.size_append, hq]) (by rw [ByteArray.size_append, hq])
  show [a] ++ [(a ++ q ++ b).extract (a.size + 1) (a.size + 1 + b.size)] = _
  rw [e]; rfl
/-- A part more. -/
theorem spAll_more {s t q : ByteArray} {c : Int} (ht : ∀ k, k < t.size → ¬ gi (nums t) k = c) (hq : q.size = 1) (hqc : gi (nums q) 0 = c) : spAll (s ++ q ++ t) c = spAll s c ++ [t] := by
  have hs : (s ++ q ++ t).size = s.size + 1 + t.size := by rw [ByteArray.size_append, ByteArray.size_append, hq]
  have hn : nums (s ++ q ++ t) = nums s ++ (nums q ++ nums t) := by unfold nums; rw [ByteArray.data_append, ByteArray.data_append]; simp
  have g1 : ∀ k, k < s.size → gi (nums (s ++ q ++ t)) k = gi (nums s) k := fun k hk => by
    rw [hn]; simp [gi, List.getD, List.getElem?_append, length_nums, hk]
  have g2 : gi (nums (s ++ q ++ t)) s.size = c := by
    rw [hn, ← hqc]; simp [gi, List.getD, List.getElem?_append, length_nums, hq]
  have g3 : ∀ k, k < t.size → gi (nums (s ++ q ++ t)) (s.size + 1 + k) = gi (nums t) k := fun k hk => by
    rw [hn]
    have h1 : ¬ (s.size + 1 + k < s.size) := by omega
    have h2 : ¬ (s.size + 1 + k - s.size < 1) := by omega
    have h3 : s.size + 1 + k - s.size - 1 = k := by omega
    simp only [gi, List.getD, List.getElem?_append, length_nums, hq, h1, h2, if_false, h3]
  have e0 : ∀ i j, j ≤ s.size → (s ++ q ++ t).extract i j = s.extract i j := fun i j hj => by
    rw [ByteArray.append_assoc, ByteArray.extract_append, show j - s.size = 0 by omega]
    have hz : ((q ++ t).extract (i - s.size) 0).size = 0 := by rw [ByteArray.size_extract]; omega
    rw [ByteArray.size_eq_zero_iff.1 hz, ByteArray.append_empty]
  have s1 : ∀ k, k ≤ s.size → sp (s ++ q ++ t) c k = sp s c k := by
    intro k
    induction k with
    | zero => intro _; rfl
    | succ k ih =>
      intro hk
      have ih := ih (by omega)
      by_cases h : gi (nums s) k = c
      · rw [sp_yes h, sp_yes (by rw [g1 k (by omega)]; exact h), ih, e0 _ _ (by omega)]
      · rw [sp_no h, sp_no (by rw [g1 k (by omega)]; exact h), ih]
  have s2 : sp (s ++ q ++ t) c (s.size + 1) = (spAll s c, s.size + 1) := by
    rw [sp_yes g2, s1 _ (Nat.le_refl _), e0 _ _ (Nat.le_refl _)]; rfl
  have s3 : sp (s ++ q ++ t) c (s.size + 1 + t.size) = (spAll s c, s.size + 1) := by
    rw [sp_run t.size (fun k h1 h2 => by
      have := g3 (k - (s.size + 1)) (by omega)
      rw [show s.size + 1 + (k - (s.size + 1)) = k by omega] at this
      rw [this]; exact ht _ (by omega)), s2]
  have e : (s ++ q ++ t).extract (s.size + 1) (s.size + 1 + t.size) = t := ByteArray.extract_append_eq_right (by rw [ByteArray.size_append, hq]) (by rw [ByteArray.size_append, hq])
  show (sp (s ++ q ++ t) c (s ++ q ++ t).size).1 ++ [(s ++ q ++ t).extract (sp (s ++ q ++ t) c (s ++ q ++ t).size).2 (s ++ q ++ t).size] = _
  rw [hs, s3]
  show spAll s c ++ [(s ++ q ++ t).extract (s.size + 1) (s.size + 1 + t.size)] = _
  rw [e]
end Go.Proofs.YthfjkaeenpbebaaDoor
