/- laws.after9: the line behind some steps on a line. -/
import Derived.Test.YtlfmmmbafkelhaaDoorKeyedA
namespace Go.Proofs.YtlfmmmbafkelhaaDoor
open Go.RowKit
set_option linter.unusedVariables false
set_option linter.unusedSimpArgs false
set_option maxRecDepth 100000

theorem info_key : (Tryd.prog.info? 28).map (fun i => (i.zero, i.size, i.bytes)) = some (some (.agg #[.int .i64 0, .string ByteArray.empty, .int .i64 0, .bool false, .bool false]), 5, 40) := by kernel_rfl
theorem info_parts5 {o : Option TypeInfo} {z : Value} {sz by_ : Nat} (h : o.map (fun i => (i.zero, i.size, i.bytes)) = some (some z, sz, by_)) : ∃ i, o = some i ∧ i.zero = some z ∧ i.size = sz ∧ i.bytes = by_ := by
  cases o with
  | none => cases h
  | some i => simp at h; exact ⟨i, rfl, h.1, h.2.1, h.2.2⟩

theorem key_own {w : World} {C : Array Value} {g : Nat} (h : w.heap[g]? = some (.cells C 28)) (hc : C.size = 5) {base : Nat} (hb : base ≤ g) : w.ownsRow base 28 5 (.slice (some ⟨g, 0, none⟩) 1 1) 1 C.toList :=
  ⟨by simp [hc], .inr ⟨g, 1, C, rfl, hb, h, Nat.le_refl _, by unfold maxLen; omega, by omega, by rw [List.take_of_length_le (by simp [hc])]⟩⟩

/-- The cells of some steps, one behind the other. -/
def keyCells (ks : Nat → KeyS) (m : Nat) : List Value := (List.range m).flatMap (fun j => (ks j).cs)
theorem KeyS.cs_length (k : KeyS) : k.cs.length = 5 := rfl
theorem keyCells_succ (ks : Nat → KeyS) (m : Nat) : keyCells ks (m + 1) = keyCells ks m ++ (ks m).cs := by simp [keyCells, List.range_succ]
theorem length_keyCells (ks : Nat → KeyS) (m : Nat) : (keyCells ks m).length = m * 5 := by
  induction m with
  | zero => rfl
  | succ m ih => rw [keyCells_succ, List.length_append, ih, KeyS.cs_length]; omega
theorem keyCells_at (ks : Nat → KeyS) : ∀ (m j i : Nat), j < m → i < 5 → (keyCells ks m)[j * 5 + i]? = some ((ks j).cs.getD i undef)
  | 0, _, _, h, _ => absurd h (by omega)
  | m + 1, j, i, h, hi => by
    rw [keyCells_succ]
    by_cases e : j < m
    · rw [List.getElem?_append_left (by rw [length_keyCells]; omega)]
      exact keyCells_at ks m j i e hi
    · obtain rfl : j = m := by omega
      rw [List.getElem?_append_right (by rw [length_keyCells]; omega), length_keyCells, Nat.add_sub_cancel_left]
      have hl : i < (ks j).cs.length := hi
      simp [List.getD, List.getElem?_eq_getElem hl]
theorem keyCells_cons (ks : Nat → KeyS) (m : Nat) : keyCells ks (m + 1) = (ks 0).cs ++ keyCells (fun j => ks (j + 1)) m := by
  induction m with
  | zero => simp [keyCells]
  | succ m ih => rw [keyCells_succ, ih, keyCells_succ (fun j => ks (j + 1)) m, List.append_assoc]
theorem keyCells_one (ks : Nat → KeyS) (m : Nat) : ∀ u ∈ keyCells ks m, u.oneCell' = true := by
  intro u hu
  obtain ⟨j, _, h⟩ := List.mem_flatMap.1 hu
  unfold KeyS.cs at h
  simp at h
  rcases h with rfl | rfl | rfl | rfl | rfl <;> rfl

theorem keys_of_own {w : World} {base : Nat} {v : Value} {n : Nat} {ks : Nat → KeyS} (h : w.ownsRow base 28 5 v n (keyCells ks n)) (hn : 1 ≤ n) : KeysAt w v n ks := by
  have hc := fun g hg => h.cells (g := g) hg
  rcases h.2 with ⟨_, h0⟩ | ⟨g, cap, cur, rfl, _, _, h3, h4, _⟩
  · omega
  · refine ⟨g, 0, cap, rfl, h3, h4, fun j hj i hi => ?_⟩
    have := hc g rfl (j * 5 + i) _ (keyCells_at ks n j i hj hi)
    have hadd : (⟨g, 0, none⟩ : Addr).add (j * 5 + i) = ⟨g, 0 + j * 5 + i, none⟩ := by unfold Addr.add; split <;> simp_all [Nat.add_assoc]
    rwa [hadd] at this

theorem news_of {w : World} {lb m : Nat} {ks : Nat → KeyS} (h : ∀ j, j < m → ∀ i, i < 5 → w.cell? ⟨lb, j * 5 + i, none⟩ = some ((ks j).cs.getD i undef)) : ∀ j u, (keyCells ks m)[j]? = some u → w.cell? ((⟨lb, 0, none⟩ : Addr).add j) = some u := by
  intro j u hu
  have hadd : (⟨lb, 0, none⟩ : Addr).add j = ⟨lb, j, none⟩ := by clear hu; unfold Addr.add; split <;> simp_all
  have hj : j < m * 5 := by
    have := (List.getElem?_eq_some_iff.1 hu).1
    rwa [length_keyCells] at this
  have e : j = j / 5 * 5 + j % 5 := by omega
  rw [hadd]
  have h2 := keyCells_at ks m (j / 5) (j % 5) (by omega) (by omega)
  rw [← e, hu] at h2
  rw [h2]
  have h3 := h (j / 5) (by omega) (j % 5) (by omega)
  rwa [← e] at h3

theorem pair_set {w : World} {g : Nat} {a b x y : Value} {t : TypeId} (h : w.heap[g]? = some (.cells #[a, b] t)) : ((w.setCell ⟨g, 0, none⟩ x).setCell ⟨g, 1, none⟩ y).heap[g]? = some (.cells #[x, y] t) := by
  have h0 := heap_setCell_at h (j := 0) x
  have h1 := heap_setCell_at h0 (j := 1) y
  simpa using h1

set_option maxHeartbeats 1000000 in
theorem after_any (lb m : Nat) (ks : Nat → KeyS) (sts : Nat → Nat → St) (tl : Nat → Int) (s : ByteArray) (k : Nat) (w : World) (hlv : ∀ j, j < m → ∀ i, i < 5 → w.cell? ⟨lb, j * 5 + i, none⟩ = some ((ks (j + 1)).cs.getD i undef)) (hm : 1 ≤ m) (hm2 : m ≤ 900)
    (h0 : ks 0 = setk s k) (ht0 : tl 0 = -1) (h1 : ∀ T, sts T 1 = ⟨runes s, k, [], T⟩) (hs : s.size ≤ 1000) (hk : k ≤ (runes s).length) (hl : (runes s).length ≤ 1000)
    (hst : ∀ T j, 1 ≤ j → j < m + 1 → ∀ p b w, RB w p b (sts T j) → Keyed p b (ks j) (sts T (j + 1)) (tl j) w) (htt : ∀ T j, (sts T j).t = T) :
    Calls Tryd.prog 14 #[.agg #[.string s, .int .i64 k], .slice (some ⟨lb, 0, none⟩) m m] w fun e w' => ∃ T, e = .returned (.tuple #[.agg #[.string (runesBytes (sts T (m + 1)).l), .int .i64 (sts T (m + 1)).at_], .bool true]) ∧ Old w w' := by
  have HLV := Lib.hid hlv
  have hlb := World.block_lt_of_cell? w _ (hlv 0 hm 0 (by omega))
  dsimp only at hlb
  have C := Lib.hid (fun (v : Value) (W : World) (hv : KeysAt W v (m + 1) ks) => all_any v (m + 1) ks sts tl s k W hv (by omega) (by omega) h0 ht0 h1 hs hk hl hst htt)
  have H0 := Lib.hid h0
  clear hlv hst htt h1 h0
  go_enter Tryd.func14, Tryd.ntmps14
  go_wp2_with (first
    | (at_builtin; (obtain ⟨i, hi, hz, hsz, hby⟩ := info_parts5 info_key; refine wpList_append_own _ rfl _ _ 29 rfl w.heap.size 28 i _ 5 40 Tryd.underlying29 hi hz hsz hby rfl (by decide) (.slice (some ⟨w.heap.size + 1 + 1, 0, none⟩) 1 1) 1 (setk s k).cs rfl (key_own (at_new _ _ (by simp)) rfl (by omega)) ⟨lb, 0, none⟩ m m (keyCells (fun j => ks (j + 1)) m) rfl (length_keyCells _ _) (news_of (fun j hj i hi => ((((Old.alloc w _).trans (Old.alloc _ _)).trans (Old.alloc _ _)).cell hlb).trans (HLV.out j hj i hi))) (keyCells_one _ _) (by unfold maxLen; omega) (by omega) (by simp; omega) ?_)
       (intro v' w' hown' hgrow _; have O1 := Lib.hid ((((Old.alloc w _).trans (Old.alloc _ _)).trans (Old.alloc _ _)).grown hgrow (fun q hq => by have hq2 : w.heap.size + 1 + 1 = q := Option.some.inj hq; omega)); have KA : Hid (KeysAt w' v' (m + 1) ks) := keys_of_own (base := w.heap.size) (by rw [keyCells_cons, H0.out, Nat.add_comm m 1]; exact hown') (by omega); have g0 : w'.heap[w.heap.size + 1]? = some (.cells #[.string { data := #[] }, .int .i64 0] 23) := (hgrow.block (w.heap.size + 1) (by simp) (by simp [Value.ownBlock])).trans (at_alloc (at_new _ _ (by simp))); have G0 := Lib.hid g0)
       clear hown' hgrow g0 HLV H0)
    | (go_at_call 31; refine (C.out _ _ KA.out).mono ?_; rintro e w2 ⟨tv, T, rfl, o2, hrow⟩
       have O2 := Lib.hid (O1.out.trans o2)
       have hlt0 := (Array.getElem?_eq_some_iff.1 G0.out).1
       have g2 := (o2.heap hlt0).trans G0.out
       have f1 : ∀ o, (w2.alloc o).cell? ⟨w.heap.size + 1, 0, none⟩ = some (.string { data := #[] }) := fun o => cell_of_heap (at_alloc g2) 0
       have f2 : ∀ o, (w2.alloc o).cell? ⟨w.heap.size + 1, 1, none⟩ = some (.int .i64 0) := fun o => cell_of_heap (at_alloc g2) 1
       have f3 : ∀ o, (w2.alloc o).frozen? ⟨w.heap.size + 1, 0, none⟩ = false := fun o => free_of_heap (at_alloc g2) 0
       have f4 : ∀ o, (w2.alloc o).frozen? ⟨w.heap.size + 1, 1, none⟩ = false := fun o => free_of_heap (at_alloc g2) 1
       have G2 := Lib.hid g2
       clear o2 hrow G0 O1 KA C g2))
  have e1 := pair_set (x := .string (runesBytes (sts T (m + 1)).l)) (y := .int .i64 (sts T (m + 1)).at_) (at_alloc (o := (.cells #[.string (runesBytes (sts T (m + 1)).l), .int .i64 (sts T (m + 1)).at_] 23)) G2.out)
  have e2 : Hid (Old w (((w2.alloc (.cells #[.string (runesBytes (sts T (m + 1)).l), .int .i64 (sts T (m + 1)).at_] 23)).setCell ⟨w.heap.size + 1, 0, none⟩ (.string (runesBytes (sts T (m + 1)).l))).setCell ⟨w.heap.size + 1, 1, none⟩ (.int .i64 (sts T (m + 1)).at_))) :=
    ((O2.out.trans (Old.alloc _ _)).stored (by simp) _).stored (by simp) _
  clear f1 f2 f3 f4 G2 O2
  generalize (((w2.alloc (.cells #[.string (runesBytes (sts T (m + 1)).l), .int .i64 (sts T (m + 1)).at_] 23)).setCell ⟨w.heap.size + 1, 0, none⟩ (.string (runesBytes (sts T (m + 1)).l))).setCell ⟨w.heap.size + 1, 1, none⟩ (.int .i64 (sts T (m + 1)).at_)) = w5 at e1 e2 ⊢
  have g0 := cell_of_heap e1 0
  have g1 := cell_of_heap e1 1
  simp only [List.getElem?_toArray, List.getElem?_cons_zero, List.getElem?_cons_succ] at g0 g1
  refine bodyPost_ret (v := .tuple #[.agg #[.string (runesBytes (sts T (m + 1)).l), .int .i64 (sts T (m + 1)).at_], .bool true]) ?_ rfl ?_
  · simp [results, Tryd.results14, go_sem, g0, g1]
  · exact ⟨T, rfl, e2.out⟩
end Go.Proofs.YtlfmmmbafkelhaaDoor
