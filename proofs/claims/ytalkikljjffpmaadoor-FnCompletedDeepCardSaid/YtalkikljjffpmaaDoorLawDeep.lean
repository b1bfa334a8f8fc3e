/- FnCompletedDeep: behind two whole words and blanks a completer offers what is left of the words that may follow (printed by mklawdeep.py). -/
import Derived.Test.YtalkikljjffpmaaDoorCmp4
import Derived.Test.YtalkikljjffpmaaDoorDeepS
import Derived.Test.YtalkikljjffpmaaDoorNames9
import Derived.Test.YtalkikljjffpmaaDoorLawSegm
import Derived.Deep.QuietTactic
import Derived.BigQuiet
namespace Go.Proofs.YtalkikljjffpmaaDoor
open Go.RowKit
set_option linter.unusedVariables false
set_option linter.unusedSimpArgs false
set_option linter.unnecessarySimpa false
set_option maxRecDepth 100000

theorem smL_of {s : ByteArray} (h1 : 1 ≤ s.size) (h2 : rngB 97 122 s = true) : smL (nums s) := by
  refine ⟨fun e => by have := congrArg List.length e; rw [length_nums] at this; have h0 : ([] : List Int).length = 0 := rfl; omega, fun x hx => ?_⟩
  obtain ⟨j, hj, rfl⟩ := List.getElem_of_mem hx
  have hj' : j < s.size := by rw [length_nums] at hj; exact hj
  have := (of_decide_eq_true h2) j hj'
  rw [← gi_lt hj, gi_nums hj']; omega
theorem nameL_of {l : List ByteArray} (h : nm9 l = true) : nameL l := by
  have h9 := nm9_yes h
  have hP : nmP l l.length := by
    unfold nm9 at h
    rw [Bool.and_eq_true] at h
    exact of_decide_eq_true h.1
  refine ⟨h9.1, fun s hs => ?_, fun i j hi hj hij e => ?_⟩
  · obtain ⟨j, hj, rfl⟩ := List.getElem_of_mem hs
    have := h9.2 j hj
    rw [gs_lt hj] at this
    exact ⟨smL_of this.1 this.2.2, this.2.1⟩
  · have e' := nums_eq e
    rcases Nat.lt_or_gt_of_ne hij with h1 | h1
    · exact (hP j hj).2 i h1 (by rw [gs_lt hi, gs_lt hj]; exact e')
    · exact (hP i hi).2 j h1 (by rw [gs_lt hi, gs_lt hj]; exact e'.symm)
theorem small9 {a b : Nat} (ha : a ≤ 4000) (hb : b ≤ 4000) : ¬ 9223372036854775807 < a + b := by omega
theorem cellS9 {w : World} {b o n c : Nat} {l : List ByteArray} (h : Strs w (.slice (some ⟨b, o, none⟩) n c) l) (j : Nat) (hj : j < l.length) : w.cell? ⟨b, o + j, none⟩ = some (.string (gs l j)) := by
  obtain ⟨ad, c', e, -, -, h, -⟩ := h
  injection e with e1 e2 e3
  obtain ⟨b', o', e4, h4⟩ := h j hj
  rw [e4] at e1
  injection e1 with e1
  injection e1 with e1 e2
  rw [e1, e2]; exact h4
theorem names_old (v : Value) (l : List ByteArray) (w : World) (h : Strs w v l) : Calls Tryd.prog 8 #[v] w fun e w' => e = .returned (.bool (nm9 l)) ∧ Old w w' := by
  refine (names_any v l w h).mono ?_
  rintro e w' ⟨he, n, hw⟩
  refine ⟨he, ?_⟩
  rw [hw]
  exact Old.drewN w n
theorem gs_map (l : List ByteArray) : (List.range l.length).map (gs l) = l := by
  apply List.ext_getElem
  · simp
  · intro i h1 h2
    simp [gs_lt h2]
theorem treeF_names (l : List ByteArray) (i : Nat) (t : List ByteArray) : (treeF l i t).map Prod.fst = l := by
  unfold treeF
  rw [List.map_map]
  exact (List.map_congr_left fun j _ => rfl).trans (gs_map l)
theorem deepF_names (l : List ByteArray) (i : Nat) (t : List ByteArray) (k : Nat) (q : List ByteArray) : (deepF l i t k q).map Prod.fst = l := by
  unfold deepF
  rw [List.map_map]
  exact (List.map_congr_left fun j _ => rfl).trans (gs_map l)
theorem okW_of {l : List ByteArray} (h : nm9 l = true) {j : Nat} (hj : j < l.length) : okW (gs l j) := by
  have := (nm9_yes h).2 j hj
  exact ⟨rngB_asc this.2.2 (by omega), by have := this.2.1; omega⟩
theorem okW_mem {l : List ByteArray} (h : nm9 l = true) {s : ByteArray} (hs : s ∈ l) : okW s := by
  obtain ⟨j, hj, rfl⟩ := List.getElem_of_mem hs
  rw [← gs_lt hj]; exact okW_of h hj
theorem cmp_deep (v : Value) (first thn last : List ByteArray) (i k : Nat) (s begun : ByteArray) (w : World) (hw : Words w v (encF Prod.fst kw2 (deepF first i thn k last))) (n1 : nm9 first = true) (n2 : nm9 thn = true) (n3 : nm9 last = true) (hi : i < first.length) (hk : k < thn.length)
    (hb : 1 ≤ begun.size) (hb2 : begun.size ≤ 12) (hb3 : rngB 97 122 begun = true) (hs : s = gs first i ++ (⟨#[32]⟩ : ByteArray) ++ gs thn k ++ (⟨#[32]⟩ : ByteArray) ++ begun) :
    Calls Tryd.prog 16 #[v, .string s, .int .i64 s.size] w (CompEnd (outS (last.map nums) (nums begun)) (nums begun) w) := by
  have l1 := nameL_of n1
  have l2 := nameL_of n2
  have l3 := nameL_of n3
  have hiF : i < (deepF first i thn k last).length := by rw [deepF_len]; exact hi
  have gF : (deepF first i thn k last)[i] = (gs first i, treeF thn k last) := by rw [deepF_get hiF]; simp
  have hkT : k < (treeF thn k last).length := by rw [treeF_len]; exact hk
  have gT : (treeF thn k last)[k] = (gs thn k, last) := by rw [treeF_get hkT]; simp
  have a1 := okW_of n1 hi
  have a2 := okW_of n2 hk
  have z1 := ((nm9_yes n1).2 i hi).2.1
  have z2 := ((nm9_yes n2).2 k hk).2.1
  have a3 : asc begun := rngB_asc hb3 (by omega)
  have hsp : (⟨#[32]⟩ : ByteArray).size = 1 := rfl
  have hsz : s.size ≤ 1000 := by rw [hs]; simp only [ByteArray.size_append, hsp]; omega
  have has : asc s := by
    rw [hs]; exact asc_app9 (asc_app9 (asc_app9 (asc_app9 a1.1 asc_space9) a2.1) asc_space9) a3
  have hrn : runes s = nums (gs first i) ++ 32 :: (nums (gs thn k) ++ 32 :: nums begun) := by
    rw [runes_asc has, hs]
    simp only [nums_app9]
    have : nums (⟨#[32]⟩ : ByteArray) = [32] := rfl
    rw [this]; simp
  have hF1 : (encF Prod.fst kw2 (deepF first i thn k last)).length ≤ 1000 := by
    have := encF_le (nm := Prod.fst) (kw := kw2) (M := 73) (deepF first i thn k last) (fun x hx => by
      obtain ⟨j, hj, rfl⟩ := List.mem_map.1 hx
      unfold kw2
      simp only
      split
      · have := tree_len (thn := thn) (last := last) (k := k) l2.1 l3.1; omega
      · simp [encF])
    rw [deepF_len] at this
    have := l1.1
    omega
  have H := cmp_any v (deepF first i thn k last) i k s (nums begun) w hw hF1 (fun x hx => by
      obtain ⟨j, hj, rfl⟩ := List.mem_map.1 hx
      refine ⟨okW_of n1 (List.mem_range.1 hj), fun y hy => ?_⟩
      simp only at hy
      split at hy
      · obtain ⟨m, hm, rfl⟩ := List.mem_map.1 hy
        refine ⟨okW_of n2 (List.mem_range.1 hm), fun s hs => ?_⟩
        simp only at hs
        split at hs
        · exact okW_mem n3 hs
        · cases hs
      · cases hy) (by rw [deepF_names]; exact l1) hiF (by rw [gF]; simp only; rw [treeF_names]; exact l2) (by rw [gF]; exact hkT) (by
      have e : ((deepF first i thn k last)[i]).2[k]'(by rw [gF]; exact hkT) = (gs thn k, last) := by simp only [gF]; exact gT
      rw [e]; exact l3) (smL_of hb hb3) (by rw [length_nums]; omega) hsz (by rw [runes_asc has, length_nums]) (by
      have e : ((deepF first i thn k last)[i]).2[k]'(by rw [gF]; exact hkT) = (gs thn k, last) := by simp only [gF]; exact gT
      rw [e, gF]; exact hrn)
  have e : ((deepF first i thn k last)[i]).2[k]'(by rw [gF]; exact hkT) = (gs thn k, last) := by simp only [gF]; exact gT
  rw [e] at H
  exact H
set_option maxHeartbeats 2000000 in
theorem deepmain (v : Value) (first : List ByteArray) (u : Value) (thn : List ByteArray) (y : Value) (last : List ByteArray) (a b : Int) (begun : ByteArray) (w : World) (h : Strs w v first) (h2 : Strs w u thn) (hl : Strs w y last) (ha : (Lit.int .u8 a).wf = true) (hb : (Lit.int .u8 b).wf = true)
    (c0 : fitS first = true) (c1 : fitS thn = true) (c2 : fitS last = true) (c4 : nm9 first = true) (c5 : nm9 thn = true) (c6 : nm9 last = true) (c7 : 1 ≤ first.length) (c8 : 1 ≤ thn.length) (c9 : 1 ≤ begun.size) (c10 : begun.size ≤ 12) (c11 : rngB 97 122 begun = true) :
    Calls Tryd.prog 4 #[v, u, y, .int .u8 a, .int .u8 b, .string begun] w fun e w' => e = .returned (.bool true) ∧ Below w.heap.size w w' := by
  have HT0 := Lib.hid h
  have HT1 := Lib.hid h2
  have HT2 := Lib.hid hl
  have c3 : begun.size ≤ 2147483647 := by omega
  have f8 := (nm9_yes c4).1
  have t8 := (nm9_yes c5).1
  have l8 := (nm9_yes c6).1
  have k0 : IntKind.u8.min = 0 := rfl
  have k1 : IntKind.u8.max = 255 := rfl
  have ha0 : 0 ≤ a ∧ a < 256 := by
    have h := ha
    simp [Lit.wf, k0, k1] at h
    omega
  have hb0 : 0 ≤ b ∧ b < 256 := by
    have h := hb
    simp [Lit.wf, k0, k1] at h
    omega
  have c11' := c11
  have HF0 := Lib.hid c0
  have HF1 := Lib.hid c1
  have HF2 := Lib.hid c2
  have d3 : decide ((begun.size : Int) > 2147483647) = false := by simp; omega
  have d3b : decide ((2147483647 : Int) < begun.size) = false := by simp; omega
  have HN0 := Lib.hid c4
  have HN1 := Lib.hid c5
  have HN2 := Lib.hid c6
  have d7 : ((first.length : Int) == 0) = false := by rw [beq_eq_false_iff_ne]; omega
  have d7b : (first.length == 0) = false := by rw [beq_eq_false_iff_ne]; omega
  have d8 : ((thn.length : Int) == 0) = false := by rw [beq_eq_false_iff_ne]; omega
  have d8b : (thn.length == 0) = false := by rw [beq_eq_false_iff_ne]; omega
  have e1 := toList_some9 c9
  have e2 : begun.toList.isEmpty = false := by cases hh : begun.toList with | nil => exact absurd hh e1 | cons a t => rfl
  have e3 : (begun.toList == []) = false := by rw [beq_eq_false_iff_ne]; exact e1
  have d10 : decide ((begun.size : Int) > 12) = false := by simp; omega
  have d10b : decide ((12 : Int) < begun.size) = false := by simp; omega
  have HSM := Lib.hid c11
  have CD := fun v s W i k hW hi hk hs => cmp_deep v first thn last i k s begun W hW c4 c5 c6 hi hk c9 c10 c11' hs
  have CDH := Lib.hid CD
  have OF : Hid ((outS (last.map nums) (nums begun)).map (fun t => Value.string (runesBytes t)) = (offB last begun).map Value.string) := by
    unfold Hid
    rw [← out_off (b := begun) (l := last) (fun x hx => (okW_mem c6 hx).1), List.map_map]
    rfl
  have OFL : Hid ((outS (last.map nums) (nums begun)).length = (offB last begun).length) := by
    have h := congrArg List.length OF.out
    rw [List.length_map, List.length_map] at h; exact h
  have S8 : Hid (∀ j, j < last.length → (gs last j).size ≤ 1000) := fun j hj => by have := ((nm9_yes c6).2 j hj).2.1; omega
  have Z1 : Hid (∀ j, j < first.length → (gs first j).size ≤ 1000) := fun j hj => by have := ((nm9_yes c4).2 j hj).2.1; omega
  have Z2 : Hid (∀ j, j < thn.length → (gs thn j).size ≤ 1000) := fun j hj => by have := ((nm9_yes c5).2 j hj).2.1; omega
  clear CD ha hb c4 c5 c6 c11 c11' c0 c1 c2
  obtain ⟨ad, c, rfl, h3, h4, hc1, -⟩ := h
  obtain ⟨bd, d, rfl, h5, h6, hc2, -⟩ := h2
  obtain ⟨ld, lc, rfl, h7, h8, -⟩ := hl
  unfold maxLen at h4 h6 h8
  have wa : wrap64 a = a := by unfold wrap64; omega
  have wb : wrap64 b = b := by unfold wrap64; omega
  obtain ⟨i, hi⟩ : ∃ i, i = a.toNat % first.length := ⟨_, rfl⟩
  obtain ⟨k, hk⟩ : ∃ k, k = b.toNat % thn.length := ⟨_, rfl⟩
  have hi1 : i < first.length := by rw [hi]; exact Nat.mod_lt _ (by omega)
  have hk1 : k < thn.length := by rw [hk]; exact Nat.mod_lt _ (by omega)
  have ti : Int.tmod a first.length = (i : Int) := by
    rw [Int.tmod_eq_emod_of_nonneg (by omega), hi, Int.natCast_emod, Int.toNat_of_nonneg (by omega)]
  have tk : Int.tmod b thn.length = (k : Int) := by
    rw [Int.tmod_eq_emod_of_nonneg (by omega), hk, Int.natCast_emod, Int.toNat_of_nonneg (by omega)]
  have wi : wrap64 (i : Int) = (i : Int) := by unfold wrap64; omega
  have wk : wrap64 (k : Int) = (k : Int) := by unfold wrap64; omega
  clear hi hk
  obtain ⟨fb, fo, rfl, -⟩ := hc1 i hi1
  obtain ⟨gb, gq, rfl, -⟩ := hc2 k hk1
  clear hc1 hc2
  have nf : ¬ (first.length : Int) = 0 := by omega
  have nt : ¬ (thn.length : Int) = 0 := by omega
  obtain ⟨x, hx⟩ : ∃ x, gs first i = x := ⟨_, rfl⟩
  obtain ⟨y, hy⟩ : ∃ y, gs thn k = y := ⟨_, rfl⟩
  have zx := Z1.out i hi1
  have zy := Z2.out k hk1
  rw [hx] at zx
  rw [hy] at zy
  obtain ⟨s, hs⟩ : ∃ s, s = gs first i ++ (⟨#[32]⟩ : ByteArray) ++ gs thn k ++ (⟨#[32]⟩ : ByteArray) ++ begun := ⟨_, rfl⟩
  have hs' := Lib.hid hs
  rw [hx, hy] at hs
  have q0 : (0 : Int) ≤ i := Int.natCast_nonneg i
  have q1 : (i : Int) < first.length := Int.ofNat_lt.2 hi1
  have q2 : (i : Int).toNat = i := Int.toNat_natCast i
  have r0 : (0 : Int) ≤ k := Int.natCast_nonneg k
  have r1 : (k : Int) < thn.length := Int.ofNat_lt.2 hk1
  have r2 : (k : Int).toNat = k := Int.toNat_natCast k
  obtain ⟨m1, e1⟩ : ∃ m, x ++ (⟨#[32]⟩ : ByteArray) = m := ⟨_, rfl⟩
  obtain ⟨m2, e2⟩ : ∃ m, m1 ++ y = m := ⟨_, rfl⟩
  obtain ⟨m3, e3⟩ : ∃ m, m2 ++ (⟨#[32]⟩ : ByteArray) = m := ⟨_, rfl⟩
  have e4 : m3 ++ begun = s := by rw [hs, e1, e2, e3]
  have hsp : (⟨#[32]⟩ : ByteArray).size = 1 := rfl
  have g1 : m1.size = x.size + 1 := by rw [← e1, ByteArray.size_append, hsp]
  have g2 : m2.size = m1.size + y.size := by rw [← e2, ByteArray.size_append]
  have g3 : m3.size = m2.size + 1 := by rw [← e3, ByteArray.size_append, hsp]
  have s1 : ¬ 9223372036854775807 < x.size + 1 := small9 (by exact Nat.le_trans zx (by decide)) (by decide)
  have s2 : ¬ 9223372036854775807 < m1.size + y.size := small9 (by rw [g1]; exact Nat.le_trans (Nat.add_le_add_right zx 1) (by decide)) (Nat.le_trans zy (by decide))
  have s3 : ¬ 9223372036854775807 < m2.size + 1 := small9 (by rw [g2, g1]; exact Nat.le_trans (Nat.add_le_add (Nat.add_le_add_right zx 1) zy) (by decide)) (by decide)
  have s4 : ¬ 9223372036854775807 < m3.size + begun.size := small9 (by rw [g3, g2, g1]; exact Nat.le_trans (Nat.add_le_add_right (Nat.add_le_add (Nat.add_le_add_right zx 1) zy) 1) (by decide)) (Nat.le_trans c10 (by decide))
  have s1b : ¬ 9223372036854775807 < x.size + (⟨#[32]⟩ : ByteArray).size := by rw [hsp]; exact s1
  have s3b : ¬ 9223372036854775807 < m2.size + (⟨#[32]⟩ : ByteArray).size := by rw [hsp]; exact s3
  clear hsp hs g1 g2 g3 zx zy
  have HX := Lib.hid hx
  have HY := Lib.hid hy
  clear hx hy
  go_enter Tryd.func4, Tryd.ntmps4
  go_upto_region 5 with (first
  | (go_at_call 7; (with_reducible refine (fits1_any (.slice (some ⟨fb, fo, none⟩) first.length c) first _ HT0.out).mono ?_); rw [HF0.out]; rintro e w1 ⟨rfl, o1⟩; have O1 := Lib.hid o1; clear o1)
  | (go_at_call 7; (with_reducible refine (fits1_any (.slice (some ⟨gb, gq, none⟩) thn.length d) thn _ (HT1.out.old O1.out)).mono ?_); rw [HF1.out]; rintro e w2 ⟨rfl, o1⟩; have O2 := Lib.hid (O1.out.trans o1); clear o1)
  | (go_at_call 7; (with_reducible refine (fits1_any (.slice ld last.length lc) last _ (HT2.out.old O2.out)).mono ?_); rw [HF2.out]; rintro e w3 ⟨rfl, o1⟩; have O3 := Lib.hid (O2.out.trans o1); clear o1)
  | (go_at_call 8; (with_reducible refine (names_old (.slice (some ⟨fb, fo, none⟩) first.length c) first _ (HT0.out.old O3.out)).mono ?_); rw [HN0.out]; rintro e w4 ⟨rfl, o1⟩; have O4 := Lib.hid (O3.out.trans o1); clear o1)
  | (go_at_call 8; (with_reducible refine (names_old (.slice (some ⟨gb, gq, none⟩) thn.length d) thn _ (HT1.out.old O4.out)).mono ?_); rw [HN1.out]; rintro e w5 ⟨rfl, o1⟩; have O5 := Lib.hid (O4.out.trans o1); clear o1)
  | (go_at_call 8; (with_reducible refine (names_old (.slice ld last.length lc) last _ (HT2.out.old O5.out)).mono ?_); rw [HN2.out]; rintro e w6 ⟨rfl, o1⟩; have O6 := Lib.hid (O5.out.trans o1); clear o1)
  | (go_at_call 14; refine (small_any begun _ (by unfold maxLen; omega)).mono ?_; rw [HSM.out]; rintro e w7 ⟨rfl, rfl⟩))
  go_quiet (fail)
  go_upto_region 7 with (go_at_call 15; refine (deep_spec _ _ _ first thn last i k _ (HT0.out.old (O6.out.then_drewN _)) (HT1.out.old (O6.out.then_drewN _)) (HT2.out.old (O6.out.then_drewN _)) f8 t8 c8 l8).mono ?_; rintro e w8 ⟨wv, rfl, o1, own⟩; have O8 := Lib.hid ((O6.out.then_drewN _).trans o1); have WD := Lib.hid (Words.of_own own rfl); clear o1 own)
  have fc := cellS9 (HT0.out.old O8.out) i hi1
  have gc := cellS9 (HT1.out.old O8.out) k hk1
  rw [HX.out] at fc
  rw [HY.out] at gc
  go_quiet (fail)
  by_cases hz : (offB last begun).length = 0
  · have z1 : (((offB last begun).length : Int) == 0) = true := by rw [hz]; rfl
    have z3 : ((offB last begun).length == 0) = true := by rw [beq_iff_eq]; exact hz
    clear hz
    go_wp2_with (first
      | (go_at_call 16; refine (CDH.out wv s _ i k (WD.out.old (Old.drewN _ _)) hi1 hk1 hs'.out).mono ?_; rintro e w9 ⟨lv, base, off, rfl, o1, own, hoff⟩; rw [OF.out, OFL.out] at own; have S9 := Lib.hid (SR.of_own own); have O9 := Lib.hid ((O8.out.then_drewN _).trans o1); clear own o1 hoff)
      | (go_at_call 13; refine (off_any _ last begun _ (HT2.out.old O9.out) (Nat.le_trans l8 (by decide)) S8.out (Nat.le_trans c10 (by decide))).mono ?_; rintro e w10 ⟨ov, rfl, o1, own⟩; have SA := Lib.hid (SR.of_own own); have SB := Lib.hid (S9.out.old o1); have O10 := Lib.hid (O9.out.trans o1); clear own o1; obtain ⟨wad, wc, rfl, -⟩ := SA.out)
      | (go_at_call 12; refine (same9_eq _ _ (offB last begun) _ SB.out SA.out).mono ?_; rintro e w11 ⟨rfl, n11, rfl⟩))
    go_ret
    exact ⟨rfl, O10.out.trans (Old.drewN _ _)⟩
  · have z1 : (((offB last begun).length : Int) == 0) = false := by
      rw [beq_eq_false_iff_ne]; exact fun e => hz (Int.ofNat_eq_zero.1 e)
    have HZ : Hid (∀ off : Nat, (off = if outS (last.map nums) (nums begun) = [] then 0 else (nums begun).length) → off = begun.size) := fun off h => by
      rw [if_neg (fun e => hz (by rw [← OFL.out, e]; rfl)), length_nums] at h; exact h
    have z2 : ((begun.size : Int) == begun.size) = true := by simp
    have z3 : ((offB last begun).length == 0) = false := by rw [beq_eq_false_iff_ne]; exact hz
    clear hz
    go_wp2_with (first
      | (go_at_call 16; refine (CDH.out wv s _ i k (WD.out.old (Old.drewN _ _)) hi1 hk1 hs'.out).mono ?_; rintro e w9 ⟨lv, base, off, rfl, o1, own, hoff⟩; rw [OF.out, OFL.out] at own; have S9 := Lib.hid (SR.of_own own); have O9 := Lib.hid ((O8.out.then_drewN _).trans o1); have ho := HZ.out off hoff; clear own o1 hoff; subst ho)
      | (go_at_call 13; refine (off_any _ last begun _ (HT2.out.old O9.out) (Nat.le_trans l8 (by decide)) S8.out (Nat.le_trans c10 (by decide))).mono ?_; rintro e w10 ⟨ov, rfl, o1, own⟩; have SA := Lib.hid (SR.of_own own); have SB := Lib.hid (S9.out.old o1); have O10 := Lib.hid (O9.out.trans o1); clear own o1; obtain ⟨wad, wc, rfl, -⟩ := SA.out)
      | (go_at_call 12; refine (same9_eq _ _ (offB last begun) _ SB.out SA.out).mono ?_; rintro e w11 ⟨rfl, n11, rfl⟩))
    go_ret
    exact ⟨rfl, O10.out.trans (Old.drewN _ _)⟩
set_option maxHeartbeats 4000000 in
theorem lawdeep_any (v : Value) (first : List ByteArray) (u : Value) (thn : List ByteArray) (y : Value) (last : List ByteArray) (a b : Int) (begun : ByteArray) (w : World) (h : Strs w v first) (h2 : Strs w u thn) (hl : Strs w y last) (ha : (Lit.int .u8 a).wf = true) (hb : (Lit.int .u8 b).wf = true) (hs : begun.size ≤ 140737488351232) :
    Calls Tryd.prog 4 #[v, u, y, .int .u8 a, .int .u8 b, .string begun] w fun e w' => e = .returned (.bool true) ∧ Below w.heap.size w w' := by
  have main := fun c0 c1 c2 c4 c5 c6 c7 c8 c9 c10 c11 => deepmain v first u thn y last a b begun w h h2 hl ha hb c0 c1 c2 c4 c5 c6 c7 c8 c9 c10 c11
  have HT0 := Lib.hid h
  have HT1 := Lib.hid h2
  have HT2 := Lib.hid hl
  obtain ⟨ad, c, rfl, h3, h4, -⟩ := h
  obtain ⟨bd, d, rfl, h5, h6, -⟩ := h2
  obtain ⟨ld, lc, rfl, h7, h8, -⟩ := hl
  unfold maxLen at h4 h6 h8
  clear ha hb
  by_cases c0 : fitS first = true
  · skip
    by_cases c1 : fitS thn = true
    · skip
      by_cases c2 : fitS last = true
      · skip
        by_cases c3 : begun.size ≤ 2147483647
        · skip
          by_cases c4 : nm9 first = true
          · skip
            by_cases c5 : nm9 thn = true
            · skip
              by_cases c6 : nm9 last = true
              · skip
                by_cases c7 : 1 ≤ first.length
                · skip
                  by_cases c8 : 1 ≤ thn.length
                  · skip
                    by_cases c9 : 1 ≤ begun.size
                    · skip
                      by_cases c10 : begun.size ≤ 12
                      · skip
                        by_cases c11 : rngB 97 122 begun = true
                        · skip
                          exact main c0 c1 c2 c4 c5 c6 c7 c8 c9 c10 c11
                        · clear main
                          have c11 : rngB 97 122 begun = false := by simpa using c11
                          have HF0 := Lib.hid c0
                          have HF1 := Lib.hid c1
                          have HF2 := Lib.hid c2
                          have d3 : decide ((begun.size : Int) > 2147483647) = false := by simp; omega
                          have d3b : decide ((2147483647 : Int) < begun.size) = false := by simp; omega
                          have HN0 := Lib.hid c4
                          have HN1 := Lib.hid c5
                          have HN2 := Lib.hid c6
                          have d7 : ((first.length : Int) == 0) = false := by rw [beq_eq_false_iff_ne]; omega
                          have d7b : (first.length == 0) = false := by rw [beq_eq_false_iff_ne]; omega
                          have d8 : ((thn.length : Int) == 0) = false := by rw [beq_eq_false_iff_ne]; omega
                          have d8b : (thn.length == 0) = false := by rw [beq_eq_false_iff_ne]; omega
                          have e1 := toList_some9 c9
                          have e2 : begun.toList.isEmpty = false := by cases hh : begun.toList with | nil => exact absurd hh e1 | cons a t => rfl
                          have e3 : (begun.toList == []) = false := by rw [beq_eq_false_iff_ne]; exact e1
                          have d10 : decide ((begun.size : Int) > 12) = false := by simp; omega
                          have d10b : decide ((12 : Int) < begun.size) = false := by simp; omega
                          have HSM := Lib.hid c11
                          clear c0 c1 c2 c4 c5 c6 c11
                          go_enter Tryd.func4, Tryd.ntmps4
                          go_wp2_with (first
                          | (go_at_call 7; (with_reducible refine (fits1_any (.slice ad first.length c) first _ HT0.out).mono ?_); rw [HF0.out]; rintro e w1 ⟨rfl, o1⟩; have O1 := Lib.hid o1; clear o1)
                          | (go_at_call 7; (with_reducible refine (fits1_any (.slice bd thn.length d) thn _ (HT1.out.old O1.out)).mono ?_); rw [HF1.out]; rintro e w2 ⟨rfl, o1⟩; have O2 := Lib.hid (O1.out.trans o1); clear o1)
                          | (go_at_call 7; (with_reducible refine (fits1_any (.slice ld last.length lc) last _ (HT2.out.old O2.out)).mono ?_); rw [HF2.out]; rintro e w3 ⟨rfl, o1⟩; have O3 := Lib.hid (O2.out.trans o1); clear o1)
                          | (go_at_call 8; (with_reducible refine (names_old (.slice ad first.length c) first _ (HT0.out.old O3.out)).mono ?_); rw [HN0.out]; rintro e w4 ⟨rfl, o1⟩; have O4 := Lib.hid (O3.out.trans o1); clear o1)
                          | (go_at_call 8; (with_reducible refine (names_old (.slice bd thn.length d) thn _ (HT1.out.old O4.out)).mono ?_); rw [HN1.out]; rintro e w5 ⟨rfl, o1⟩; have O5 := Lib.hid (O4.out.trans o1); clear o1)
                          | (go_at_call 8; (with_reducible refine (names_old (.slice ld last.length lc) last _ (HT2.out.old O5.out)).mono ?_); rw [HN2.out]; rintro e w6 ⟨rfl, o1⟩; have O6 := Lib.hid (O5.out.trans o1); clear o1)
                          | (go_at_call 14; refine (small_any begun _ (by unfold maxLen; omega)).mono ?_; rw [HSM.out]; rintro e w7 ⟨rfl, rfl⟩))
                          go_ret
                          exact ⟨rfl, O6.out⟩
                      · clear main
                        have HF0 := Lib.hid c0
                        have HF1 := Lib.hid c1
                        have HF2 := Lib.hid c2
                        have d3 : decide ((begun.size : Int) > 2147483647) = false := by simp; omega
                        have d3b : decide ((2147483647 : Int) < begun.size) = false := by simp; omega
                        have HN0 := Lib.hid c4
                        have HN1 := Lib.hid c5
                        have HN2 := Lib.hid c6
                        have d7 : ((first.length : Int) == 0) = false := by rw [beq_eq_false_iff_ne]; omega
                        have d7b : (first.length == 0) = false := by rw [beq_eq_false_iff_ne]; omega
                        have d8 : ((thn.length : Int) == 0) = false := by rw [beq_eq_false_iff_ne]; omega
                        have d8b : (thn.length == 0) = false := by rw [beq_eq_false_iff_ne]; omega
                        have e1 := toList_some9 c9
                        have e2 : begun.toList.isEmpty = false := by cases hh : begun.toList with | nil => exact absurd hh e1 | cons a t => rfl
                        have e3 : (begun.toList == []) = false := by rw [beq_eq_false_iff_ne]; exact e1
                        have d10 : decide ((begun.size : Int) > 12) = true := by simp; omega
                        have d10b : decide ((12 : Int) < begun.size) = true := by simp; omega
                        clear c0 c1 c2 c4 c5 c6
                        go_enter Tryd.func4, Tryd.ntmps4
                        go_wp2_with (first
                        | (go_at_call 7; (with_reducible refine (fits1_any (.slice ad first.length c) first _ HT0.out).mono ?_); rw [HF0.out]; rintro e w1 ⟨rfl, o1⟩; have O1 := Lib.hid o1; clear o1)
                        | (go_at_call 7; (with_reducible refine (fits1_any (.slice bd thn.length d) thn _ (HT1.out.old O1.out)).mono ?_); rw [HF1.out]; rintro e w2 ⟨rfl, o1⟩; have O2 := Lib.hid (O1.out.trans o1); clear o1)
                        | (go_at_call 7; (with_reducible refine (fits1_any (.slice ld last.length lc) last _ (HT2.out.old O2.out)).mono ?_); rw [HF2.out]; rintro e w3 ⟨rfl, o1⟩; have O3 := Lib.hid (O2.out.trans o1); clear o1)
                        | (go_at_call 8; (with_reducible refine (names_old (.slice ad first.length c) first _ (HT0.out.old O3.out)).mono ?_); rw [HN0.out]; rintro e w4 ⟨rfl, o1⟩; have O4 := Lib.hid (O3.out.trans o1); clear o1)
                        | (go_at_call 8; (with_reducible refine (names_old (.slice bd thn.length d) thn _ (HT1.out.old O4.out)).mono ?_); rw [HN1.out]; rintro e w5 ⟨rfl, o1⟩; have O5 := Lib.hid (O4.out.trans o1); clear o1)
                        | (go_at_call 8; (with_reducible refine (names_old (.slice ld last.length lc) last _ (HT2.out.old O5.out)).mono ?_); rw [HN2.out]; rintro e w6 ⟨rfl, o1⟩; have O6 := Lib.hid (O5.out.trans o1); clear o1)
                        | (go_at_call 14; refine (small_any begun _ (by unfold maxLen; omega)).mono ?_; rw [HSM.out]; rintro e w7 ⟨rfl, rfl⟩))
                        go_ret
                        exact ⟨rfl, O6.out⟩
                    · clear main
                      have HF0 := Lib.hid c0
                      have HF1 := Lib.hid c1
                      have HF2 := Lib.hid c2
                      have d3 : decide ((begun.size : Int) > 2147483647) = false := by simp; omega
                      have d3b : decide ((2147483647 : Int) < begun.size) = false := by simp; omega
                      have HN0 := Lib.hid c4
                      have HN1 := Lib.hid c5
                      have HN2 := Lib.hid c6
                      have d7 : ((first.length : Int) == 0) = false := by rw [beq_eq_false_iff_ne]; omega
                      have d7b : (first.length == 0) = false := by rw [beq_eq_false_iff_ne]; omega
                      have d8 : ((thn.length : Int) == 0) = false := by rw [beq_eq_false_iff_ne]; omega
                      have d8b : (thn.length == 0) = false := by rw [beq_eq_false_iff_ne]; omega
                      have e1 := toList_nil9 (s := begun) (by omega)
                      have e2 : begun.toList.isEmpty = true := by rw [e1]; rfl
                      have e3 : (begun.toList == []) = true := by rw [e1]; rfl
                      clear c0 c1 c2 c4 c5 c6
                      go_enter Tryd.func4, Tryd.ntmps4
                      go_wp2_with (first
                      | (go_at_call 7; (with_reducible refine (fits1_any (.slice ad first.length c) first _ HT0.out).mono ?_); rw [HF0.out]; rintro e w1 ⟨rfl, o1⟩; have O1 := Lib.hid o1; clear o1)
                      | (go_at_call 7; (with_reducible refine (fits1_any (.slice bd thn.length d) thn _ (HT1.out.old O1.out)).mono ?_); rw [HF1.out]; rintro e w2 ⟨rfl, o1⟩; have O2 := Lib.hid (O1.out.trans o1); clear o1)
                      | (go_at_call 7; (with_reducible refine (fits1_any (.slice ld last.length lc) last _ (HT2.out.old O2.out)).mono ?_); rw [HF2.out]; rintro e w3 ⟨rfl, o1⟩; have O3 := Lib.hid (O2.out.trans o1); clear o1)
                      | (go_at_call 8; (with_reducible refine (names_old (.slice ad first.length c) first _ (HT0.out.old O3.out)).mono ?_); rw [HN0.out]; rintro e w4 ⟨rfl, o1⟩; have O4 := Lib.hid (O3.out.trans o1); clear o1)
                      | (go_at_call 8; (with_reducible refine (names_old (.slice bd thn.length d) thn _ (HT1.out.old O4.out)).mono ?_); rw [HN1.out]; rintro e w5 ⟨rfl, o1⟩; have O5 := Lib.hid (O4.out.trans o1); clear o1)
                      | (go_at_call 8; (with_reducible refine (names_old (.slice ld last.length lc) last _ (HT2.out.old O5.out)).mono ?_); rw [HN2.out]; rintro e w6 ⟨rfl, o1⟩; have O6 := Lib.hid (O5.out.trans o1); clear o1)
                      | (go_at_call 14; refine (small_any begun _ (by unfold maxLen; omega)).mono ?_; rw [HSM.out]; rintro e w7 ⟨rfl, rfl⟩))
                      go_ret
                      exact ⟨rfl, O6.out⟩
                  · clear main
                    have HF0 := Lib.hid c0
                    have HF1 := Lib.hid c1
                    have HF2 := Lib.hid c2
                    have d3 : decide ((begun.size : Int) > 2147483647) = false := by simp; omega
                    have d3b : decide ((2147483647 : Int) < begun.size) = false := by simp; omega
                    have HN0 := Lib.hid c4
                    have HN1 := Lib.hid c5
                    have HN2 := Lib.hid c6
                    have d7 : ((first.length : Int) == 0) = false := by rw [beq_eq_false_iff_ne]; omega
                    have d7b : (first.length == 0) = false := by rw [beq_eq_false_iff_ne]; omega
                    have d8 : ((thn.length : Int) == 0) = true := by rw [beq_iff_eq]; omega
                    have d8b : (thn.length == 0) = true := by rw [beq_iff_eq]; omega
                    clear c0 c1 c2 c4 c5 c6
                    go_enter Tryd.func4, Tryd.ntmps4
                    go_wp2_with (first
                    | (go_at_call 7; (with_reducible refine (fits1_any (.slice ad first.length c) first _ HT0.out).mono ?_); rw [HF0.out]; rintro e w1 ⟨rfl, o1⟩; have O1 := Lib.hid o1; clear o1)
                    | (go_at_call 7; (with_reducible refine (fits1_any (.slice bd thn.length d) thn _ (HT1.out.old O1.out)).mono ?_); rw [HF1.out]; rintro e w2 ⟨rfl, o1⟩; have O2 := Lib.hid (O1.out.trans o1); clear o1)
                    | (go_at_call 7; (with_reducible refine (fits1_any (.slice ld last.length lc) last _ (HT2.out.old O2.out)).mono ?_); rw [HF2.out]; rintro e w3 ⟨rfl, o1⟩; have O3 := Lib.hid (O2.out.trans o1); clear o1)
                    | (go_at_call 8; (with_reducible refine (names_old (.slice ad first.length c) first _ (HT0.out.old O3.out)).mono ?_); rw [HN0.out]; rintro e w4 ⟨rfl, o1⟩; have O4 := Lib.hid (O3.out.trans o1); clear o1)
                    | (go_at_call 8; (with_reducible refine (names_old (.slice bd thn.length d) thn _ (HT1.out.old O4.out)).mono ?_); rw [HN1.out]; rintro e w5 ⟨rfl, o1⟩; have O5 := Lib.hid (O4.out.trans o1); clear o1)
                    | (go_at_call 8; (with_reducible refine (names_old (.slice ld last.length lc) last _ (HT2.out.old O5.out)).mono ?_); rw [HN2.out]; rintro e w6 ⟨rfl, o1⟩; have O6 := Lib.hid (O5.out.trans o1); clear o1)
                    | (go_at_call 14; refine (small_any begun _ (by unfold maxLen; omega)).mono ?_; rw [HSM.out]; rintro e w7 ⟨rfl, rfl⟩))
                    go_ret
                    exact ⟨rfl, O6.out⟩
                · clear main
                  have HF0 := Lib.hid c0
                  have HF1 := Lib.hid c1
                  have HF2 := Lib.hid c2
                  have d3 : decide ((begun.size : Int) > 2147483647) = false := by simp; omega
                  have d3b : decide ((2147483647 : Int) < begun.size) = false := by simp; omega
                  have HN0 := Lib.hid c4
                  have HN1 := Lib.hid c5
                  have HN2 := Lib.hid c6
                  have d7 : ((first.length : Int) == 0) = true := by rw [beq_iff_eq]; omega
                  have d7b : (first.length == 0) = true := by rw [beq_iff_eq]; omega
                  clear c0 c1 c2 c4 c5 c6
                  go_enter Tryd.func4, Tryd.ntmps4
                  go_wp2_with (first
                  | (go_at_call 7; (with_reducible refine (fits1_any (.slice ad first.length c) first _ HT0.out).mono ?_); rw [HF0.out]; rintro e w1 ⟨rfl, o1⟩; have O1 := Lib.hid o1; clear o1)
                  | (go_at_call 7; (with_reducible refine (fits1_any (.slice bd thn.length d) thn _ (HT1.out.old O1.out)).mono ?_); rw [HF1.out]; rintro e w2 ⟨rfl, o1⟩; have O2 := Lib.hid (O1.out.trans o1); clear o1)
                  | (go_at_call 7; (with_reducible refine (fits1_any (.slice ld last.length lc) last _ (HT2.out.old O2.out)).mono ?_); rw [HF2.out]; rintro e w3 ⟨rfl, o1⟩; have O3 := Lib.hid (O2.out.trans o1); clear o1)
                  | (go_at_call 8; (with_reducible refine (names_old (.slice ad first.length c) first _ (HT0.out.old O3.out)).mono ?_); rw [HN0.out]; rintro e w4 ⟨rfl, o1⟩; have O4 := Lib.hid (O3.out.trans o1); clear o1)
                  | (go_at_call 8; (with_reducible refine (names_old (.slice bd thn.length d) thn _ (HT1.out.old O4.out)).mono ?_); rw [HN1.out]; rintro e w5 ⟨rfl, o1⟩; have O5 := Lib.hid (O4.out.trans o1); clear o1)
                  | (go_at_call 8; (with_reducible refine (names_old (.slice ld last.length lc) last _ (HT2.out.old O5.out)).mono ?_); rw [HN2.out]; rintro e w6 ⟨rfl, o1⟩; have O6 := Lib.hid (O5.out.trans o1); clear o1)
                  | (go_at_call 14; refine (small_any begun _ (by unfold maxLen; omega)).mono ?_; rw [HSM.out]; rintro e w7 ⟨rfl, rfl⟩))
                  go_ret
                  exact ⟨rfl, O6.out⟩
              · clear main
                have c6 : nm9 last = false := by simpa using c6
                have HF0 := Lib.hid c0
                have HF1 := Lib.hid c1
                have HF2 := Lib.hid c2
                have d3 : decide ((begun.size : Int) > 2147483647) = false := by simp; omega
                have d3b : decide ((2147483647 : Int) < begun.size) = false := by simp; omega
                have HN0 := Lib.hid c4
                have HN1 := Lib.hid c5
                have HN2 := Lib.hid c6
                clear c0 c1 c2 c4 c5 c6
                go_enter Tryd.func4, Tryd.ntmps4
                go_wp2_with (first
                | (go_at_call 7; (with_reducible refine (fits1_any (.slice ad first.length c) first _ HT0.out).mono ?_); rw [HF0.out]; rintro e w1 ⟨rfl, o1⟩; have O1 := Lib.hid o1; clear o1)
                | (go_at_call 7; (with_reducible refine (fits1_any (.slice bd thn.length d) thn _ (HT1.out.old O1.out)).mono ?_); rw [HF1.out]; rintro e w2 ⟨rfl, o1⟩; have O2 := Lib.hid (O1.out.trans o1); clear o1)
                | (go_at_call 7; (with_reducible refine (fits1_any (.slice ld last.length lc) last _ (HT2.out.old O2.out)).mono ?_); rw [HF2.out]; rintro e w3 ⟨rfl, o1⟩; have O3 := Lib.hid (O2.out.trans o1); clear o1)
                | (go_at_call 8; (with_reducible refine (names_old (.slice ad first.length c) first _ (HT0.out.old O3.out)).mono ?_); rw [HN0.out]; rintro e w4 ⟨rfl, o1⟩; have O4 := Lib.hid (O3.out.trans o1); clear o1)
                | (go_at_call 8; (with_reducible refine (names_old (.slice bd thn.length d) thn _ (HT1.out.old O4.out)).mono ?_); rw [HN1.out]; rintro e w5 ⟨rfl, o1⟩; have O5 := Lib.hid (O4.out.trans o1); clear o1)
                | (go_at_call 8; (with_reducible refine (names_old (.slice ld last.length lc) last _ (HT2.out.old O5.out)).mono ?_); rw [HN2.out]; rintro e w6 ⟨rfl, o1⟩; have O6 := Lib.hid (O5.out.trans o1); clear o1)
                | (go_at_call 14; refine (small_any begun _ (by unfold maxLen; omega)).mono ?_; rw [HSM.out]; rintro e w7 ⟨rfl, rfl⟩))
                go_ret
                exact ⟨rfl, O6.out⟩
            · clear main
              have c5 : nm9 thn = false := by simpa using c5
              have HF0 := Lib.hid c0
              have HF1 := Lib.hid c1
              have HF2 := Lib.hid c2
              have d3 : decide ((begun.size : Int) > 2147483647) = false := by simp; omega
              have d3b : decide ((2147483647 : Int) < begun.size) = false := by simp; omega
              have HN0 := Lib.hid c4
              have HN1 := Lib.hid c5
              clear c0 c1 c2 c4 c5
              go_enter Tryd.func4, Tryd.ntmps4
              go_wp2_with (first
              | (go_at_call 7; (with_reducible refine (fits1_any (.slice ad first.length c) first _ HT0.out).mono ?_); rw [HF0.out]; rintro e w1 ⟨rfl, o1⟩; have O1 := Lib.hid o1; clear o1)
              | (go_at_call 7; (with_reducible refine (fits1_any (.slice bd thn.length d) thn _ (HT1.out.old O1.out)).mono ?_); rw [HF1.out]; rintro e w2 ⟨rfl, o1⟩; have O2 := Lib.hid (O1.out.trans o1); clear o1)
              | (go_at_call 7; (with_reducible refine (fits1_any (.slice ld last.length lc) last _ (HT2.out.old O2.out)).mono ?_); rw [HF2.out]; rintro e w3 ⟨rfl, o1⟩; have O3 := Lib.hid (O2.out.trans o1); clear o1)
              | (go_at_call 8; (with_reducible refine (names_old (.slice ad first.length c) first _ (HT0.out.old O3.out)).mono ?_); rw [HN0.out]; rintro e w4 ⟨rfl, o1⟩; have O4 := Lib.hid (O3.out.trans o1); clear o1)
              | (go_at_call 8; (with_reducible refine (names_old (.slice bd thn.length d) thn _ (HT1.out.old O4.out)).mono ?_); rw [HN1.out]; rintro e w5 ⟨rfl, o1⟩; have O5 := Lib.hid (O4.out.trans o1); clear o1)
              | (go_at_call 8; (with_reducible refine (names_old (.slice ld last.length lc) last _ (HT2.out.old O5.out)).mono ?_); rw [HN2.out]; rintro e w6 ⟨rfl, o1⟩; have O6 := Lib.hid (O5.out.trans o1); clear o1)
              | (go_at_call 14; refine (small_any begun _ (by unfold maxLen; omega)).mono ?_; rw [HSM.out]; rintro e w7 ⟨rfl, rfl⟩))
              go_ret
              exact ⟨rfl, O5.out⟩
          · clear main
            have c4 : nm9 first = false := by simpa using c4
            have HF0 := Lib.hid c0
            have HF1 := Lib.hid c1
            have HF2 := Lib.hid c2
            have d3 : decide ((begun.size : Int) > 2147483647) = false := by simp; omega
            have d3b : decide ((2147483647 : Int) < begun.size) = false := by simp; omega
            have HN0 := Lib.hid c4
            clear c0 c1 c2 c4
            go_enter Tryd.func4, Tryd.ntmps4
            go_wp2_with (first
            | (go_at_call 7; (with_reducible refine (fits1_any (.slice ad first.length c) first _ HT0.out).mono ?_); rw [HF0.out]; rintro e w1 ⟨rfl, o1⟩; have O1 := Lib.hid o1; clear o1)
            | (go_at_call 7; (with_reducible refine (fits1_any (.slice bd thn.length d) thn _ (HT1.out.old O1.out)).mono ?_); rw [HF1.out]; rintro e w2 ⟨rfl, o1⟩; have O2 := Lib.hid (O1.out.trans o1); clear o1)
            | (go_at_call 7; (with_reducible refine (fits1_any (.slice ld last.length lc) last _ (HT2.out.old O2.out)).mono ?_); rw [HF2.out]; rintro e w3 ⟨rfl, o1⟩; have O3 := Lib.hid (O2.out.trans o1); clear o1)
            | (go_at_call 8; (with_reducible refine (names_old (.slice ad first.length c) first _ (HT0.out.old O3.out)).mono ?_); rw [HN0.out]; rintro e w4 ⟨rfl, o1⟩; have O4 := Lib.hid (O3.out.trans o1); clear o1)
            | (go_at_call 8; (with_reducible refine (names_old (.slice bd thn.length d) thn _ (HT1.out.old O4.out)).mono ?_); rw [HN1.out]; rintro e w5 ⟨rfl, o1⟩; have O5 := Lib.hid (O4.out.trans o1); clear o1)
            | (go_at_call 8; (with_reducible refine (names_old (.slice ld last.length lc) last _ (HT2.out.old O5.out)).mono ?_); rw [HN2.out]; rintro e w6 ⟨rfl, o1⟩; have O6 := Lib.hid (O5.out.trans o1); clear o1)
            | (go_at_call 14; refine (small_any begun _ (by unfold maxLen; omega)).mono ?_; rw [HSM.out]; rintro e w7 ⟨rfl, rfl⟩))
            go_ret
            exact ⟨rfl, O4.out⟩
        · clear main
          have HF0 := Lib.hid c0
          have HF1 := Lib.hid c1
          have HF2 := Lib.hid c2
          have d3 : decide ((begun.size : Int) > 2147483647) = true := by simp; omega
          have d3b : decide ((2147483647 : Int) < begun.size) = true := by simp; omega
          clear c0 c1 c2
          go_enter Tryd.func4, Tryd.ntmps4
          go_wp2_with (first
          | (go_at_call 7; (with_reducible refine (fits1_any (.slice ad first.length c) first _ HT0.out).mono ?_); rw [HF0.out]; rintro e w1 ⟨rfl, o1⟩; have O1 := Lib.hid o1; clear o1)
          | (go_at_call 7; (with_reducible refine (fits1_any (.slice bd thn.length d) thn _ (HT1.out.old O1.out)).mono ?_); rw [HF1.out]; rintro e w2 ⟨rfl, o1⟩; have O2 := Lib.hid (O1.out.trans o1); clear o1)
          | (go_at_call 7; (with_reducible refine (fits1_any (.slice ld last.length lc) last _ (HT2.out.old O2.out)).mono ?_); rw [HF2.out]; rintro e w3 ⟨rfl, o1⟩; have O3 := Lib.hid (O2.out.trans o1); clear o1)
          | (go_at_call 8; (with_reducible refine (names_old (.slice ad first.length c) first _ (HT0.out.old O3.out)).mono ?_); rw [HN0.out]; rintro e w4 ⟨rfl, o1⟩; have O4 := Lib.hid (O3.out.trans o1); clear o1)
          | (go_at_call 8; (with_reducible refine (names_old (.slice bd thn.length d) thn _ (HT1.out.old O4.out)).mono ?_); rw [HN1.out]; rintro e w5 ⟨rfl, o1⟩; have O5 := Lib.hid (O4.out.trans o1); clear o1)
          | (go_at_call 8; (with_reducible refine (names_old (.slice ld last.length lc) last _ (HT2.out.old O5.out)).mono ?_); rw [HN2.out]; rintro e w6 ⟨rfl, o1⟩; have O6 := Lib.hid (O5.out.trans o1); clear o1)
          | (go_at_call 14; refine (small_any begun _ (by unfold maxLen; omega)).mono ?_; rw [HSM.out]; rintro e w7 ⟨rfl, rfl⟩))
          go_ret
          exact ⟨rfl, O3.out⟩
      · clear main
        have c2 : fitS last = false := by simpa using c2
        have HF0 := Lib.hid c0
        have HF1 := Lib.hid c1
        have HF2 := Lib.hid c2
        clear c0 c1 c2
        go_enter Tryd.func4, Tryd.ntmps4
        go_wp2_with (first
        | (go_at_call 7; (with_reducible refine (fits1_any (.slice ad first.length c) first _ HT0.out).mono ?_); rw [HF0.out]; rintro e w1 ⟨rfl, o1⟩; have O1 := Lib.hid o1; clear o1)
        | (go_at_call 7; (with_reducible refine (fits1_any (.slice bd thn.length d) thn _ (HT1.out.old O1.out)).mono ?_); rw [HF1.out]; rintro e w2 ⟨rfl, o1⟩; have O2 := Lib.hid (O1.out.trans o1); clear o1)
        | (go_at_call 7; (with_reducible refine (fits1_any (.slice ld last.length lc) last _ (HT2.out.old O2.out)).mono ?_); rw [HF2.out]; rintro e w3 ⟨rfl, o1⟩; have O3 := Lib.hid (O2.out.trans o1); clear o1)
        | (go_at_call 8; (with_reducible refine (names_old (.slice ad first.length c) first _ (HT0.out.old O3.out)).mono ?_); rw [HN0.out]; rintro e w4 ⟨rfl, o1⟩; have O4 := Lib.hid (O3.out.trans o1); clear o1)
        | (go_at_call 8; (with_reducible refine (names_old (.slice bd thn.length d) thn _ (HT1.out.old O4.out)).mono ?_); rw [HN1.out]; rintro e w5 ⟨rfl, o1⟩; have O5 := Lib.hid (O4.out.trans o1); clear o1)
        | (go_at_call 8; (with_reducible refine (names_old (.slice ld last.length lc) last _ (HT2.out.old O5.out)).mono ?_); rw [HN2.out]; rintro e w6 ⟨rfl, o1⟩; have O6 := Lib.hid (O5.out.trans o1); clear o1)
        | (go_at_call 14; refine (small_any begun _ (by unfold maxLen; omega)).mono ?_; rw [HSM.out]; rintro e w7 ⟨rfl, rfl⟩))
        go_ret
        exact ⟨rfl, O3.out⟩
    · clear main
      have c1 : fitS thn = false := by simpa using c1
      have HF0 := Lib.hid c0
      have HF1 := Lib.hid c1
      clear c0 c1
      go_enter Tryd.func4, Tryd.ntmps4
      go_wp2_with (first
      | (go_at_call 7; (with_reducible refine (fits1_any (.slice ad first.length c) first _ HT0.out).mono ?_); rw [HF0.out]; rintro e w1 ⟨rfl, o1⟩; have O1 := Lib.hid o1; clear o1)
      | (go_at_call 7; (with_reducible refine (fits1_any (.slice bd thn.length d) thn _ (HT1.out.old O1.out)).mono ?_); rw [HF1.out]; rintro e w2 ⟨rfl, o1⟩; have O2 := Lib.hid (O1.out.trans o1); clear o1)
      | (go_at_call 7; (with_reducible refine (fits1_any (.slice ld last.length lc) last _ (HT2.out.old O2.out)).mono ?_); rw [HF2.out]; rintro e w3 ⟨rfl, o1⟩; have O3 := Lib.hid (O2.out.trans o1); clear o1)
      | (go_at_call 8; (with_reducible refine (names_old (.slice ad first.length c) first _ (HT0.out.old O3.out)).mono ?_); rw [HN0.out]; rintro e w4 ⟨rfl, o1⟩; have O4 := Lib.hid (O3.out.trans o1); clear o1)
      | (go_at_call 8; (with_reducible refine (names_old (.slice bd thn.length d) thn _ (HT1.out.old O4.out)).mono ?_); rw [HN1.out]; rintro e w5 ⟨rfl, o1⟩; have O5 := Lib.hid (O4.out.trans o1); clear o1)
      | (go_at_call 8; (with_reducible refine (names_old (.slice ld last.length lc) last _ (HT2.out.old O5.out)).mono ?_); rw [HN2.out]; rintro e w6 ⟨rfl, o1⟩; have O6 := Lib.hid (O5.out.trans o1); clear o1)
      | (go_at_call 14; refine (small_any begun _ (by unfold maxLen; omega)).mono ?_; rw [HSM.out]; rintro e w7 ⟨rfl, rfl⟩))
      go_ret
      exact ⟨rfl, O2.out⟩
  · clear main
    have c0 : fitS first = false := by simpa using c0
    have HF0 := Lib.hid c0
    clear c0
    go_enter Tryd.func4, Tryd.ntmps4
    go_wp2_with (first
    | (go_at_call 7; (with_reducible refine (fits1_any (.slice ad first.length c) first _ HT0.out).mono ?_); rw [HF0.out]; rintro e w1 ⟨rfl, o1⟩; have O1 := Lib.hid o1; clear o1)
    | (go_at_call 7; (with_reducible refine (fits1_any (.slice bd thn.length d) thn _ (HT1.out.old O1.out)).mono ?_); rw [HF1.out]; rintro e w2 ⟨rfl, o1⟩; have O2 := Lib.hid (O1.out.trans o1); clear o1)
    | (go_at_call 7; (with_reducible refine (fits1_any (.slice ld last.length lc) last _ (HT2.out.old O2.out)).mono ?_); rw [HF2.out]; rintro e w3 ⟨rfl, o1⟩; have O3 := Lib.hid (O2.out.trans o1); clear o1)
    | (go_at_call 8; (with_reducible refine (names_old (.slice ad first.length c) first _ (HT0.out.old O3.out)).mono ?_); rw [HN0.out]; rintro e w4 ⟨rfl, o1⟩; have O4 := Lib.hid (O3.out.trans o1); clear o1)
    | (go_at_call 8; (with_reducible refine (names_old (.slice bd thn.length d) thn _ (HT1.out.old O4.out)).mono ?_); rw [HN1.out]; rintro e w5 ⟨rfl, o1⟩; have O5 := Lib.hid (O4.out.trans o1); clear o1)
    | (go_at_call 8; (with_reducible refine (names_old (.slice ld last.length lc) last _ (HT2.out.old O5.out)).mono ?_); rw [HN2.out]; rintro e w6 ⟨rfl, o1⟩; have O6 := Lib.hid (O5.out.trans o1); clear o1)
    | (go_at_call 14; refine (small_any begun _ (by unfold maxLen; omega)).mono ?_; rw [HSM.out]; rintro e w7 ⟨rfl, rfl⟩))
    go_ret
    exact ⟨rfl, O1.out⟩
end Go.Proofs.YtalkikljjffpmaaDoor
