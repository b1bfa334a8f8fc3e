/- FnSegmented: a completer of segments offers what is left of the offers that begin with the last part. -/
import Derived.Test.YtalkikljjffpmaaDoorNames9
import Derived.Test.YtalkikljjffpmaaDoorSeg4
import Derived.Test.YtalkikljjffpmaaDoorLawSplitLine
namespace Go.Proofs.YtalkikljjffpmaaDoor
open Go.RowKit
set_option linter.unusedVariables false
set_option linter.unusedSimpArgs false
set_option linter.unnecessarySimpa false
set_option maxRecDepth 100000

theorem nums_app (a b : ByteArray) : nums (a ++ b) = nums a ++ nums b := by
  unfold nums; simp [ByteArray.data_append]
theorem nums_ext (s : ByteArray) (a b : Nat) : nums (s.extract a b) = ((nums s).drop a).take (b - a) := by
  have := nums_partB (s := s) (p := (a, b))
  simpa [partB, part] using this
theorem nums_eq {a b : ByteArray} (h : nums a = nums b) : a = b := by
  have hs : a.size = b.size := by have := congrArg List.length h; simpa [length_nums] using this
  apply ByteArray.ext
  apply Array.ext
  · exact hs
  · intro i h1 h2
    have e1 : gi (nums a) i = gi (nums b) i := by rw [h]
    rw [gi_nums h1, gi_nums h2] at e1
    apply UInt8.toNat_inj.1
    have : (a[i]).toNat = (b[i]).toNat := by omega
    exact this
theorem asc_app {a b : ByteArray} (h : asc a) (k : asc b) : asc (a ++ b) := fun i hi => by
  by_cases e : i < a.size
  · rw [ByteArray.getElem_append_left e]; exact h _ _
  · rw [ByteArray.getElem_append_right (by omega)]; exact k _ _
theorem pre_same (x b : ByteArray) : preB (nums x) (nums b) = preS x b := by
  unfold preB preS
  refine decide_eq_decide.2 ?_
  rw [length_nums, length_nums]
  have e : (nums x).take b.size = nums (x.extract 0 b.size) := by rw [nums_ext]; simp
  rw [e]
  exact ⟨fun h => ⟨h.1, nums_eq h.2⟩, fun h => ⟨h.1, by rw [h.2]⟩⟩
theorem asc_space : asc ⟨#[32]⟩ := fun k hk => by
  have : k = 0 := by have : (⟨#[32]⟩ : ByteArray).size = 1 := rfl; omega
  subst this; show (32 : UInt8).toNat < 128; decide
theorem out_off {l : List ByteArray} {b : ByteArray} (ha : ∀ x ∈ l, asc x) : (outS (l.map nums) (nums b)).map runesBytes = offB l b := by
  unfold outS offB
  rw [List.filter_map, List.map_map, List.map_map]
  have e : (fun x => preB x (nums b)) ∘ nums = fun x => preS x b := by funext x; exact pre_same x b
  rw [e]
  refine List.map_congr_left fun x hx => ?_
  have hax := ha x (List.mem_filter.1 hx).1
  have e2 : (nums x).drop (nums b).length ++ [32] = nums (x.extract b.size x.size ++ ⟨#[32]⟩) := by
    rw [nums_app, nums_ext, length_nums]
    rw [List.take_of_length_le (by rw [List.length_drop, length_nums]; omega)]; rfl
  simp only [Function.comp_apply]
  rw [e2]
  refine runesBytes_nums (asc_app (fun k hk => ?_) asc_space)
  rw [ByteArray.getElem_extract]; exact hax _ _
theorem asc_ext {s : ByteArray} (h : asc s) (a b : Nat) : asc (s.extract a b) := fun k hk => by
  rw [ByteArray.getElem_extract]; exact h _ _
set_option maxHeartbeats 1000000 in
theorem segm_main (v : Value) (l : List ByteArray) (s : ByteArray) (n : Nat) (w : World) (h : Strs w v l) (hf : fitS l = true) (hnm : nm9 l = true) (hs : s.size ≤ 200) (hp : rngB 32 126 s = true) (hn : n ≤ s.size) :
    Calls Tryd.prog 3 #[v, .string s, .int .i64 n] w fun e w' => e = .returned (.bool true) ∧ Below w.heap.size w w' := by
  have HT := Lib.hid h
  have HF := Lib.hid hf
  have HNM := Lib.hid hnm
  have HP := Lib.hid hp
  have HA := Lib.hid (rngB_asc hp (by omega))
  have N9 := Lib.hid (nm9_yes hnm)
  have hl8 := N9.out.1
  obtain ⟨ad, c, rfl, h2, h3, -⟩ := h
  have hn0 : (0 : Int) ≤ n := by omega
  have hn1 : (n : Int) ≤ s.size := by omega
  have dn0 : decide ((n : Int) < 0) = false := by simp
  have dn1 : decide ((n : Int) > (s.size : Int)) = false := by simp; omega
  have dn2 : decide (s.size < n) = false := by simp; omega
  have d200 : decide ((s.size : Int) > 200) = false := by simp; omega
  have d201 : decide ((200 : Int) < s.size) = false := by simp; omega
  have PN := Lib.hid (parts_any (s.extract 0 n))
  obtain ⟨PL, hPL⟩ : ∃ PL, PL = (cuts (nums s) n).map (partB s) := ⟨_, rfl⟩
  have PT := Lib.hid ((parts_take s n hn).trans hPL.symm)
  obtain ⟨bg, hbg⟩ : ∃ b, b = partB s ((cutsTo (nums s) n).2, n) := ⟨_, rfl⟩
  have hL1 : 1 ≤ PL.length ∧ PL.length ≤ 1000 := by rw [hPL, List.length_map]; have := length_cuts (nums s) n; omega
  have LG : Hid (gs PL (PL.length - 1) = bg) := by
    unfold Hid; rw [hPL, hbg]; unfold cuts gs; simp [List.getD]
  have NB : Hid (nums bg = lastP (nums s) n) := by unfold Hid; rw [hbg, nums_partB]; rfl
  have BZ : Hid (bg.size ≤ 200) := by
    unfold Hid; rw [hbg, size_partB (by simpa using hn) (cutsTo_le _ _)]; simp only; omega
  have BZ2 : Hid ((lastP (nums s) n).length = bg.size) := by unfold Hid; rw [← NB.out, length_nums]
  have ES : Hid ((s.extract 0 n).size ≤ 300) := by unfold Hid; rw [ByteArray.size_extract]; omega
  have OF : Hid ((outS (l.map nums) (lastP (nums s) n)).map (fun t => Value.string (runesBytes t)) = (offB l bg).map Value.string) := by
    unfold Hid
    rw [← NB.out, ← out_off (b := bg) (l := l) (fun x hx => ?_), List.map_map]
    · rfl
    · obtain ⟨j, hj, rfl⟩ := List.getElem_of_mem hx
      rw [← gs_lt hj]; exact rngB_asc ((N9.out.2 j hj).2.2) (by omega)
  have OFL : Hid ((outS (l.map nums) (lastP (nums s) n)).length = (offB l bg).length) := by
    have h := congrArg List.length OF.out
    rw [List.length_map, List.length_map] at h; exact h
  have i0 : (0 : Int) ≤ (PL.length : Int) - 1 := by omega
  have i1 : (PL.length : Int) - 1 < PL.length := by omega
  have i2 : ((PL.length : Int) - 1).toNat = PL.length - 1 := by omega
  have SG := fun W hW => seg4_any (.slice ad l.length c) l s n W hW hl8 (fun j hj => ⟨rngB_asc ((N9.out.2 j hj).2.2) (by omega), (N9.out.2 j hj).1, (N9.out.2 j hj).2.1⟩) HA.out hs hn
  have SG' := Lib.hid SG
  clear hf hnm hp hPL hbg SG
  go_enter Tryd.func3, Tryd.ntmps3
  go_upto_region 5 with (first
    | (go_at_call 7; refine (fits1_any _ l w HT.out).mono ?_; rw [HF.out]; rintro e w1 ⟨rfl, o1⟩; have O1 := Lib.hid o1; clear o1)
    | (go_at_call 8; refine (names_any _ l w1 (HT.out.old O1.out)).mono ?_; rw [HNM.out]; rintro e w2 ⟨rfl, n2, rfl⟩)
    | (go_at_call 9; refine (plain_any s _ (by unfold maxLen; omega)).mono ?_; rw [HP.out]; rintro e w3 ⟨rfl, rfl⟩))
  have O2 := Lib.hid (O1.out.trans (Old.drewN w1 n2))
  generalize w1.drewN n2 = w2 at O2 ⊢
  go_upto_region 6 with (go_at_call 10; refine (PN.out _ (asc_ext HA.out 0 n) ES.out).mono ?_; rw [PT.out]; rintro e w3 ⟨pv, rfl, o3, s3⟩; have O3 := Lib.hid (O2.out.trans o3); obtain ⟨pb, po, pc, rfl, p1, p2, p3, p4⟩ := s3; have c5 := p4 (PL.length - 1) (by omega); rw [LG.out] at c5; clear o3 p4)
  have e7 : (((lastP (nums s) n).length : Int) == (bg.size : Int)) = true := by rw [BZ2.out]; simp
  have HS8 : Hid (∀ j, j < l.length → (gs l j).size ≤ 1000) := fun j hj => by have := (N9.out.2 j hj).2.1; omega
  go_wp2_with (first
    | (go_at_call 11; refine (SG'.out _ (HT.out.old O3.out)).mono ?_; rintro e w4 ⟨lv, base, rfl, o4, own4⟩; rw [OF.out, OFL.out] at own4; have S4 := Lib.hid (SR.of_own own4); have O4 := Lib.hid (O3.out.trans o4); clear own4 o4)
    | (go_at_call 13; refine (off_any _ l bg _ (HT.out.old O4.out) (by omega) HS8.out (by have := BZ.out; omega)).mono ?_; rintro e w5 ⟨ov, rfl, o5, own5⟩; have S5 := Lib.hid (SR.of_own own5); have S45 := Lib.hid (S4.out.old o5); have O5 := Lib.hid (O4.out.trans o5); clear own5 o5)
    | (go_at_call 12; refine (same9_eq _ _ (offB l bg) _ S45.out S5.out).mono ?_; rintro e w6 ⟨rfl, n6, rfl⟩))
  go_ret
  exact ⟨rfl, O5.out.trans (Old.drewN _ _)⟩
set_option maxHeartbeats 1000000 in
theorem segm_any (v : Value) (l : List ByteArray) (s : ByteArray) (n : Int) (w : World) (h : Strs w v l) (hs : s.size ≤ 140737488351232) (hn : (Lit.int .i64 n).wf = true) :
    Calls Tryd.prog 3 #[v, .string s, .int .i64 n] w fun e w' => e = .returned (.bool true) ∧ Below w.heap.size w w' := by
  by_cases hall : fitS l = true ∧ nm9 l = true ∧ s.size ≤ 200 ∧ rngB 32 126 s = true ∧ 0 ≤ n ∧ n ≤ s.size
  · obtain ⟨a1, a2, a3, a4, a5, a6⟩ := hall
    obtain ⟨m, rfl⟩ : ∃ m : Nat, n = m := ⟨n.toNat, by omega⟩
    exact segm_main v l s m w h a1 a2 a3 a4 (by omega)
  · have HT := Lib.hid h
    obtain ⟨ad, c, rfl, h2, h3, -⟩ := h
    clear hn
    cases hf : fitS l with
    | false =>
      have HF := Lib.hid hf
      clear hf hall
      go_enter Tryd.func3, Tryd.ntmps3
      go_wp2_with (go_at_call 7; refine (fits1_any _ l w HT.out).mono ?_; rw [HF.out]; rintro e w1 ⟨rfl, o1⟩; have O1 := Lib.hid o1; clear o1)
      go_ret
      exact ⟨rfl, O1.out⟩
    | true =>
      have HF := Lib.hid hf
      by_cases hz : s.size ≤ 2147483647
      · cases hm : nm9 l with
        | false =>
          have HM := Lib.hid hm
          clear hf hall hm
          go_enter Tryd.func3, Tryd.ntmps3
          go_wp2_with (first
            | (go_at_call 7; refine (fits1_any _ l w HT.out).mono ?_; rw [HF.out]; rintro e w1 ⟨rfl, o1⟩; have O1 := Lib.hid o1; clear o1)
            | (go_at_call 8; refine (names_any _ l w1 (HT.out.old O1.out)).mono ?_; rw [HM.out]; rintro e w2 ⟨rfl, n2, rfl⟩))
          go_ret
          exact ⟨rfl, O1.out.trans (Old.drewN _ _)⟩
        | true =>
          have HM := Lib.hid hm
          by_cases h200 : s.size ≤ 200
          · have d200 : decide ((s.size : Int) > 200) = false := by simp; omega
            have d201 : decide ((200 : Int) < s.size) = false := by simp; omega
            cases hp : rngB 32 126 s with
            | false =>
              have HP := Lib.hid hp
              clear hf hall hm hp
              go_enter Tryd.func3, Tryd.ntmps3
              go_wp2_with (first
                | (go_at_call 7; refine (fits1_any _ l w HT.out).mono ?_; rw [HF.out]; rintro e w1 ⟨rfl, o1⟩; have O1 := Lib.hid o1; clear o1)
                | (go_at_call 8; refine (names_any _ l w1 (HT.out.old O1.out)).mono ?_; rw [HM.out]; rintro e w2 ⟨rfl, n2, rfl⟩)
                | (go_at_call 9; refine (plain_any s _ (by unfold maxLen; omega)).mono ?_; rw [HP.out]; rintro e w3 ⟨rfl, rfl⟩))
              go_ret
              exact ⟨rfl, O1.out.trans (Old.drewN _ _)⟩
            | true =>
              have HP := Lib.hid hp
              by_cases hn0 : 0 ≤ n
              · have hn1 : (s.size : Int) < n := by
                  by_cases h : n ≤ s.size
                  · exact absurd ⟨hf, hm, h200, hp, hn0, h⟩ hall
                  · omega
                have dn0 : decide (n < 0) = false := by simp; omega
                have dn1 : decide (n > (s.size : Int)) = true := by simp; omega
                clear hf hall hm hp
                go_enter Tryd.func3, Tryd.ntmps3
                go_wp2_with (first
                  | (go_at_call 7; refine (fits1_any _ l w HT.out).mono ?_; rw [HF.out]; rintro e w1 ⟨rfl, o1⟩; have O1 := Lib.hid o1; clear o1)
                  | (go_at_call 8; refine (names_any _ l w1 (HT.out.old O1.out)).mono ?_; rw [HM.out]; rintro e w2 ⟨rfl, n2, rfl⟩)
                  | (go_at_call 9; refine (plain_any s _ (by unfold maxLen; omega)).mono ?_; rw [HP.out]; rintro e w3 ⟨rfl, rfl⟩))
                go_ret
                exact ⟨rfl, O1.out.trans (Old.drewN _ _)⟩
              · have dn0 : decide (n < 0) = true := by simp; omega
                have hn1 : n < 0 := by omega
                clear hf hall hm hp
                go_enter Tryd.func3, Tryd.ntmps3
                go_wp2_with (first
                  | (go_at_call 7; refine (fits1_any _ l w HT.out).mono ?_; rw [HF.out]; rintro e w1 ⟨rfl, o1⟩; have O1 := Lib.hid o1; clear o1)
                  | (go_at_call 8; refine (names_any _ l w1 (HT.out.old O1.out)).mono ?_; rw [HM.out]; rintro e w2 ⟨rfl, n2, rfl⟩)
                  | (go_at_call 9; refine (plain_any s _ (by unfold maxLen; omega)).mono ?_; rw [HP.out]; rintro e w3 ⟨rfl, rfl⟩))
                go_ret
                exact ⟨rfl, O1.out.trans (Old.drewN _ _)⟩
          · have d200 : decide ((s.size : Int) > 200) = true := by simp; omega
            have d201 : decide ((200 : Int) < s.size) = true := by simp; omega
            clear hf hall hm
            go_enter Tryd.func3, Tryd.ntmps3
            go_wp2_with (first
              | (go_at_call 7; refine (fits1_any _ l w HT.out).mono ?_; rw [HF.out]; rintro e w1 ⟨rfl, o1⟩; have O1 := Lib.hid o1; clear o1)
              | (go_at_call 8; refine (names_any _ l w1 (HT.out.old O1.out)).mono ?_; rw [HM.out]; rintro e w2 ⟨rfl, n2, rfl⟩))
            go_ret
            exact ⟨rfl, O1.out.trans (Old.drewN _ _)⟩
      · have dz : decide ((s.size : Int) > 2147483647) = true := by simp; omega
        have dz2 : decide ((2147483647 : Int) < s.size) = true := by simp; omega
        clear hf hall
        go_enter Tryd.func3, Tryd.ntmps3
        go_wp2_with (go_at_call 7; refine (fits1_any _ l w HT.out).mono ?_; rw [HF.out]; rintro e w1 ⟨rfl, o1⟩; have O1 := Lib.hid o1; clear o1)
        go_ret
        exact ⟨rfl, O1.out⟩
end Go.Proofs.YtalkikljjffpmaaDoor
