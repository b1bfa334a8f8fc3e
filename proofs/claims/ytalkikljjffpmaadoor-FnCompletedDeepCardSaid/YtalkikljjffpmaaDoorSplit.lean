/- Contracts: readline.SplitSegment, impl.SplitLine. -/
import Derived.Test.YtalkikljjffpmaaDoorProg
import Derived.Test.YtalkikljjffpmaaDoorApp
namespace Go.Proofs.YtalkikljjffpmaaDoor
open Go.RowKit
set_option linter.unusedVariables false
set_option linter.unusedSimpArgs false
set_option maxRecDepth 100000

theorem info_rs : (Tryd.prog.info? 58).map (fun i => (i.zero, i.size, i.bytes)) = some (some (.slice none 0 0), 1, 24) := by kernel_rfl
theorem info_str : (Tryd.prog.info? 9).map (fun i => (i.zero, i.size, i.bytes)) = some (some (.string ByteArray.empty), 1, 16) := by kernel_rfl

/-- Where the parts of the first k runes stand: those that have ended, and where the last one begins. -/
def cutsTo (l : List Int) : Nat → List (Nat × Nat) × Nat
  | 0 => ([], 0)
  | k + 1 => if gi l k = 32 then ((cutsTo l k).1 ++ [((cutsTo l k).2, k)], k + 1) else cutsTo l k
theorem cutsTo_blank {l : List Int} {k : Nat} (h : gi l k = 32) : cutsTo l (k + 1) = ((cutsTo l k).1 ++ [((cutsTo l k).2, k)], k + 1) := by simp [cutsTo, h]
theorem cutsTo_sign {l : List Int} {k : Nat} (h : gi l k ≠ 32) : cutsTo l (k + 1) = cutsTo l k := by simp [cutsTo, h]
theorem cutsTo_le (l : List Int) : ∀ k, (cutsTo l k).2 ≤ k
  | 0 => Nat.le_refl _
  | k + 1 => by
    have := cutsTo_le l k
    by_cases h : gi l k = 32
    · rw [cutsTo_blank h]; exact Nat.le_refl _
    · rw [cutsTo_sign h]; omega
theorem cutsTo_count (l : List Int) : ∀ k, (cutsTo l k).1.length ≤ k
  | 0 => Nat.le_refl _
  | k + 1 => by
    have := cutsTo_count l k
    by_cases h : gi l k = 32
    · rw [cutsTo_blank h]; simp; omega
    · rw [cutsTo_sign h]; omega
/-- The parts of a text between blanks. -/
def cuts (l : List Int) (n : Nat) : List (Nat × Nat) := (cutsTo l n).1 ++ [((cutsTo l n).2, n)]
def part (l : List Int) (p : Nat × Nat) : List Int := (l.drop p.1).take (p.2 - p.1)
theorem length_part {l : List Int} {p : Nat × Nat} (h : p.2 ≤ l.length) (h' : p.1 ≤ p.2) : (part l p).length = p.2 - p.1 := by simp [part]; omega
theorem gi_part {l : List Int} {p : Nat × Nat} {j : Nat} (h : j < p.2 - p.1) : gi (part l p) j = gi l (p.1 + j) := by
  unfold part; rw [gi_take h, gi_drop]

theorem ret2_int {k : IntKind} {a b : Int} {v : Value} (h : a = b) : Ending.returned (.tuple #[v, .int k b]) = .returned (.tuple #[v, .int k a]) := by rw [h]
/-- What SplitSegment hands back. -/
def SplitEnd (l : List Int) (n : Nat) (w : World) (e : Ending) (w' : World) : Prop :=
  ∃ v, e = .returned (.tuple #[v, .int .i64 ((n - (cutsTo l n).2 : Nat) : Int)]) ∧ Old w w' ∧ SegsAt w' v ((cuts l n).map (part l))

set_option maxHeartbeats 1000000 in
theorem split_any (v : Value) (l : List Int) (n : Nat) (w : World) (hv : RunesAt w v l) (hn : n ≤ l.length) (hb : l.length ≤ 300) :
    Calls Tryd.prog 54 #[v, .int .i64 n] w (SplitEnd l n w) := by
  obtain ⟨b, o, c, rfl, hc, hm, hlt, hcell⟩ := hv
  unfold maxLen at hm
  go_enter Tryd.func54, Tryd.ntmps54
  go_wp2_with fail
  go_loopw [1, 6, 7, 16] (fun p s li i wr => ∃ (k f : Nat) (cs : List (Nat × Nat)) (xs : List Value) (b' c' : Nat), k ≤ n ∧ f ≤ k ∧ cutsTo l k = (cs, f) ∧ i = .int .i64 k ∧ li = .int .i64 ((f : Int) - 1) ∧ p = .int .i64 ((k : Int) - f) ∧ s = .slice (some ⟨b', 0, none⟩) xs.length c' ∧
      wr.ownsRow w.heap.size 58 1 (.slice (some ⟨b', 0, none⟩) xs.length c') xs.length xs ∧ RunesAll w xs (cs.map (part l)) ∧ Old w wr) (fun _ _ _ i _ => n - (intOf i).toNat)
  case atStart => exact ⟨0, 0, [], [], _, _, Nat.zero_le _, Nat.zero_le _, rfl, rfl, rfl, rfl, rfl, World.ownsRow_made w #[] 0 (Nat.le_refl _) (by unfold maxLen; omega) (by simp), RunesAll.nil w, Old.alloc _ _⟩
  case round =>
    obtain ⟨k, f, cs, xs, b', c', hk, hfk, hcut, rfl, rfl, rfl, rfl, hown, hall, hold⟩ := hrel
    have HC := Lib.hid hcut
    have HW := Lib.hid hown
    have HA := Lib.hid hall
    have HO := Lib.hid hold
    have hx1 : xs.length ≤ 300 := by have h1 := hall.1; have h2 := cutsTo_count l k; rw [hcut] at h2; simp at h1 h2; omega
    clear hcut hown hall
    by_cases hkn : k < n
    · have h1 := (hold.cell (o := o + k) hlt).trans (hcell k (by omega))
      have HL := Lib.hid hcell
      clear hold hcell
      obtain ⟨x, hx⟩ : ∃ x, gi l k = x := ⟨_, rfl⟩
      rw [hx] at h1
      have HX := Lib.hid hx
      clear hx
      by_cases h32 : x = 32
      · have hd : (x == 32) = true := by simp [h32]
        have H32 := Lib.hid h32
        clear h32
        go_wp2_with (at_builtin; refine wpList_append1 rfl _ _ 59 58 58 (.slice none 0 0) (.slice (some ⟨b, o + f, none⟩) (k - f) (c - f)) 24 rfl Tryd.underlying59 info_rs rfl w.heap.size _ xs.length xs rfl HW.out rfl rfl (by omega) (by omega) HO.out.size ?_; intro v' w1 hown1 hg1 hv1; obtain ⟨b2, c2, rfl⟩ := hv1; have HW1 := Lib.hid hown1; have HG1 := Lib.hid hg1; clear hown1 hg1)
        go_roundw
        case rel =>
          have hcut : cutsTo l (k + 1) = (cs ++ [(f, k)], k + 1) := by
            rw [cutsTo_blank (by rw [HX.out, H32.out]), HC.out]
          have hr : RunesAt w (.slice (some ⟨b, o + f, none⟩) (k - f) (c - f)) (part l (f, k)) := by
            have hl := length_part (l := l) (p := (f, k)) (by simp; omega) (by simp; omega)
            refine ⟨b, o + f, c - f, by rw [hl], by rw [hl]; simp; omega, by unfold maxLen; omega, hlt, fun j hj => ?_⟩
            rw [hl] at hj
            simp at hj
            rw [gi_part (by simp; omega), Nat.add_assoc]
            exact HL.out (f + j) (by omega)
          refine ⟨k + 1, k + 1, cs ++ [(f, k)], xs ++ [.slice (some ⟨b, o + f, none⟩) (k - f) (c - f)], b2, c2, by omega, by omega, hcut, by go_num, by congr 1; omega, by congr 1; omega, by simp, ?_, ?_, ?_⟩
          · have := HW1.out; simpa using this
          · rw [List.map_append]; exact HA.out.snoc hr
          · exact HO.out.own (Nat.le_refl _) HW.out HG1.out
        case measure => simp [intOf]; omega
      · have hd : (x == 32) = false := by simp [h32]
        have H32 := Lib.hid h32
        clear h32
        go_wp2_with fail
        go_roundw
        case rel => exact ⟨k + 1, f, cs, xs, b', c', by omega, by omega, by rw [cutsTo_sign (by rw [HX.out]; exact H32.out), HC.out], by go_num, rfl, by congr 1; omega, rfl, HW.out, HA.out, HO.out⟩
        case measure => simp [intOf]; omega
    · have hkn' : k = n := by omega
      subst hkn'
      have HL := Lib.hid hcell
      clear hold hcell
      by_cases hcf : f < c
      · have hr : RunesAt w (.slice (some ⟨b, o + f, none⟩) (k - f) (c - f)) (part l (f, k)) := by
          have hl := length_part (l := l) (p := (f, k)) (by simp; omega) (by simp; omega)
          refine ⟨b, o + f, c - f, by rw [hl], by rw [hl]; simp; omega, by unfold maxLen; omega, hlt, fun j hj => ?_⟩
          rw [hl] at hj
          simp at hj
          rw [gi_part (by simp; omega), Nat.add_assoc]
          exact HL.out (f + j) (by omega)
        have HR := Lib.hid hr
        clear hr
        go_wp2_with (at_builtin; refine wpList_append1 rfl _ _ 59 58 58 (.slice none 0 0) (.slice (some ⟨b, o + f, none⟩) (k - f) (c - f)) 24 rfl Tryd.underlying59 info_rs rfl w.heap.size _ xs.length xs rfl HW.out rfl rfl (by omega) (by omega) HO.out.size ?_; intro v' w1 hown1 hg1 hv1; obtain ⟨b2, c2, rfl⟩ := hv1; have HW1 := Lib.hid hown1; have HG1 := Lib.hid hg1; clear hown1 hg1)
        go_ret2
        have hcut := HC.out
        have hf : (cutsTo l k).2 = f := by rw [hcut]
        exact ⟨_, ret2_int (by rw [hf]; omega), HO.out.own (Nat.le_refl _) HW.out HG1.out, SegsAt.of_own (n := xs.length + 1) HW1.out rfl (by unfold cuts; rw [hcut, List.map_append]; exact HA.out.snoc HR.out) (HO.out.own (Nat.le_refl _) HW.out HG1.out)⟩
      · have hfc : f = c := by omega
        have hkc : k = c := by omega
        subst hkc
        subst hfc
        go_wp2_with (at_builtin; refine wpList_append1 rfl _ _ 59 58 58 (.slice none 0 0) _ 24 rfl Tryd.underlying59 info_rs rfl w.heap.size _ xs.length xs rfl HW.out rfl rfl (by omega) (by omega) HO.out.size ?_; intro v' w1 hown1 hg1 hv1; obtain ⟨b2, c2, rfl⟩ := hv1; have HW1 := Lib.hid hown1; have HG1 := Lib.hid hg1; clear hown1 hg1)
        go_ret2
        have hcut := HC.out
        have hf : (cutsTo l f).2 = f := by rw [hcut]
        have h0 : part l (f, f) = [] := by simp [part]
        exact ⟨_, ret2_int (by rw [hf]; omega), HO.out.own (Nat.le_refl _) HW.out HG1.out, SegsAt.of_own (n := xs.length + 1) HW1.out rfl (by unfold cuts; rw [hcut, List.map_append]; exact HA.out.snoc (by rw [h0]; exact ⟨b, _, _, rfl, by simp, by unfold maxLen; omega, hlt, fun j hj => absurd hj (by simp)⟩)) (HO.out.own (Nat.le_refl _) HW.out HG1.out)⟩

/-- The bytes of a part. -/
def partB (s : ByteArray) (p : Nat × Nat) : ByteArray := s.extract p.1 p.2
theorem size_partB {s : ByteArray} {p : Nat × Nat} (h : p.2 ≤ s.size) (h' : p.1 ≤ p.2) : (partB s p).size = p.2 - p.1 := by
  unfold partB; rw [ByteArray.size_extract]; omega
theorem nums_partB {s : ByteArray} {p : Nat × Nat} : nums (partB s p) = part (nums s) p := by
  unfold partB part nums
  rw [ByteArray.data_extract, Array.toList_extract, List.extract_eq_take_drop, List.map_take, List.map_drop]
theorem asc_partB {s : ByteArray} (h : asc s) (p : Nat × Nat) : asc (partB s p) := fun k hk => by
  have hk' : p.1 + k < s.size := by unfold partB at hk; rw [ByteArray.size_extract] at hk; omega
  have := h (p.1 + k) hk'
  have e : (partB s p)[k] = s[p.1 + k] := ByteArray.getElem_extract hk
  rw [e]; exact this
theorem cutsTo_in (l : List Int) : ∀ k, ∀ p ∈ (cutsTo l k).1, p.1 ≤ p.2 ∧ p.2 < k
  | 0, p, h => by simp [cutsTo] at h
  | k + 1, p, h => by
    have hle := cutsTo_le l k
    by_cases e : gi l k = 32
    · rw [cutsTo_blank e] at h
      simp at h
      rcases h with h | rfl
      · have := cutsTo_in l k p h; omega
      · exact ⟨hle, Nat.lt_succ_self _⟩
    · rw [cutsTo_sign e] at h
      have := cutsTo_in l k p h; omega
theorem cuts_in {l : List Int} {n : Nat} {p : Nat × Nat} (h : p ∈ cuts l n) : p.1 ≤ p.2 ∧ p.2 ≤ n := by
  unfold cuts at h
  simp at h
  rcases h with h | rfl
  · have := cutsTo_in l n p h; omega
  · exact ⟨cutsTo_le l n, Nat.le_refl _⟩
theorem length_cuts (l : List Int) (n : Nat) : 1 ≤ (cuts l n).length ∧ (cuts l n).length ≤ n + 1 := by
  have := cutsTo_count l n
  unfold cuts; simp; omega

/-- What impl.SplitLine hands back of ASCII: the parts, how long the last one is, true. -/
def LineEnd (s : ByteArray) (n : Nat) (w : World) (e : Ending) (w' : World) : Prop :=
  ∃ v, e = .returned (.tuple #[v, .int .i64 ((n - (cutsTo (nums s) n).2 : Nat) : Int), .bool true]) ∧ Old w w' ∧ StrsAt w' v ((cuts (nums s) n).map (partB s))

end Go.Proofs.YtalkikljjffpmaaDoor
