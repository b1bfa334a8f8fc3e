/- impl.Chosen and impl.Shown. -/
import Derived.Test.YtnfpcpjiljjdfaaCM2
import Derived.LoopTactic
namespace Go.Proofs.Ytnfpcpjiljjdfaa
open Go.RowKit
set_option linter.unusedVariables false
set_option linter.unusedSimpArgs false
set_option linter.unnecessarySimpa false
set_option maxRecDepth 100000

/-- A slice of integers, by an index function. -/
def RowI (w : World) (r : Value) (n : Nat) (f : Nat → Int) : Prop := ∃ ad c, r = .slice ad n c ∧ ∀ j, j < n → ∃ b, ad = some ⟨b, 0, none⟩ ∧ w.cell? ⟨b, j, none⟩ = some (.int .i64 (f j))
theorem RowI.of_own {w : World} {base : Nat} {e : TypeId} {v : Value} {n : Nat} {l : List Int} (h : w.ownsRow base e 1 v n (l.map (Value.int .i64))) : RowI w v n (gi l) := by
  have hl : l.length = n := by have := h.1; simpa using this
  by_cases h0 : n = 0
  · rcases h.2 with ⟨rfl, _⟩ | ⟨g, cap, cur, rfl, _⟩
    · exact ⟨none, 0, by rw [h0], fun j hj => by omega⟩
    · exact ⟨_, _, rfl, fun j hj => by omega⟩
  · obtain ⟨b, c, rfl⟩ := own_some h (by omega)
    refine ⟨_, c, rfl, fun j hj => ⟨b, rfl, ?_⟩⟩
    rw [own_cell h j hj, gv_lt (by simpa using by omega)]
    simp [gi_lt (show j < l.length by omega)]

theorem own_kept {w w' : World} {base : Nat} {e : TypeId} {sz n : Nat} {v : Value} {xs : List Value} (h : w.ownsRow base e sz v n xs) (hk : ∀ g, base ≤ g → g < w.heap.size → w'.heap[g]? = w.heap[g]?) : w'.ownsRow base e sz v n xs := by
  refine ⟨h.1, ?_⟩
  rcases h.2 with h | ⟨g, cap, cur, hv, h1, h2, h3⟩
  · exact .inl h
  · exact .inr ⟨g, cap, cur, hv, h1, (hk g h1 (Array.getElem?_eq_some_iff.1 h2).1).trans h2, h3⟩
theorem info_i64 : (Try.prog.info? 3).map (fun i => (i.zero, i.size, i.bytes)) = some (some (.int .i64 0), 1, 8) := by kernel_rfl
/-- What was selected behind each step. -/
def sels (n m : Int) (l : List Int) (k : Nat) : List Int := (List.range k).map fun j => (csAll n m (l.take (j + 1))).1
theorem sels_succ (n m : Int) (l : List Int) (k : Nat) : sels n m l (k + 1) = sels n m l k ++ [(csAll n m (l.take (k + 1))).1] := by
  unfold sels; rw [List.range_succ, List.map_append]; rfl
theorem sels_len (n m : Int) (l : List Int) (k : Nat) : (sels n m l k).length = k := by simp [sels]

set_option maxHeartbeats 1000000 in
theorem chosen_any (n m : Nat) (v : Value) (l : List Int) (w : World) (hv : Ints w .u8 v l) (hl : l.length ≤ 60) (hn : n ≤ 1000) (hm1 : 1 ≤ m) (hm : m ≤ 1000) :
    Calls Try.prog 14 #[.int .i64 n, .int .i64 m, v] w fun e w' => ∃ r, e = .returned r ∧ Old w w' ∧ RowI w' r l.length (gi (sels n m l l.length)) := by
  obtain ⟨ad, c, rfl, hc1, hc2, hcell, hwf⟩ := hv
  have HC := Lib.hid hcell
  clear hcell hwf
  go_enter Try.func14, Try.ntmps14
  go_wp2_with (go_at_call 44; refine (man_any n m w hn hm).mono ?_; rintro e w2 ⟨p, lb, ta, tc, rfl, o2, hp, h2⟩; have O2 := Lib.hid o2; have H2 := Lib.hid h2; have P2 := Lib.hid hp; clear o2 h2 hp)
  have hp0 := P2.out
  go_loopw [8, 10, 11, 12, 20] (fun out _ _ _ i wr => ∃ k : Nat, k ≤ l.length ∧ i = .int .i64 k ∧ wr.ownsRow w2.heap.size 3 1 out k ((sels n m l k).map (Value.int .i64)) ∧ CMx wr p lb (.slice ta n tc) (.slice ta n tc) m (csAll n m (l.take k)) ∧ But p w2 wr) (fun _ _ _ _ i _ => l.length - (intOf i).toNat)
  case atStart => exact ⟨0, Nat.zero_le _, rfl, by simpa [sels] using World.ownsRow_nil w2 w2.heap.size 3 1, by simpa [csAll] using H2.out, But.refl _ _⟩
  case round =>
    obtain ⟨k, hk, rfl, hown, hcm, hbut⟩ := hrel
    have HW := Lib.hid hown
    have HM := Lib.hid hcm
    have HB := Lib.hid hbut
    clear hown hcm hbut hp0
    by_cases hkm : k < l.length
    · obtain ⟨b, o, rfl, hck⟩ := HC.out k hkm
      have hbl : b < w.heap.size := World.block_lt_of_cell? w _ hck
      have hcell := (HB.out.cell (o := o + k) (Nat.lt_of_lt_of_le hbl O2.out.size) (by have := P2.out; omega)).trans ((O2.out.cell hbl).trans hck)
      clear hck
      have OKs := Lib.hid (csAll_ok (n := (n : Int)) (m := (m : Int)) (by omega) (by omega) (l.take k))
      have TK := Lib.hid (csAll_take (n := (n : Int)) (m := (m : Int)) hkm)
      go_wp2_with (first
        | (go_at_call 45; refine (choose_any p lb ta n tc m _ (gi l k) wr HM.out OKs.out hn hm1 hm).mono ?_; rintro e w3 ⟨rfl, h3, b3⟩; have H3 := Lib.hid h3; have B3 := Lib.hid b3; clear h3 b3)
        | (go_at_call 46; refine (place_any p lb _ _ m _ w3 H3.out).mono ?_; rintro e w4 ⟨rfl, o4⟩; have O4 := Lib.hid o4; have HW4 := Lib.hid (own_kept HW.out (w' := w4) (fun g hg hgl => (o4.heap (Nat.lt_of_lt_of_le hgl B3.out.size)).trans (B3.out.block g hgl (by have := H2.out.lt; omega)))); clear o4)
        | (at_builtin; refine wpList_append1 rfl _ _ 30 3 3 (.int .i64 0) _ 8 rfl Try.underlying30 info_i64 rfl w2.heap.size _ k _ rfl HW4.out rfl rfl (by omega) (by omega) (by have := HB.out.size; have := B3.out.size; have := O4.out.size; omega) ?_; intro v' w5 hown1 hg1 hv1; have HW1 := Lib.hid hown1; have HG1 := Lib.hid hg1; clear hown1 hg1 hv1))
      go_roundw
      case rel =>
        refine ⟨k + 1, by omega, by go_num, ?_, ?_, ?_⟩
        · rw [sels_succ, List.map_append, TK.out]; exact HW1.out
        · rw [TK.out]; exact (H3.out.old O4.out).own H2.out.lt H2.out.lbl HW4.out HG1.out
        · exact ((HB.out.trans B3.out).then_old O4.out).own (Nat.le_refl _) HW4.out HG1.out
      case measure => simp [intOf]; omega
    · have hkm' : k = l.length := by omega
      subst hkm'
      go_wp2_with fail
      go_ret
      exact ⟨_, rfl, O2.out.but HB.out P2.out, RowI.of_own HW.out⟩

set_option maxHeartbeats 1000000 in
theorem shown_any (n m : Nat) (v : Value) (l : List Int) (w : World) (hv : Ints w .u8 v l) (hl : l.length ≤ 60) (hn : n ≤ 1000) (hm1 : 1 ≤ m) (hm : m ≤ 1000) :
    Calls Try.prog 13 #[.int .i64 n, .int .i64 m, v] w fun e w' => e = .returned (.tuple #[.int .i64 (csAll n m l).1, .int .i64 (csAll n m l).2]) ∧ Old w w' := by
  obtain ⟨ad, c, rfl, hc1, hc2, hcell, hwf⟩ := hv
  have HC := Lib.hid hcell
  clear hcell hwf
  go_enter Try.func13, Try.ntmps13
  go_wp2_with (go_at_call 44; refine (man_any n m w hn hm).mono ?_; rintro e w2 ⟨p, lb, ta, tc, rfl, o2, hp, h2⟩; have O2 := Lib.hid o2; have H2 := Lib.hid h2; have P2 := Lib.hid hp; clear o2 h2 hp)
  have hp0 := P2.out
  go_loopw [10, 18] (fun _ i wr => ∃ k : Nat, k ≤ l.length ∧ i = .int .i64 k ∧ CMx wr p lb (.slice ta n tc) (.slice ta n tc) m (csAll n m (l.take k)) ∧ But p w2 wr) (fun _ i _ => l.length - (intOf i).toNat)
  case atStart => exact ⟨0, Nat.zero_le _, rfl, by simpa [csAll] using H2.out, But.refl _ _⟩
  case round =>
    obtain ⟨k, hk, rfl, hcm, hbut⟩ := hrel
    have HM := Lib.hid hcm
    have HB := Lib.hid hbut
    clear hcm hbut hp0
    by_cases hkm : k < l.length
    · obtain ⟨b, o, rfl, hck⟩ := HC.out k hkm
      have hbl : b < w.heap.size := World.block_lt_of_cell? w _ hck
      have hcell := (HB.out.cell (o := o + k) (Nat.lt_of_lt_of_le hbl O2.out.size) (by have := P2.out; omega)).trans ((O2.out.cell hbl).trans hck)
      clear hck
      have OKs := Lib.hid (csAll_ok (n := (n : Int)) (m := (m : Int)) (by omega) (by omega) (l.take k))
      have TK := Lib.hid (csAll_take (n := (n : Int)) (m := (m : Int)) hkm)
      go_wp2_with (go_at_call 45; refine (choose_any p lb ta n tc m _ (gi l k) wr HM.out OKs.out hn hm1 hm).mono ?_; rintro e w3 ⟨rfl, h3, b3⟩; have H3 := Lib.hid h3; have B3 := Lib.hid b3; clear h3 b3)
      go_roundw
      case rel => exact ⟨k + 1, by omega, by go_num, by rw [TK.out]; exact H3.out, HB.out.trans B3.out⟩
      case measure => simp [intOf]; omega
    · have hkm' : k = l.length := by omega
      subst hkm'
      go_wp2_with (go_at_call 46; refine (place_any p lb _ _ m _ wr HM.out).mono ?_; rintro e w4 ⟨rfl, o4⟩; have O4 := Lib.hid o4; clear o4)
      go_ret2
      refine ⟨by first | rfl | (rw [List.take_length]; rfl), (O2.out.but HB.out P2.out).trans O4.out⟩
end Go.Proofs.Ytnfpcpjiljjdfaa
