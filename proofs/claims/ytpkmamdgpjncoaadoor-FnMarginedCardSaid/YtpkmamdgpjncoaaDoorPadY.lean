/- padding.NewWriter, padding.String: a plain text filled up. -/
import Derived.Test.YtpkmamdgpjncoaaDoorPadX
namespace Go.Proofs.YtpkmamdgpjncoaaDoor
open Go.RowKit
set_option linter.unusedVariables false
set_option linter.unusedSimpArgs false
set_option linter.unnecessarySimpa false
set_option maxRecDepth 100000

theorem AW.fresh (w : World) (T : TypeId) (K : Value → Int → Array Value) (o : Nat) (hK : Ctx K o) :
    AW ((w.alloc (.cells (K (.slice none 0 0) 0) T)).alloc (.cells (awC w.heap.size o (.slice none 0 0)) 67)) (w.heap.size + 1) w.heap.size o T K w.heap.size (.slice none 0 0) (.slice none 0 0) [] := by
  have hs : (w.alloc (.cells (K (.slice none 0 0) 0) T)).heap.size = w.heap.size + 1 := by simp
  have a1 := heap_alloc_new w (.cells (K (.slice none 0 0) 0) T)
  have a2 := heap_alloc_new (w.alloc (.cells (K (.slice none 0 0) 0) T)) (.cells (awC w.heap.size o (.slice none 0 0)) 67)
  rw [hs] at a2
  exact ⟨⟨hK, ⟨0, (heap_alloc_old _ _ (by omega)).trans a1⟩, World.ownsRow_nil _ _ _ _, by simp [Value.ownBlock]⟩, a2, .inl rfl, by omega, by simp [Value.ownBlock], by simp [Value.ownBlock], by simp [Value.ownBlock], by simp [Value.ownBlock], Nat.le_refl _, by omega, by simp [Value.ownBlock]⟩
theorem new_any (width : Nat) (w : World) : Calls Tryd.prog 25 #[.int .u64 width, .nilFunc] w fun e w' => e = .returned (.pointer (some ⟨w.heap.size, 0, none⟩)) ∧ AW w' (w.heap.size + 1) w.heap.size 3 71 (pdC width .nilFunc (w.heap.size + 1) (.slice none 0 0) 0 0) w.heap.size (.slice none 0 0) (.slice none 0 0) [] ∧ Old w w' := by
  go_enter Tryd.func25, Tryd.ntmps25
  go_wp2_with fail
  go_ret
  exact ⟨rfl, AW.fresh w 71 (pdC width .nilFunc (w.heap.size + 1) (.slice none 0 0) 0 0) 3 (pdC_ctx _ _ _ _ _ _), (Old.alloc _ _).then_alloc _⟩
/-- v's bytes read m, from w on. -/
def Reads (w : World) (v : Value) (m : List UInt8) : Prop := (∃ ao c, v = .slice ao m.length c) ∧ ∀ W, Old w W → (convert 49 9 v).run Tryd.prog W = .ok (.string ⟨m.toArray⟩) W
theorem reads_own {w : World} {B : Nat} {v : Value} {m : List UInt8} (h : w.ownsRow B 5 1 v m.length (byV m)) : Reads w v m := by
  rcases own_two h with ⟨h1, h2, h3⟩ | ⟨g, cap, cur, hv, h1, h2, h3, h4, h5, h6⟩
  · obtain rfl := List.eq_nil_of_length_eq_zero h3
    subst h1
    exact ⟨⟨none, 0, rfl⟩, fun W o => Lib.run_convert_nil_bytes (P := Tryd.prog) W 49 9 5 0 (by kernel_rfl) (by kernel_rfl) (by kernel_rfl)⟩
  · subst hv
    refine ⟨⟨_, _, rfl⟩, fun W o => run_convert_bytes_back (P := Tryd.prog) W 49 9 5 ⟨g, 0, none⟩ cap m Tryd.underlying49 Tryd.underlying5 Tryd.underlying9 (fun j hj => ?_)⟩
    have hadd : (⟨g, 0, none⟩ : Addr).add j = ⟨g, j, none⟩ := by unfold Addr.add; split <;> simp_all
    rw [hadd, o.cell (flt h2), fcell h2 j]
    have e := congrArg (fun x => x[j]?) h6
    simp only [List.getElem?_take] at e
    rw [if_pos hj] at e
    rw [← Array.getElem?_toList, e]
    unfold byV
    rw [List.getElem?_map, List.getElem?_eq_getElem hj]
    rfl
theorem reads_zero (w : World) : Reads w (.slice none 0 0) [] := ⟨⟨none, 0, rfl⟩, fun W o => Lib.run_convert_nil_bytes (P := Tryd.prog) W 49 9 5 0 (by kernel_rfl) (by kernel_rfl) (by kernel_rfl)⟩
theorem Reads.old {w w' : World} {v : Value} {m : List UInt8} (h : Reads w v m) (o : Old w w') : Reads w' v m := ⟨h.1, fun W k => h.2 W (o.trans k)⟩
theorem byt_any {w : World} {b o B : Nat} {C : Array Value} {T : TypeId} {cv : Value} {m : List UInt8} (hC : w.heap[b]? = some (.cells C T)) (h0 : C[o]? = some cv) (h1 : C[o + 1]? = some (.int .i64 0)) (own : w.ownsRow B 5 1 cv m.length (byV m)) :
    Calls Tryd.prog 61 #[.pointer (some ⟨b, o, none⟩)] w fun e w' => ∃ sv, e = .returned sv ∧ Old w w' ∧ Reads w' sv m := by
  have R := reads_own own
  rcases own_two own with ⟨e1, e2, e3⟩ | ⟨g, cap, cur, hv, _, _, h3, h4, _, _⟩
  · subst e1
    refine (byt_nil b o C T w hC h0 h1).mono ?_
    rintro e w' ⟨rfl, o', _⟩
    exact ⟨_, rfl, o', R.old o'⟩
  · subst hv
    by_cases hc : 0 < cap
    · refine (byt_row b o g m.length cap C T w hC h0 h1 h3 h4 hc).mono ?_
      rintro e w' ⟨rfl, o', _⟩
      exact ⟨_, rfl, o', R.old o'⟩
    · obtain rfl : cap = 0 := by omega
      have hm0 : m.length = 0 := by omega
      obtain rfl := List.eq_nil_of_length_eq_zero hm0
      have c0 := (fcell hC o).trans h0
      have c1 := (fcell hC (o + 1)).trans h1
      simp only [List.length_nil] at c0
      have R0 := Lib.hid R
      clear hC h0 h1 R
      go_enter Tryd.func61, Tryd.ntmps61
      go_wp2_with fail
      go_quiet (fail)
      go_wp2_with fail
      go_ret
      first
        | exact ⟨_, rfl, Old.drewN _ _, reads_zero _⟩
        | exact ⟨_, rfl, Old.drewN _ _, R0.out.old (Old.drewN _ _)⟩
theorem byts_any {w : World} {p B : Nat} {m : List UInt8} (h : Cache w p B m) : Calls Tryd.prog 56 #[.pointer (some ⟨p, 0, none⟩)] w fun e w' => ∃ sv, e = .returned sv ∧ Old w w' ∧ Reads w' sv m := by
  obtain ⟨C, cv, h1, h2, h3, h4⟩ := h
  go_enter Tryd.func56, Tryd.ntmps56
  go_wp2_with (go_at_call 61; refine (byt_any h1 h2 h3 h4).mono ?_; rintro e w1 ⟨sv, rfl, o1, r1⟩)
  go_ret
  exact ⟨sv, rfl, o1, r1⟩
theorem pad_by (width q p B : Nat) (cv : Value) (cl : Int) (hw : width ≤ 1000) : PadBy blk .nilFunc q p B width width cv cl := fun W v rb k l h hk hl => pad_any h hw hk hl
theorem padSG_blk (n : Nat) : padSG blk n = padS n := rfl
theorem padRG_blk (n : Nat) (l : List UInt8) : padRG blk n l = padR n l := rfl
theorem padEG_blk (n : Nat) (s : List UInt8 × Nat) : padEG blk n s = padE n s := rfl
theorem Old.trans2 {w w1 w2 w3 : World} (h : Old w w1) (a : Below w.heap.size w1 w2) (b : Below w.heap.size w2 w3) : Old w w3 := Below.trans (B := w.heap.size) (Below.trans (B := w.heap.size) h a) b
/-- What a padding writer does to a text that is not too long. -/
def padOk (width : Nat) (d : List UInt8) : Prop := pln d ∧ d.length ≤ 100000 ∧ width ≤ 1000 ∧ ∀ i, i ≤ d.length → (padR width (d.take i)).1.length + width + 10 ≤ 1000000
set_option maxHeartbeats 4000000 in
theorem pby_any (width : Nat) (d : List UInt8) (ao : Option Addr) (n c : Nat) (w : World) (hn : n = d.length) (hr : Reads w (.slice ao n c) d) (ok : padOk width d) :
    Calls Tryd.prog 65 #[.slice ao n c, .int .u64 width] w fun e w' => ∃ sv, e = .returned sv ∧ Old w w' ∧ Reads w' sv (padM width d) := by
  obtain ⟨ok1, ok2, ok3, ok4⟩ := ok
  have HR := Lib.hid hr
  have OK := Lib.hid ok1
  have OL := Lib.hid ok4
  have HN := Lib.hid hn
  clear hr ok1 ok4 hn
  have hk : (padR width d).2 ≤ d.length := padR_k width d
  have hl := OL.out d.length (Nat.le_refl _)
  rw [List.take_length] at hl
  go_enter Tryd.func65, Tryd.ntmps65
  go_wp2_with (first
    | (go_at_call 25; refine (new_any width w).mono ?_; rintro e w1 ⟨rfl, h1, o1⟩; have H1 := Lib.hid h1; have O1 := Lib.hid o1; clear h1 o1)
    | (go_at_call 27
       refine (pwr_any blk H1.out (pad_by _ _ _ _ _ _ ok3) d n HN.out ao c (HR.out.2 _ O1.out) OK.out (by rw [HN.out]; omega) OL.out (fun k => by rw [blk_len]; omega)).mono ?_
       rintro e w2 ⟨rfl, v2, rb2, h2, m2⟩
       have H2 := Lib.hid h2
       have B2 := Lib.hid (H1.out.below m2)
       clear h2 m2)
    | (go_at_call 51
       refine (fl_any blk H2.out (pad_by _ _ _ _ _ _ ok3) (by rw [padRG_blk]; omega) (by rw [padRG_blk]; omega) (by rw [blk_len]; omega)).mono ?_
       rintro e w3 ⟨rfl, h3, b3⟩
       have H3 := Lib.hid h3
       have O3 : Hid (Old w w3) := O1.out.trans2 B2.out b3
       clear h3 b3)
    | (go_at_call 56
       refine (byts_any H3.out).mono ?_
       rintro e w4 ⟨sv, rfl, o4, r4⟩
       have O4 := Lib.hid (O3.out.trans o4)
       have R4 := Lib.hid r4
       clear o4 r4))
  go_ret
  exact ⟨sv, rfl, O4.out, R4.out⟩
end Go.Proofs.YtpkmamdgpjncoaaDoor
