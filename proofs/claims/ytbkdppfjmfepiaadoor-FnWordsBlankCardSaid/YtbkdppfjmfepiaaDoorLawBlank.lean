/- FnWordsBlank: the words by blanks are the words by the separator ' '. -/
import Derived.Test.YtbkdppfjmfepiaaDoorUntil
import Derived.Test.YtbkdppfjmfepiaaDoorAround
import Derived.Deep.Cut
import Derived.Deep.RegionHeld3
namespace Go.Proofs.YtbkdppfjmfepiaaDoor
open Go.RowKit
set_option linter.unusedVariables false
set_option linter.unusedSimpArgs false
set_option linter.unnecessarySimpa false
set_option maxRecDepth 100000

theorem isB_set : setP [32] false = isB 32 := by
  funext x
  unfold setP hasb isB
  by_cases h : x = 32
  · subst h; rfl
  · have h2 : List.contains [(32 : UInt8)] x = false := by simp; exact h
    have h3 : ((x.toNat : Int) == 32) = false := by
      rw [beq_eq_false_iff_ne]; intro e; apply h; apply UInt8.toNat_inj.1
      have : (32 : UInt8).toNat = 32 := rfl
      omega
    rw [h2, h3]; rfl
theorem noB_set : setP [32] true = noB 32 := by
  funext x
  have h := congrFun isB_set x
  unfold setP isB at h
  unfold setP noB
  rw [← h]; cases hasb [32] x <;> rfl

/-- What is told, in a variable of the caller's own. -/
theorem around_laid (w : World) (l : Bs) (k b c : Nat) (z : Array Value) : ∃ w', w' = (w.alloc (.cells z 41)).setRow w.heap.size (aroundC l k (.slice (some ⟨b, 0, none⟩) (splitL l).length c)) ∧ Old w w' ∧ w'.heap[w.heap.size]? = some (.cells (aroundC l k (.slice (some ⟨b, 0, none⟩) (splitL l).length c)) 41 (0, 0)) :=
  ⟨_, rfl, below_setRow (Old.alloc _ _) (Nat.le_refl _) _, setRow_heap _ _ _ _ _ _ (heap_alloc_new _ _)⟩
set_option maxHeartbeats 4000000 in
theorem lawBlank_any (s : ByteArray) (z : Int) (w : World) (hs : s.size ≤ 9223372036854775807) (hz : (Lit.int .i64 z).wf = true) :
    Calls Tryd.prog 5 #[.agg #[.string s, .int .i64 z]] w fun e w' => e = .returned (.bool true) ∧ Below w.heap.size w w' := by
  have C0 : Hid (∀ w0 w', w0 = w.alloc (.cells #[.string s, .int .i64 z] 23) → Old w0 w' → w'.cell? ⟨w.heap.size, 0, none⟩ = some (.string s) ∧ w'.cell? ⟨w.heap.size, 1, none⟩ = some (.int .i64 z)) := fun w0 w' e o => by
    subst e
    have c0 := (World.cell?_alloc_mark w #[.string s, .int .i64 z] 23 (0, 0) 0).trans rfl
    have c1 := (World.cell?_alloc_mark w #[.string s, .int .i64 z] 23 (0, 0) 1).trans rfl
    have hlt := World.block_lt_of_cell? _ _ c0
    exact ⟨(o.cell hlt).trans c0, (o.cell hlt).trans c1⟩
  have O0 := Lib.hid (Old.alloc w (.cells #[.string s, .int .i64 z] 23))
  go_enter Tryd.func5, Tryd.ntmps5
  go_upto_region 1 with fail
  generalize hW : w.alloc (.cells #[.string s, .int .i64 z] 23) = Wd at O0 ⊢
  obtain ⟨d, hd⟩ : ∃ d, d = w.heap.size := ⟨_, rfl⟩
  rw [← hd]
  have DC : Hid (∀ w', Old Wd w' → w'.cell? ⟨d, 0, none⟩ = some (.string s) ∧ w'.cell? ⟨d, 1, none⟩ = some (.int .i64 z)) := fun w' o => by
    rw [hd]; exact C0.out _ w' hW.symm o
  clear hW hd C0
  obtain ⟨x0, x1⟩ := DC.out Wd (Old.refl _)
  by_cases h1 : s.size ≤ 2147483647
  · have d1 : Hid (decide (s.size ≤ 2147483647) = true) := by unfold Hid; simpa using h1
    cases h2 : drB s z with
    | false =>
      have H2 := Lib.hid h2
      clear h2
      go_wp2_with (first
        | (go_at_call 6; refine (fits_any s z _ (by omega)).mono ?_; rw [d1.out]; rintro e w1 ⟨rfl, o1⟩; have O1 := Lib.hid (O0.out.trans o1); have D1 := DC.out _ o1; obtain ⟨y0, y1⟩ := D1; clear o1)
        | (go_at_call 7; refine (right_any s z _ (by omega)).mono ?_; rw [H2.out]; rintro e w2 ⟨rfl, o2⟩; have O2 := Lib.hid (O1.out.trans o2); clear o2))
      go_ret
      exact ⟨rfl, O2.out⟩
    | true =>
      have H2 := Lib.hid h2
      obtain ⟨l, rfl⟩ : ∃ l, s = tx l := ⟨bs s, (tx_bs s).symm⟩
      obtain ⟨k, rfl, hk, ok, hl⟩ := dr_ok h2
      have OK := Lib.hid ok
      have ok32 : okT [32] := ⟨by decide, by decide⟩
      have WU0 : ∀ w', Calls Tryd.prog 11 #[.agg #[.string (tx l), .int .i64 k], .string ⟨#[32]⟩] w' _ := fun w' => wu_any l k [32] w' hk ok ok32 (by decide)
      unfold w1t w2t w3t w4t at WU0
      rw [isB_set, noB_set] at WU0
      have WU := Lib.hid WU0
      have s1 : (tx (l.take k)).size ≤ 1000000 := by rw [tx_size]; exact (ok.take k).n
      have s2 : (tx (l.drop k)).size ≤ 1000000 := by rw [tx_size]; exact (ok.drop k).n
      clear h2 ok WU0 ok32
      go_wp2_with (first
        | (go_at_call 6; refine (fits_any (tx l) k _ (by omega)).mono ?_; rw [d1.out]; rintro e w1 ⟨rfl, o1⟩; have P1 := Lib.hid o1; have D1 := DC.out _ o1; obtain ⟨y0, y1⟩ := D1; clear o1)
        | (go_at_call 7; refine (right_any (tx l) k _ (by omega)).mono ?_; rw [H2.out]; rintro e w2 ⟨rfl, o2⟩; have P2 := Lib.hid (P1.out.trans o2); have D2 := DC.out _ P2.out; obtain ⟨t0, t1⟩ := D2; clear o2)
        | (go_at_call 18; refine (around_any l k _ hk OK.out).mono ?_; rintro e w3 ⟨lv, rfl, o3, r3⟩; obtain ⟨vb, vc, rfl, _⟩ := lineVs_at r3 (splitL_pos l); have P3 := Lib.hid (P2.out.trans o3); clear o3 r3)
        | (refine wpList_store_row rfl 41 _ _ rfl w3.heap.size (aroundC l k (.slice (some ⟨vb, 0, none⟩) (splitL l).length vc)) rfl rfl 41 _ (heap_alloc_new w3 _) (around_info2 _ _ _) rfl (aroundC_one _ _ _ _ _) ?_; obtain ⟨w4, hw4, o4, c4⟩ := around_laid w3 l k vb vc #[.string ⟨#[]⟩, .string ⟨#[]⟩, .string ⟨#[]⟩, .string ⟨#[]⟩, .string ⟨#[]⟩, .int .i64 0, .int .i64 0, .slice none 0 0, .bool false, .int .i64 0, .string ⟨#[]⟩, .string ⟨#[]⟩, .string ⟨#[]⟩, .string ⟨#[]⟩]; rw [show World.setRow _ _ _ = w4 from hw4.symm]; have P4 := Lib.hid (P3.out.trans o4); have C4 := Lib.hid c4; have D4 := DC.out _ P4.out; obtain ⟨u0, u1⟩ := D4; clear o4 c4 hw4)
        | (go_at_call 11; refine (WU.out _).mono ?_; rintro e w5 ⟨rfl, o5⟩; have D5 := DC.out _ (P4.out.trans o5); obtain ⟨f0, f1⟩ := D5; have P5 := Lib.hid (P4.out.trans o5); have h5 := (o5.heap (World.lt_of_heap C4.out)).trans C4.out; have cc := fun j => cell_of_row w5 w3.heap.size j _ _ _ h5; have v0 : w5.cell? ⟨w3.heap.size, 0, none⟩ = some (.string (tx (l.take k))) := cc 0; have v1 : w5.cell? ⟨w3.heap.size, 1, none⟩ = some (.string (tx (l.drop k))) := cc 1; have v10 : w5.cell? ⟨w3.heap.size, 10, none⟩ = some (.string (tx ((l.take k).drop (wS (isB 32) (l.take k))))) := cc 10; have v11 : w5.cell? ⟨w3.heap.size, 11, none⟩ = some (.string (tx ((l.drop k).take (wE (isB 32) (l.drop k))))) := cc 11; have v12 : w5.cell? ⟨w3.heap.size, 12, none⟩ = some (.string (tx ((l.take k).drop (wSS (isB 32) (noB 32) (l.take k))))) := cc 12; have v13 : w5.cell? ⟨w3.heap.size, 13, none⟩ = some (.string (tx ((l.drop k).take (wES (isB 32) (noB 32) (l.drop k))))) := cc 13; have hap : tx (l.take k) ++ tx (l.drop k) = tx l := (tx_append _ _).trans (congrArg tx (List.take_append_drop k l)); clear o5 h5 cc))
      go_ret
      exact ⟨rfl, O0.out.trans P5.out⟩
  · have d1 : Hid (decide (s.size ≤ 2147483647) = false) := by unfold Hid; simpa using h1
    go_wp2_with (go_at_call 6; refine (fits_any s z _ (by omega)).mono ?_; rw [d1.out]; rintro e w1 ⟨rfl, o1⟩; have O1 := Lib.hid (O0.out.trans o1); clear o1)
    go_ret
    exact ⟨rfl, O1.out⟩
end Go.Proofs.YtbkdppfjmfepiaaDoor
