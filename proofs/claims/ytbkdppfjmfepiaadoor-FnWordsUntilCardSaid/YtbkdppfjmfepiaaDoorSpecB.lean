/- The reference's documents: texts ahead of a cursor and behind it. (Out of XSpecD, for seats without spec.Lines.) -/
import Derived.Test.YtbkdppfjmfepiaaDoorSpecS
import Derived.Test.YtbkdppfjmfepiaaDoorDocG
import Derived.Deep.Cut
import Derived.Deep.RegionHeld3
namespace Go.Proofs.YtbkdppfjmfepiaaDoor
open Go.RowKit
set_option linter.unusedVariables false
set_option linter.unusedSimpArgs false
set_option linter.unnecessarySimpa false
set_option maxRecDepth 100000

theorem before_any (l : Bs) (k : Nat) (w : World) (hk : k ≤ l.length) (ok : okT l) : Calls Tryd.prog 9 #[.agg #[.string (tx l), .int .i64 k]] w fun e w' => e = .returned (.string (tx (l.take k))) ∧ Old w w' := by
  have OK := Lib.hid ok
  have hn := ok.n
  clear ok
  go_enter Tryd.func9, Tryd.ntmps9
  go_upto_region 1 with fail
  have c0 : (w.alloc (.cells #[.string (tx l), .int .i64 k] 23)).cell? ⟨w.heap.size, 0, none⟩ = some (.string (tx l)) := (World.cell?_alloc_mark w #[.string (tx l), .int .i64 k] 23 (0, 0) 0).trans rfl
  have c1 : (w.alloc (.cells #[.string (tx l), .int .i64 k] 23)).cell? ⟨w.heap.size, 1, none⟩ = some (.int .i64 k) := (World.cell?_alloc_mark w #[.string (tx l), .int .i64 k] 23 (0, 0) 1).trans rfl
  have OA := Lib.hid (Old.alloc w (.cells #[.string (tx l), .int .i64 k] 23))
  generalize w.alloc (.cells #[.string (tx l), .int .i64 k] 23) = w0 at c0 c1 OA ⊢
  have hlt := World.block_lt_of_cell? w0 _ c0
  go_wp2_with (first
    | (refine wpList_runes rfl 9 43 21 _ (tx l) rfl rfl (by kernel_rfl) (by kernel_rfl) (by kernel_rfl) (by rw [tx_size]; omega) ?_; intro vv w2 o2 r2 hv2 own2; have d1 := (o2.cell (o := 1) hlt).trans c1; have O2 := Lib.hid (OA.out.trans o2); rw [runes_tx OK.out] at hv2 r2; obtain ⟨vb, vc, rfl⟩ := hv2; rw [List.length_map] at r2; rw [List.length_map]; have R2 := Lib.hid r2; obtain ⟨_, _, _, eq, q1, q2, _⟩ := r2; injection eq with eq1 eq2 eq3; subst eq3; rw [List.length_map] at q1; unfold maxLen at q2; have i1 : (k : Int) ≤ vc := (by omega); clear o2 own2 eq1 eq2)
    | (refine wpList_convert rfl 43 9 _ _ rfl rfl (runes_back w2 43 9 21 _ _ (by kernel_rfl) (by kernel_rfl) (by kernel_rfl) (R2.out.pre hk)) ?_; rw [back_tx (OK.out.take k)]))
  go_ret
  exact ⟨rfl, O2.out⟩
theorem after_any (l : Bs) (k : Nat) (w : World) (hk : k ≤ l.length) (ok : okT l) : Calls Tryd.prog 10 #[.agg #[.string (tx l), .int .i64 k]] w fun e w' => e = .returned (.string (tx (l.drop k))) ∧ Old w w' := by
  have OK := Lib.hid ok
  have hn := ok.n
  clear ok
  have i0 : (k : Int) ≤ l.length := by omega
  have e0 : (((l.length : Int) - k).toNat) = l.length - k := by omega
  go_enter Tryd.func10, Tryd.ntmps10
  go_upto_region 1 with fail
  have c0 : (w.alloc (.cells #[.string (tx l), .int .i64 k] 23)).cell? ⟨w.heap.size, 0, none⟩ = some (.string (tx l)) := (World.cell?_alloc_mark w #[.string (tx l), .int .i64 k] 23 (0, 0) 0).trans rfl
  have c1 : (w.alloc (.cells #[.string (tx l), .int .i64 k] 23)).cell? ⟨w.heap.size, 1, none⟩ = some (.int .i64 k) := (World.cell?_alloc_mark w #[.string (tx l), .int .i64 k] 23 (0, 0) 1).trans rfl
  have OA := Lib.hid (Old.alloc w (.cells #[.string (tx l), .int .i64 k] 23))
  generalize w.alloc (.cells #[.string (tx l), .int .i64 k] 23) = w0 at c0 c1 OA ⊢
  have hlt := World.block_lt_of_cell? w0 _ c0
  go_wp2_with (first
    | (refine wpList_runes rfl 9 43 21 _ (tx l) rfl rfl (by kernel_rfl) (by kernel_rfl) (by kernel_rfl) (by rw [tx_size]; omega) ?_; intro vv w2 o2 r2 hv2 own2; have d1 := (o2.cell (o := 1) hlt).trans c1; have O2 := Lib.hid (OA.out.trans o2); rw [runes_tx OK.out] at hv2 r2; obtain ⟨vb, vc, rfl⟩ := hv2; rw [List.length_map] at r2; rw [List.length_map]; have R2 := Lib.hid r2; obtain ⟨_, _, _, eq, q1, q2, _⟩ := r2; injection eq with eq1 eq2 eq3; subst eq3; rw [List.length_map] at q1; unfold maxLen at q2; have i1 : (k : Int) ≤ vc := (by omega); clear o2 own2 eq1 eq2; rcases Nat.lt_or_ge k vc with hv | hv; rotate_left; have hv2 : k = vc := (by omega); subst hv2; rotate_left)
    | (refine wpList_convert rfl 43 9 _ _ rfl rfl (runes_back w2 43 9 21 _ _ (by kernel_rfl) (by kernel_rfl) (by kernel_rfl) (R2.out.post hk k (vc - k) (fun _ => rfl) (by omega) (by unfold maxLen; omega))) ?_; rw [back_tx (OK.out.drop k)])
    | (refine wpList_convert rfl 43 9 _ _ rfl rfl (runes_back w2 43 9 21 _ _ (by kernel_rfl) (by kernel_rfl) (by kernel_rfl) R2.out.none) ?_; rw [show runesBytes [] = tx (l.drop k) from by rw [List.drop_eq_nil_of_le (by omega)]; rfl]))
  all_goals
    go_ret
    exact ⟨rfl, O2.out⟩

theorem doc_cells (l : Bs) (k : Nat) (w : World) : ∀ w0, w0 = w.alloc (.cells #[.string (tx l), .int .i64 k] 23) → w0.cell? ⟨w.heap.size, 0, none⟩ = some (.string (tx l)) ∧ w0.cell? ⟨w.heap.size, 1, none⟩ = some (.int .i64 k) ∧ Old w w0 := by
  rintro w0 rfl
  exact ⟨(World.cell?_alloc_mark w #[.string (tx l), .int .i64 k] 23 (0, 0) 0).trans rfl, (World.cell?_alloc_mark w #[.string (tx l), .int .i64 k] 23 (0, 0) 1).trans rfl, Old.alloc w _⟩
end Go.Proofs.YtbkdppfjmfepiaaDoor
