/- goprompt's makeASCIISet. -/
import Derived.Test.YtleamondilmojaaDoorAsciiSet
import Derived.Test.YtleamondilmojaaDoorAppAt
import Derived.Laws.Rows
import Derived.Laws.Tables
import Derived.Laws.ResultCell
import Derived.Deep.WholeRow
namespace Go.Proofs.YtleamondilmojaaDoor
open Go.RowKit
set_option linter.unusedVariables false
set_option linter.unusedSimpArgs false
set_option linter.unnecessarySimpa false
set_option maxRecDepth 100000

def setC (S : Bs) : Array Value := #[.int .u32 (ascA S 0), .int .u32 (ascA S 1), .int .u32 (ascA S 2), .int .u32 (ascA S 3), .int .u32 (ascA S 4), .int .u32 (ascA S 5), .int .u32 (ascA S 6), .int .u32 (ascA S 7)]
theorem setC_at (S : Bs) (j : Nat) (h : j < 8) : (setC S)[j]? = some (.int .u32 (ascA S j)) := by
  match j, h with
  | 0, _ => rfl
  | 1, _ => rfl
  | 2, _ => rfl
  | 3, _ => rfl
  | 4, _ => rfl
  | 5, _ => rfl
  | 6, _ => rfl
  | 7, _ => rfl
theorem setC_nil : setC [] = #[.int .u32 0, .int .u32 0, .int .u32 0, .int .u32 0, .int .u32 0, .int .u32 0, .int .u32 0, .int .u32 0] := rfl
theorem setC_step (S : Bs) (c : UInt8) (h : c.toNat / 32 < 8) : (setC S).setIfInBounds (c.toNat / 32) (.int .u32 ((ascA S (c.toNat / 32) ||| 2 ^ (c.toNat % 32) : Nat) : Int)) = setC (S ++ [c]) := by
  apply Array.ext
  · rw [Array.size_setIfInBounds]; rfl
  · intro i h1 h2
    have hi : i < 8 := h2
    have e1 := setC_at (S ++ [c]) i hi
    have e2 := setC_at S i hi
    rw [Array.getElem?_eq_getElem h2] at e1
    rw [Array.getElem?_eq_getElem (by exact hi)] at e2
    injection e1 with e1
    injection e2 with e2
    rw [e1, Array.getElem_setIfInBounds, ascA_snoc]
    split
    · rename_i hj; subst hj; simp
    · exact e2
theorem aset_info (S : Bs) : (Tryd.prog.info? 70).map (·.size) = some (setC S).size := by
  have h : (Tryd.prog.info? 70).map (·.size) = some 8 := by kernel_rfl
  exact h
theorem setC_one (S : Bs) : (setC S).all (·.oneCell') = true := by simp [setC, Value.oneCell']
theorem mk_any (S : Bs) (w : World) (ok : okT S) :
    Calls Tryd.prog 50 #[.string (tx S)] w fun e w' => e = .returned (.tuple #[.agg (setC S), .bool true]) ∧ Old w w' := by
  have OK := Lib.hid ok
  have hn := ok.n
  clear ok
  have HS : Hid ((tx S).size = S.length) := tx_size S
  go_enter Tryd.func50, Tryd.ntmps50
  go_wp2
  go_loopw [4] (fun i wr => ∃ q : Nat, q ≤ S.length ∧ i = .int .i64 q ∧ wr = w.alloc (.cells (setC (S.take q)) 70)) (fun i _ => S.length - (intOf i).toNat)
  case atStart => exact ⟨0, Nat.zero_le _, rfl, rfl⟩
  case round =>
    obtain ⟨q, hk, rfl, rfl⟩ := hrel
    by_cases hq : q < S.length
    · have hs := HS.out
      have hq2 : q < (tx S).size := by omega
      have hg : (tx S)[q]'hq2 = S[q]'hq := get_tx hq hq2
      have hlt : (S[q]'hq).toNat < 128 := OK.out.a _ (List.getElem_mem hq)
      obtain ⟨b, hb⟩ : ∃ b, b = S[q]'hq := ⟨_, rfl⟩
      rw [← hb] at hg hlt
      have HB := Lib.hid hb
      obtain ⟨x, hx⟩ : ∃ x, x = ascA (S.take q) (b.toNat / 32) := ⟨_, rfl⟩
      have hc1 : (w.alloc (.cells (setC (S.take q)) 70)).cell? ⟨w.heap.size, b.toNat / 32, none⟩ = some (.int .u32 x) := by
        rw [cell_of_row _ _ _ _ _ _ (heap_alloc_new w _), hx]; exact setC_at _ _ (by omega)
      have HX := Lib.hid hx
      have e0 : ((tx S)[q]'hq2).toNat = b.toNat := by rw [hg]
      clear hb hg hx
      have hj : b.toNat / 32 < 8 := by omega
      have STEP : Hid ((setC (S.take q)).setIfInBounds (b.toNat / 32) (Value.int IntKind.u32 (bits BinOp.or IntKind.u32 (↑x) (2 ^ (b.toNat % 32) % 4294967296))) = setC (S.take (q + 1))) := by
        unfold Hid
        rw [pow_mod32 _ (by omega)]
        have e3 : ((2 ^ (b.toNat % 32) : Nat) : Int) = (2 : Int) ^ (b.toNat % 32) := by simp
        rw [← e3, bits_or_u32 _ _ (by rw [HX.out]; exact ascA_lt _ _ _ rfl) (pow_lt32 _ (by omega)), List.take_succ_eq_append_getElem hq, ← HB.out, HX.out]
        exact setC_step _ _ hj
      go_wp2_with fail
      refine ⟨⟨q + 1, by omega, by go_num, by rw [STEP.out]⟩, ?_⟩
      simp only [intOf]; omega
    · obtain rfl : q = S.length := by omega
      have hs := HS.out
      rw [List.take_length]
      go_wp2_with (first
        | refine wpList_load_row rfl 70 _ rfl w.heap.size rfl 70 (setC S) (0, 0) _ (heap_alloc_new w _) Tryd.underlying70 rfl (aset_info _) ?_
        | refine wpList_store_row rfl 70 _ _ rfl w.heap.size (setC S) rfl rfl 70 _ (heap_alloc_new w _) (aset_info _) rfl (setC_one _) ?_)
      refine bodyPost_ret (v := .tuple #[.agg (setC S), .bool true]) ?_ rfl ⟨rfl, ?_⟩
      · rw [results_cell_tmp (p := 2) (u := 3) (ty := 70) rfl]
        simp only [Array.getD_eq_getD_getElem?]
        show ((loadVar 70 ⟨w.heap.size, 0, none⟩).run Tryd.prog _).andThen _ = _
        rw [run_loadVar_row _ w.heap.size 70 70 (setC S) (0, 0) _ (setRow_heap _ _ _ _ _ _ (heap_alloc_new w _)) Tryd.underlying70 rfl (aset_info _)]
        rfl
      · rw [World.setRow_alloc_new]; exact Old.alloc _ _
end Go.Proofs.YtleamondilmojaaDoor
