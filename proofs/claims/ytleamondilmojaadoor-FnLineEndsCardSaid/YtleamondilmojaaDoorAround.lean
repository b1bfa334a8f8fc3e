/- impl.AroundOf: what stands around a cursor. -/
import Derived.Test.YtleamondilmojaaDoorDocX
import Derived.Test.YtleamondilmojaaDoorDocR
import Derived.Test.YtleamondilmojaaDoorDocG
import Derived.Test.YtleamondilmojaaDoorAppAt
import Derived.Laws.Rows
import Derived.Laws.Tables
import Derived.Laws.CopyOwn
namespace Go.Proofs.YtleamondilmojaaDoor
open Go.RowKit
set_option linter.unusedVariables false
set_option linter.unusedSimpArgs false
set_option linter.unnecessarySimpa false
set_option maxRecDepth 100000

/-- What stands around a cursor, cell by cell; as a value. The lines are a row of their own. -/
def aroundC (l : Bs) (k : Nat) (lv : Value) : Array Value :=
  #[.string (tx (l.take k)), .string (tx (l.drop k)), .string (tx (lineB l k)), .string (tx (lineA l k)), .string (tx (lineB l k ++ lineA l k)), .int .i64 (row l k), .int .i64 (lineB l k).length, lv, .bool (decide (row l k + 1 = (splitL l).length)), .int .i64 (lineA l k).length,
    .string (tx ((l.take k).drop (wS (isB 32) (l.take k)))), .string (tx ((l.drop k).take (wE (isB 32) (l.drop k)))), .string (tx ((l.take k).drop (wSS (isB 32) (noB 32) (l.take k)))), .string (tx ((l.drop k).take (wES (isB 32) (noB 32) (l.drop k))))]
def aroundV (l : Bs) (k : Nat) (lv : Value) : Value := .agg (aroundC l k lv)
theorem aroundC_eq (l : Bs) (k : Nat) (lv : Value) : aroundC l k lv =
  #[.string (tx (l.take k)), .string (tx (l.drop k)), .string (tx (lineB l k)), .string (tx (lineA l k)), .string (tx (lineB l k ++ lineA l k)), .int .i64 (row l k), .int .i64 (lineB l k).length, lv, .bool (decide (row l k + 1 = (splitL l).length)), .int .i64 (lineA l k).length,
    .string (tx ((l.take k).drop (wS (isB 32) (l.take k)))), .string (tx ((l.drop k).take (wE (isB 32) (l.drop k)))), .string (tx ((l.take k).drop (wSS (isB 32) (noB 32) (l.take k)))), .string (tx ((l.drop k).take (wES (isB 32) (noB 32) (l.drop k))))] := rfl
theorem aroundC_size (l : Bs) (k : Nat) (lv : Value) : (aroundC l k lv).size = 14 := rfl
theorem around_info : (Tryd.prog.info? 50).map (·.size) = some 14 := by kernel_rfl
theorem around_info2 (l : Bs) (k : Nat) (lv : Value) : (Tryd.prog.info? 50).map (·.size) = some (aroundC l k lv).size := by rw [aroundC_size]; exact around_info
theorem aroundC_one (l : Bs) (k b n c : Nat) : (aroundC l k (.slice (some ⟨b, 0, none⟩) n c)).all (·.oneCell') = true := by
  simp [aroundC, Value.oneCell']
theorem World.lt_of_heap {w : World} {b : Nat} {o : Obj} (h : w.heap[b]? = some o) : b < w.heap.size := (Array.getElem?_eq_some_iff.1 h).1
theorem results_cell {P : Program} {fn : Func} {t : Tmp} {ty : TypeId} {w : World} {v : Value} (h : fn.results = #[.cell t ty]) (tmps : Array Value) (g : Nat) (ht : tmps[t]? = some (.pointer (some ⟨g, 0, none⟩))) (hr : (loadVar ty ⟨g, 0, none⟩).run P w = .ok v w) : (results fn tmps).run P w = .ok v w := by
  unfold results
  rw [h]
  simp [ht, asAddr, hr]

set_option maxHeartbeats 4000000 in
theorem around_any (l : Bs) (k : Nat) (w : World) (hk : k ≤ l.length) (ok : okT l) :
    Calls Tryd.prog 23 #[.agg #[.string (tx l), .int .i64 k]] w fun e w' => ∃ lv, e = .returned (aroundV l k lv) ∧ Old w w' ∧ w'.ownsRow w.heap.size 9 1 lv (splitL l).length (lineVs (splitL l)) := by
  have OK := Lib.hid ok
  clear ok
  have BF : Hid (∀ w', Old ((w.alloc (.cells #[.string (tx l), .int .i64 k] 34)).alloc (.cells #[.string ⟨#[]⟩, .string ⟨#[]⟩, .string ⟨#[]⟩, .string ⟨#[]⟩, .string ⟨#[]⟩, .int .i64 0, .int .i64 0, .slice none 0 0, .bool false, .int .i64 0, .string ⟨#[]⟩, .string ⟨#[]⟩, .string ⟨#[]⟩, .string ⟨#[]⟩] 50 (0, 0))) w' → w'.heap[w.heap.size + 1]? = some (.cells #[.string ⟨#[]⟩, .string ⟨#[]⟩, .string ⟨#[]⟩, .string ⟨#[]⟩, .string ⟨#[]⟩, .int .i64 0, .int .i64 0, .slice none 0 0, .bool false, .int .i64 0, .string ⟨#[]⟩, .string ⟨#[]⟩, .string ⟨#[]⟩, .string ⟨#[]⟩] 50 (0, 0))) := fun w' o => by
    have h1 : (w.alloc (.cells #[.string (tx l), .int .i64 k] 34)).heap.size = w.heap.size + 1 := by simp
    have h2 := heap_alloc_new (w.alloc (.cells #[.string (tx l), .int .i64 k] 34)) (.cells #[.string ⟨#[]⟩, .string ⟨#[]⟩, .string ⟨#[]⟩, .string ⟨#[]⟩, .string ⟨#[]⟩, .int .i64 0, .int .i64 0, .slice none 0 0, .bool false, .int .i64 0, .string ⟨#[]⟩, .string ⟨#[]⟩, .string ⟨#[]⟩, .string ⟨#[]⟩] 50 (0, 0))
    rw [h1] at h2
    exact (o.heap (World.lt_of_heap h2)).trans h2
  go_enter Tryd.func23, Tryd.ntmps23
  go_wp2_with (first
    | (go_at_call 32; refine (docD_any l k _ hk OK.out).mono ?_; rintro e w0 ⟨p, rfl, o0, hp, d0⟩; have O0 := Lib.hid (((Old.alloc _ _).trans (Old.alloc _ _)).trans o0); have B0 := Lib.hid (BF.out _ o0); have D : Hid (∀ w', Old w0 w' → DP w' p l k) := fun w' o => d0.old o; have Z0 := Lib.hid (Old.refl w0); clear o0 d0)
    | (go_at_call 36; refine (tb_any p l k _ (D.out _ Z0.out) hk OK.out).mono ?_; rintro e w1 ⟨rfl, o⟩; have Z1 := Lib.hid (Z0.out.trans o); clear o)
    | (go_at_call 37; refine (ta_any p l k _ (D.out _ Z1.out) hk OK.out).mono ?_; rintro e w2 ⟨rfl, o⟩; have Z2 := Lib.hid (Z1.out.trans o); clear o)
    | (go_at_call 38; refine (clb_any p l k _ (D.out _ Z2.out) hk OK.out).mono ?_; rintro e w3 ⟨rfl, o⟩; have Z3 := Lib.hid (Z2.out.trans o); clear o)
    | (go_at_call 39; refine (cla_any p l k _ (D.out _ Z3.out) hk OK.out).mono ?_; rintro e w4 ⟨rfl, o⟩; have Z4 := Lib.hid (Z3.out.trans o); clear o)
    | (go_at_call 40; refine (cl_any p l k _ (D.out _ Z4.out) hk OK.out).mono ?_; rintro e w5 ⟨rfl, o⟩; have Z5 := Lib.hid (Z4.out.trans o); clear o)
    | (go_at_call 41; refine (row_any p l k _ (D.out _ Z5.out) hk OK.out).mono ?_; rintro e w6 ⟨rfl, o⟩; have Z6 := Lib.hid (Z5.out.trans o); clear o)
    | (go_at_call 42; refine (col_any p l k _ (D.out _ Z6.out) hk OK.out).mono ?_; rintro e w7 ⟨rfl, o⟩; have Z7 := Lib.hid (Z6.out.trans o); clear o)
    | (go_at_call 43; refine (lines_any p l k _ (D.out _ Z7.out) OK.out).mono ?_; rintro e w8 ⟨lv, rfl, o, r⟩; obtain ⟨vb, vc, rfl, _⟩ := lineVs_at r (splitL_pos l); have Z8 := Lib.hid (Z7.out.trans o); have RL := Lib.hid r; have SL := Lib.hid (Z7.out.size); have Y8 := Lib.hid (Old.refl w8); clear o r)
    | (go_at_call 44; refine (onlast_any p l k _ (D.out _ Z8.out) hk OK.out).mono ?_; rintro e w9 ⟨rfl, o⟩; have Z9 := Lib.hid (Z8.out.trans o); have Y9 := Lib.hid (Y8.out.trans o); clear o)
    | (go_at_call 45; refine (eol_any p l k _ (D.out _ Z9.out) hk OK.out).mono ?_; rintro e w10 ⟨rfl, o⟩; have Z10 := Lib.hid (Z9.out.trans o); have Y10 := Lib.hid (Y9.out.trans o); clear o)
    | (go_at_call 46; refine (wb_any p l k _ (D.out _ Z10.out) hk OK.out).mono ?_; rintro e w11 ⟨rfl, o⟩; have Z11 := Lib.hid (Z10.out.trans o); have Y11 := Lib.hid (Y10.out.trans o); clear o)
    | (go_at_call 47; refine (wa_any p l k _ (D.out _ Z11.out) hk OK.out).mono ?_; rintro e w12 ⟨rfl, o⟩; have Z12 := Lib.hid (Z11.out.trans o); have Y12 := Lib.hid (Y11.out.trans o); clear o)
    | (go_at_call 48; refine (wbs_any p l k _ (D.out _ Z12.out) hk OK.out).mono ?_; rintro e w13 ⟨rfl, o⟩; have Z13 := Lib.hid (Z12.out.trans o); have Y13 := Lib.hid (Y12.out.trans o); clear o)
    | (go_at_call 49; refine (was_any p l k _ (D.out _ Z13.out) hk OK.out).mono ?_; rintro e w14 ⟨rfl, o⟩; have Z14 := Lib.hid (Z13.out.trans o); have Y14 := Lib.hid (Y13.out.trans o); clear o)
    | (refine wpList_store_row rfl 50 _ _ rfl (w.heap.size + 1) (aroundC l k (.slice (some ⟨vb, 0, none⟩) (splitL l).length vc)) rfl rfl 50 _ ((Z14.out.heap (World.lt_of_heap B0.out)).trans B0.out) (around_info2 _ _ _) rfl (aroundC_one _ _ _ _ _) ?_))
  have GH : Hid (w14.heap[w.heap.size + 1]? = some (.cells #[.string ⟨#[]⟩, .string ⟨#[]⟩, .string ⟨#[]⟩, .string ⟨#[]⟩, .string ⟨#[]⟩, .int .i64 0, .int .i64 0, .slice none 0 0, .bool false, .int .i64 0, .string ⟨#[]⟩, .string ⟨#[]⟩, .string ⟨#[]⟩, .string ⟨#[]⟩] 50 (0, 0))) := (Z14.out.heap (World.lt_of_heap B0.out)).trans B0.out
  refine bodyPost_ret (v := aroundV l k (.slice (some ⟨vb, 0, none⟩) (splitL l).length vc)) (results_cell (t := 2) (ty := 50) rfl _ (w.heap.size + 1) rfl (run_loadVar_row _ _ 50 _ _ (0, 0) _ (setRow_heap _ _ _ _ _ _ GH.out) Tryd.underlying50 rfl (around_info2 _ _ _))) rfl ⟨_, rfl, ?_, ?_⟩
  · exact below_setRow (O0.out.trans Z14.out) (by omega) _
  · have hg : w.heap.size + 1 < w0.heap.size := World.lt_of_heap B0.out
    have hsl := SL.out
    refine own_down (own_keep (own_old RL.out Y14.out) (fun q hq _ => setRow_other _ _ _ _ ?_)) (by omega)
    obtain rfl : vb = q := by simpa [Value.ownBlock] using hq
    have := (own_inside RL.out vb rfl).1
    omega
end Go.Proofs.YtleamondilmojaaDoor
