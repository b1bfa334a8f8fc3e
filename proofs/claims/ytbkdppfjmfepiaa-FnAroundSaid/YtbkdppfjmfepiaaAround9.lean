/- spec.AroundOf: what stands around a cursor, by the reference. -/
import Derived.Test.YtbkdppfjmfepiaaSpecD
import Derived.Test.YtbkdppfjmfepiaaAround
import Derived.Test.YtbkdppfjmfepiaaAnyT
import Derived.Test.YtbkdppfjmfepiaaCM0
import Derived.Deep.Cut
import Derived.Deep.RegionHeld3
namespace Go.Proofs.Ytbkdppfjmfepiaa
open Go.RowKit
set_option linter.unusedVariables false
set_option linter.unusedSimpArgs false
set_option linter.unnecessarySimpa false
set_option maxRecDepth 100000

theorem isB_set : setP [32] false = isB 32 := by
  funext x
  unfold setP hasb isB
  by_cases h : x = 32
  · subst h; rfl
  · have h2 : List.contains [(32 : UInt8)] x = false := by simp; exact h
    have h3 : ((x.toNat : Int) == 32) = false := by
      rw [beq_eq_false_iff_ne]; intro e; apply h; apply UInt8.toNat_inj.1
      have : (32 : UInt8).toNat = 32 := rfl
      omega
    rw [h2, h3]; rfl
theorem noB_set : setP [32] true = noB 32 := by
  funext x
  have h := congrFun isB_set x
  unfold setP isB at h
  unfold setP noB
  rw [← h]; cases hasb [32] x <;> rfl

/-- Within spec.AroundOf: what comes in, what goes out. -/
def TA (W : World) (g d : Nat) (l : Bs) (k : Nat) (old new : Array Value) (b : Bool) (w : World) : Prop :=
  But g W w ∧ w.heap[g]? = some (.cells (if b then new else old) 56 (0, 0)) ∧ w.cell? ⟨d, 0, none⟩ = some (.string (tx l)) ∧ w.cell? ⟨d, 1, none⟩ = some (.int .i64 k) ∧ g ≠ d
theorem TA.old {W : World} {g d : Nat} {l : Bs} {k : Nat} {old new : Array Value} {b : Bool} {w w' : World} (h : TA W g d l k old new b w) (o : Old w w') : TA W g d l k old new b w' :=
  ⟨h.1.then_old o, (o.heap (World.lt_of_heap h.2.1)).trans h.2.1, (o.cell (World.block_lt_of_cell? w _ h.2.2.1)).trans h.2.2.1, (o.cell (World.block_lt_of_cell? w _ h.2.2.1)).trans h.2.2.2.1, h.2.2.2.2⟩
theorem TA.set {W : World} {g d : Nat} {l : Bs} {k : Nat} {old new : Array Value} {w : World} (h : TA W g d l k old new false w) : TA W g d l k old new true (w.setRow g new) := by
  have hd := World.block_lt_of_cell? w _ h.2.2.1
  refine ⟨⟨h.1.os, h.1.tape, h.1.output, by have := h.1.size; simpa using this, fun q hq hne => (setRow_other _ _ _ _ hne).trans (h.1.block q hq hne)⟩, setRow_heap _ _ _ _ _ _ h.2.1, ?_, ?_, h.2.2.2.2⟩
  · exact (World.cell?_of_block (w := w) (a := ⟨d, 0, none⟩) (setRow_other _ _ _ _ (Ne.symm h.2.2.2.2))).trans h.2.2.1
  · exact (World.cell?_of_block (w := w) (a := ⟨d, 1, none⟩) (setRow_other _ _ _ _ (Ne.symm h.2.2.2.2))).trans h.2.2.2.1

set_option maxHeartbeats 8000000 in
theorem around9_any (l : Bs) (k : Nat) (w : World) (hk : k ≤ l.length) (ok : okT l) :
    Calls Try.prog 31 #[.agg #[.string (tx l), .int .i64 k]] w fun e w' => ∃ lv, e = .returned (aroundV l k lv) ∧ Old w w' ∧ w'.ownsRow w.heap.size 9 1 lv (splitL l).length (lineVs (splitL l)) := by
  have OK := Lib.hid ok
  have hn := ok.n
  have T0 : Hid (∀ m, TA ((w.alloc (.cells #[.string (tx l), .int .i64 k] 47)).alloc (.cells #[.string ⟨#[]⟩, .string ⟨#[]⟩, .string ⟨#[]⟩, .string ⟨#[]⟩, .string ⟨#[]⟩, .int .i64 0, .int .i64 0, .slice none 0 0, .bool false, .int .i64 0, .string ⟨#[]⟩, .string ⟨#[]⟩, .string ⟨#[]⟩, .string ⟨#[]⟩] 56 (0, 0))) (w.heap.size + 1) w.heap.size l k #[.string ⟨#[]⟩, .string ⟨#[]⟩, .string ⟨#[]⟩, .string ⟨#[]⟩, .string ⟨#[]⟩, .int .i64 0, .int .i64 0, .slice none 0 0, .bool false, .int .i64 0, .string ⟨#[]⟩, .string ⟨#[]⟩, .string ⟨#[]⟩, .string ⟨#[]⟩] #[.string ⟨#[]⟩, .string ⟨#[]⟩, .string ⟨#[]⟩, .string ⟨#[]⟩, .string ⟨#[]⟩, .int .i64 0, .int .i64 0, .slice none 0 0, .bool false, .int .i64 0, .string ⟨#[]⟩, .string ⟨#[]⟩, .string ⟨#[]⟩, .string ⟨#[]⟩] false (((w.alloc (.cells #[.string (tx l), .int .i64 k] 47)).alloc (.cells #[.string ⟨#[]⟩, .string ⟨#[]⟩, .string ⟨#[]⟩, .string ⟨#[]⟩, .string ⟨#[]⟩, .int .i64 0, .int .i64 0, .slice none 0 0, .bool false, .int .i64 0, .string ⟨#[]⟩, .string ⟨#[]⟩, .string ⟨#[]⟩, .string ⟨#[]⟩] 56 (0, 0))).drewN m)) := fun m => by
    have h1 : (w.alloc (.cells #[.string (tx l), .int .i64 k] 47)).heap.size = w.heap.size + 1 := by simp
    have h2 := heap_alloc_new (w.alloc (.cells #[.string (tx l), .int .i64 k] 47)) (.cells #[.string ⟨#[]⟩, .string ⟨#[]⟩, .string ⟨#[]⟩, .string ⟨#[]⟩, .string ⟨#[]⟩, .int .i64 0, .int .i64 0, .slice none 0 0, .bool false, .int .i64 0, .string ⟨#[]⟩, .string ⟨#[]⟩, .string ⟨#[]⟩, .string ⟨#[]⟩] 56 (0, 0))
    rw [h1] at h2
    obtain ⟨c0, c1, _⟩ := doc_cells l k w _ rfl
    have hlt := World.block_lt_of_cell? _ _ c0
    exact ⟨But.of_old (Old.drewN _ _), h2, ((Old.alloc _ _).cell hlt).trans c0, ((Old.alloc _ _).cell hlt).trans c1, by omega⟩
  have O0 := Lib.hid ((Old.alloc w (.cells #[.string (tx l), .int .i64 k] 47)).then_alloc (.cells #[.string ⟨#[]⟩, .string ⟨#[]⟩, .string ⟨#[]⟩, .string ⟨#[]⟩, .string ⟨#[]⟩, .int .i64 0, .int .i64 0, .slice none 0 0, .bool false, .int .i64 0, .string ⟨#[]⟩, .string ⟨#[]⟩, .string ⟨#[]⟩, .string ⟨#[]⟩] 56 (0, 0)))
  have S0 : Hid (w.heap.size + 1 < ((w.alloc (.cells #[.string (tx l), .int .i64 k] 47)).alloc (.cells #[.string ⟨#[]⟩, .string ⟨#[]⟩, .string ⟨#[]⟩, .string ⟨#[]⟩, .string ⟨#[]⟩, .int .i64 0, .int .i64 0, .slice none 0 0, .bool false, .int .i64 0, .string ⟨#[]⟩, .string ⟨#[]⟩, .string ⟨#[]⟩, .string ⟨#[]⟩] 56 (0, 0))).heap.size) := by unfold Hid; simp
  have BE := fun w' => before_any l k w' hk OK.out
  have AF := fun w' => after_any l k w' hk OK.out
  go_enter Try.func31, Try.ntmps31
  go_upto_region 1 with fail
  generalize (w.alloc (.cells #[.string (tx l), .int .i64 k] 47)).alloc (.cells #[.string ⟨#[]⟩, .string ⟨#[]⟩, .string ⟨#[]⟩, .string ⟨#[]⟩, .string ⟨#[]⟩, .int .i64 0, .int .i64 0, .slice none 0 0, .bool false, .int .i64 0, .string ⟨#[]⟩, .string ⟨#[]⟩, .string ⟨#[]⟩, .string ⟨#[]⟩] 56 (0, 0)) = W1 at T0 O0 S0 ⊢
  obtain ⟨g, hg⟩ : ∃ g, g = w.heap.size + 1 := ⟨_, rfl⟩
  obtain ⟨d, hd⟩ : ∃ d, d = w.heap.size := ⟨_, rfl⟩
  rw [← hg, ← hd] at T0
  rw [← hg] at S0
  rw [← hg, ← hd]
  have HG := Lib.hid hg
  clear hg hd
  refine wp_region_noPanic ?_
  refine wp_region_T (TA W1 g d l k #[.string ⟨#[]⟩, .string ⟨#[]⟩, .string ⟨#[]⟩, .string ⟨#[]⟩, .string ⟨#[]⟩, .int .i64 0, .int .i64 0, .slice none 0 0, .bool false, .int .i64 0, .string ⟨#[]⟩, .string ⟨#[]⟩, .string ⟨#[]⟩, .string ⟨#[]⟩] #[.string ⟨#[]⟩, .string ⟨#[]⟩, .string ⟨#[]⟩, .string ⟨#[]⟩, .string ⟨#[]⟩, .int .i64 0, .int .i64 0, .slice none 0 0, .bool false, .int .i64 0, .string ⟨#[]⟩, .string ⟨#[]⟩, .string ⟨#[]⟩, .string ⟨#[]⟩]) 99 (by kernel_rfl) (T0.out 1) ?_
  refine wpT_take (i := 0) (v := ?_) rfl (by kernel_rfl) (by kernel_rfl) (by kernel_rfl) (Or.inl ⟨by rfl, ?_⟩) ?_
  rotate_left
  · (intro b hb w hT; have h0 := hT.2.2.1; have h1 := hT.2.2.2.1; go_simp; exact Lands.value hT)
  try simp only [Act.put, List.getElem_toArray, List.getElem_cons_succ, List.getElem_cons_zero, List.setIfInBounds_toArray, List.set_cons_zero, List.set_cons_succ]
  refine wpT_take (i := 1) (v := .string (tx (l.take k))) rfl (by kernel_rfl) (by kernel_rfl) (by kernel_rfl) (Or.inl ⟨by rfl, ?_⟩) ?_
  · (intro b hb w hT; go_simp; exact Lands.call (before_any l k _ hk OK.out) fun w' o => TA.old hT o)
  try simp only [Act.put, List.getElem_toArray, List.getElem_cons_succ, List.getElem_cons_zero, List.setIfInBounds_toArray, List.set_cons_zero, List.set_cons_succ]
  refine wpT_take (i := 2) (v := ?_) rfl (by kernel_rfl) (by kernel_rfl) (by kernel_rfl) (Or.inl ⟨by rfl, ?_⟩) ?_
  rotate_left
  · (intro b hb w hT; have h0 := hT.2.2.1; have h1 := hT.2.2.2.1; go_simp; exact Lands.value hT)
  try simp only [Act.put, List.getElem_toArray, List.getElem_cons_succ, List.getElem_cons_zero, List.setIfInBounds_toArray, List.set_cons_zero, List.set_cons_succ]
  refine wpT_take (i := 3) (v := .string (tx (l.drop k))) rfl (by kernel_rfl) (by kernel_rfl) (by kernel_rfl) (Or.inl ⟨by rfl, ?_⟩) ?_
  · (intro b hb w hT; go_simp; exact Lands.call (after_any l k _ hk OK.out) fun w' o => TA.old hT o)
  try simp only [Act.put, List.getElem_toArray, List.getElem_cons_succ, List.getElem_cons_zero, List.setIfInBounds_toArray, List.set_cons_zero, List.set_cons_succ]
  refine wpT_take (i := 4) (v := ?_) rfl (by kernel_rfl) (by kernel_rfl) (by kernel_rfl) (Or.inl ⟨by rfl, ?_⟩) ?_
  rotate_left
  · (intro b hb w hT; go_simp; exact Lands.value hT)
  try simp only [Act.put, List.getElem_toArray, List.getElem_cons_succ, List.getElem_cons_zero, List.setIfInBounds_toArray, List.set_cons_zero, List.set_cons_succ]
  refine wpT_take (i := 5) (v := ?_) rfl (by kernel_rfl) (by kernel_rfl) (by kernel_rfl) (Or.inl ⟨by rfl, ?_⟩) ?_
  rotate_left
  · (intro b hb w hT; go_simp; exact Lands.value hT)
  try simp only [Act.put, List.getElem_toArray, List.getElem_cons_succ, List.getElem_cons_zero, List.setIfInBounds_toArray, List.set_cons_zero, List.set_cons_succ]
  refine wpT_done (by kernel_rfl) ?_ _
  intro wt hT
  refine NoPanic.normal ?_
  have T1 := Lib.hid hT
  clear hT T0
  have hlt := World.block_lt_of_cell? wt _ T1.out.2.2.1
  have c0 := T1.out.2.2.1
  go_upto_region 3 with (go_at_call 55; refine (lines9_any l _ hn).mono ?_; rintro e w3 ⟨lv, rfl, o, r⟩; obtain ⟨vb, vc, rfl, _⟩ := lineVs_at r (splitL_pos l); have T3 := Lib.hid (TA.old T1.out o); have RL := Lib.hid r; have O3 := Lib.hid o; clear o r)
  have T4 : Hid (TA w3 g d l k #[.string ⟨#[]⟩, .string ⟨#[]⟩, .string ⟨#[]⟩, .string ⟨#[]⟩, .string ⟨#[]⟩, .int .i64 0, .int .i64 0, .slice none 0 0, .bool false, .int .i64 0, .string ⟨#[]⟩, .string ⟨#[]⟩, .string ⟨#[]⟩, .string ⟨#[]⟩] (aroundC l k (.slice (some ⟨vb, 0, none⟩) (splitL l).length vc)) false w3.drew) := ⟨But.of_old (Old.drew _), T3.out.2.1, T3.out.2.2.1, T3.out.2.2.2.1, T3.out.2.2.2.2⟩
  have hap := tx_append (lineB l k) (lineA l k)
  have s1 : (tx (lineB l k)).size ≤ 1000000 := by rw [tx_size]; exact ((ok.take k).drop _).n
  have s2 : (tx (lineA l k)).size ≤ 1000000 := by rw [tx_size]; exact ((ok.drop k).take _).n
  have n1 := (ok.take k).n
  have n2 := (ok.drop k).n
  have OKA : Hid (okT (lineA l k)) := (ok.drop k).take _
  have hsz := splitL_size l
  have hrl := (row_spec l k hk).1
  have f1 : IntKind.i64.wrap (((splitL l).length : Int) - 1) = ((splitL l).length : Int) - 1 := IntWalk.i64_in _ (by omega)
  have f2 : ((row l k : Int) == ((splitL l).length : Int) - 1) = decide (row l k + 1 = (splitL l).length) := by
    rw [Bool.eq_iff_iff]; simp; omega
  have SA := fun w' => startF_any (l.take k) [32] w' n1 (by decide)
  have SB := fun w' => startT_any (l.take k) [32] w' n1 (by decide)
  have EA := fun w' => endF_any (l.drop k) [32] w' n2 (by decide)
  have EB := fun w' => endT_any (l.drop k) [32] w' n2 (by decide)
  rw [isB_set] at SA SB EA EB
  rw [noB_set] at SB EB
  have HSA := Lib.hid SA
  have HSB := Lib.hid SB
  have HEA := Lib.hid EA
  have HEB := Lib.hid EB
  have a1 := wS_le (isB 32) (l.take k)
  have a2 := wSS_le (isB 32) (noB 32) (l.take k)
  have a3 := wE_le (isB 32) (l.drop k)
  have a4 := wES_le (isB 32) (noB 32) (l.drop k)
  have NE := Lib.hid (aroundC_eq l k (.slice (some ⟨vb, 0, none⟩) (splitL l).length vc))
  clear SA SB EA EB ok BE AF
  have z1 : (tx (l.take k)).size = (l.take k).length := tx_size _
  have z2 : (tx (l.drop k)).size = (l.drop k).length := tx_size _
  generalize hm1 : l.take k = m1 at *
  generalize hm2 : l.drop k = m2 at *
  have HM1 := Lib.hid hm1
  have HM2 := Lib.hid hm2
  clear hm1 hm2
  generalize wS (isB 32) m1 = q1 at *
  generalize wSS (isB 32) (noB 32) m1 = q2 at *
  generalize wE (isB 32) m2 = q3 at *
  generalize wES (isB 32) (noB 32) m2 = q4 at *
  have x1 : (tx m1).extract q1 m1.length = tx (m1.drop q1) := ext_post
  have x2 : (tx m1).extract q2 m1.length = tx (m1.drop q2) := ext_post
  have x3 : (tx m2).extract 0 q3 = tx (m2.take q3) := ext_pre
  have x4 : (tx m2).extract 0 q4 = tx (m2.take q4) := ext_pre
  have i1 : (0 : Int) ≤ q1 := by omega
  have i2 : (0 : Int) ≤ q2 := by omega
  have i3 : (0 : Int) ≤ q3 := by omega
  have i4 : (0 : Int) ≤ q4 := by omega
  have j1 : (q1 : Int) ≤ m1.length := by omega
  have j2 : (q2 : Int) ≤ m1.length := by omega
  have j3 : (q3 : Int) ≤ m2.length := by omega
  have j4 : (q4 : Int) ≤ m2.length := by omega
  clear c0 hlt T3
  refine wp_region_noPanic ?_
  refine wp_region_T (TA w3 g d l k #[.string ⟨#[]⟩, .string ⟨#[]⟩, .string ⟨#[]⟩, .string ⟨#[]⟩, .string ⟨#[]⟩, .int .i64 0, .int .i64 0, .slice none 0 0, .bool false, .int .i64 0, .string ⟨#[]⟩, .string ⟨#[]⟩, .string ⟨#[]⟩, .string ⟨#[]⟩] (aroundC l k (.slice (some ⟨vb, 0, none⟩) (splitL l).length vc))) 42 (by kernel_rfl) (T4.out) ?_
  refine wpT_take (i := 0) (v := ?_) rfl (by kernel_rfl) (by kernel_rfl) (by kernel_rfl) (Or.inl ⟨by rfl, ?_⟩) ?_
  rotate_left
  · (intro b hb w hT; go_simp; exact Lands.value hT)
  try simp only [Act.put, List.getElem_toArray, List.getElem_cons_succ, List.getElem_cons_zero, List.setIfInBounds_toArray, List.set_cons_zero, List.set_cons_succ]
  refine wpT_take (i := 1) (v := ?_) rfl (by kernel_rfl) (by kernel_rfl) (by kernel_rfl) (Or.inl ⟨by rfl, ?_⟩) ?_
  rotate_left
  · (intro b hb w hT; go_simp; exact Lands.value hT)
  try simp only [Act.put, List.getElem_toArray, List.getElem_cons_succ, List.getElem_cons_zero, List.setIfInBounds_toArray, List.set_cons_zero, List.set_cons_succ]
  refine wpT_take (i := 2) (v := ?_) rfl (by kernel_rfl) (by kernel_rfl) (by kernel_rfl) (Or.inl ⟨by rfl, ?_⟩) ?_
  rotate_left
  · (intro b hb w hT; have h0 := hT.2.2.1; have h1 := hT.2.2.2.1; go_simp; exact Lands.value hT)
  try simp only [Act.put, List.getElem_toArray, List.getElem_cons_succ, List.getElem_cons_zero, List.setIfInBounds_toArray, List.set_cons_zero, List.set_cons_succ]
  refine wpT_take (i := 3) (v := .string (tx (lineB l k))) rfl (by kernel_rfl) (by kernel_rfl) (by kernel_rfl) (Or.inl ⟨by rfl, ?_⟩) ?_
  · (intro b hb w hT; go_simp; exact Lands.call (lb_any l k _ hk OK.out) fun w' o => TA.old hT o)
  try simp only [Act.put, List.getElem_toArray, List.getElem_cons_succ, List.getElem_cons_zero, List.setIfInBounds_toArray, List.set_cons_zero, List.set_cons_succ]
  refine wpT_take (i := 4) (v := ?_) rfl (by kernel_rfl) (by kernel_rfl) (by kernel_rfl) (Or.inl ⟨by rfl, ?_⟩) ?_
  rotate_left
  · (intro b hb w hT; have h0 := hT.2.2.1; have h1 := hT.2.2.2.1; go_simp; exact Lands.value hT)
  try simp only [Act.put, List.getElem_toArray, List.getElem_cons_succ, List.getElem_cons_zero, List.setIfInBounds_toArray, List.set_cons_zero, List.set_cons_succ]
  refine wpT_take (i := 5) (v := .string (tx (lineA l k))) rfl (by kernel_rfl) (by kernel_rfl) (by kernel_rfl) (Or.inl ⟨by rfl, ?_⟩) ?_
  · (intro b hb w hT; go_simp; exact Lands.call (la_any l k _ hk OK.out) fun w' o => TA.old hT o)
  try simp only [Act.put, List.getElem_toArray, List.getElem_cons_succ, List.getElem_cons_zero, List.setIfInBounds_toArray, List.set_cons_zero, List.set_cons_succ]
  refine wpT_take (i := 6) (v := ?_) rfl (by kernel_rfl) (by kernel_rfl) (by kernel_rfl) (Or.inl ⟨by rfl, ?_⟩) ?_
  rotate_left
  · (intro b hb w hT; have h0 := hT.2.2.1; have h1 := hT.2.2.2.1; go_simp; exact Lands.value hT)
  try simp only [Act.put, List.getElem_toArray, List.getElem_cons_succ, List.getElem_cons_zero, List.setIfInBounds_toArray, List.set_cons_zero, List.set_cons_succ]
  refine wpT_take (i := 7) (v := .string (tx (lineB l k))) rfl (by kernel_rfl) (by kernel_rfl) (by kernel_rfl) (Or.inl ⟨by rfl, ?_⟩) ?_
  · (intro b hb w hT; go_simp; exact Lands.call (lb_any l k _ hk OK.out) fun w' o => TA.old hT o)
  try simp only [Act.put, List.getElem_toArray, List.getElem_cons_succ, List.getElem_cons_zero, List.setIfInBounds_toArray, List.set_cons_zero, List.set_cons_succ]
  refine wpT_take (i := 8) (v := ?_) rfl (by kernel_rfl) (by kernel_rfl) (by kernel_rfl) (Or.inl ⟨by rfl, ?_⟩) ?_
  rotate_left
  · (intro b hb w hT; have h0 := hT.2.2.1; have h1 := hT.2.2.2.1; go_simp; exact Lands.value hT)
  try simp only [Act.put, List.getElem_toArray, List.getElem_cons_succ, List.getElem_cons_zero, List.setIfInBounds_toArray, List.set_cons_zero, List.set_cons_succ]
  refine wpT_take (i := 9) (v := .string (tx (lineA l k))) rfl (by kernel_rfl) (by kernel_rfl) (by kernel_rfl) (Or.inl ⟨by rfl, ?_⟩) ?_
  · (intro b hb w hT; go_simp; exact Lands.call (la_any l k _ hk OK.out) fun w' o => TA.old hT o)
  try simp only [Act.put, List.getElem_toArray, List.getElem_cons_succ, List.getElem_cons_zero, List.setIfInBounds_toArray, List.set_cons_zero, List.set_cons_succ]
  refine wpT_take (i := 10) (v := .string (tx (lineB l k ++ lineA l k))) rfl (by kernel_rfl) (by kernel_rfl) (by kernel_rfl) (Or.inl ⟨by rfl, ?_⟩) ?_
  · (intro b hb w hT; go_simp; rw [if_neg (by omega)]; exact Lands.value hT)
  try simp only [Act.put, List.getElem_toArray, List.getElem_cons_succ, List.getElem_cons_zero, List.setIfInBounds_toArray, List.set_cons_zero, List.set_cons_succ]
  refine wpT_take (i := 11) (v := ?_) rfl (by kernel_rfl) (by kernel_rfl) (by kernel_rfl) (Or.inl ⟨by rfl, ?_⟩) ?_
  rotate_left
  · (intro b hb w hT; have h0 := hT.2.2.1; have h1 := hT.2.2.2.1; go_simp; exact Lands.value hT)
  try simp only [Act.put, List.getElem_toArray, List.getElem_cons_succ, List.getElem_cons_zero, List.setIfInBounds_toArray, List.set_cons_zero, List.set_cons_succ]
  refine wpT_take (i := 12) (v := .int .i64 (row l k)) rfl (by kernel_rfl) (by kernel_rfl) (by kernel_rfl) (Or.inl ⟨by rfl, ?_⟩) ?_
  · (intro b hb w hT; go_simp; exact Lands.call (row9_any l k _ hk OK.out) fun w' o => TA.old hT o)
  try simp only [Act.put, List.getElem_toArray, List.getElem_cons_succ, List.getElem_cons_zero, List.setIfInBounds_toArray, List.set_cons_zero, List.set_cons_succ]
  refine wpT_take (i := 13) (v := ?_) rfl (by kernel_rfl) (by kernel_rfl) (by kernel_rfl) (Or.inl ⟨by rfl, ?_⟩) ?_
  rotate_left
  · (intro b hb w hT; have h0 := hT.2.2.1; have h1 := hT.2.2.2.1; go_simp; exact Lands.value hT)
  try simp only [Act.put, List.getElem_toArray, List.getElem_cons_succ, List.getElem_cons_zero, List.setIfInBounds_toArray, List.set_cons_zero, List.set_cons_succ]
  refine wpT_take (i := 14) (v := .int .i64 (lineB l k).length) rfl (by kernel_rfl) (by kernel_rfl) (by kernel_rfl) (Or.inl ⟨by rfl, ?_⟩) ?_
  · (intro b hb w hT; go_simp; exact Lands.call (col9_any l k _ hk OK.out) fun w' o => TA.old hT o)
  try simp only [Act.put, List.getElem_toArray, List.getElem_cons_succ, List.getElem_cons_zero, List.setIfInBounds_toArray, List.set_cons_zero, List.set_cons_succ]
  refine wpT_take (i := 15) (v := ?_) rfl (by kernel_rfl) (by kernel_rfl) (by kernel_rfl) (Or.inl ⟨by rfl, ?_⟩) ?_
  rotate_left
  · (intro b hb w hT; go_simp; exact Lands.value hT)
  try simp only [Act.put, List.getElem_toArray, List.getElem_cons_succ, List.getElem_cons_zero, List.setIfInBounds_toArray, List.set_cons_zero, List.set_cons_succ]
  refine wpT_take (i := 16) (v := ?_) rfl (by kernel_rfl) (by kernel_rfl) (by kernel_rfl) (Or.inl ⟨by rfl, ?_⟩) ?_
  rotate_left
  · (intro b hb w hT; have h0 := hT.2.2.1; have h1 := hT.2.2.2.1; go_simp; exact Lands.value hT)
  try simp only [Act.put, List.getElem_toArray, List.getElem_cons_succ, List.getElem_cons_zero, List.setIfInBounds_toArray, List.set_cons_zero, List.set_cons_succ]
  refine wpT_take (i := 17) (v := .int .i64 (row l k)) rfl (by kernel_rfl) (by kernel_rfl) (by kernel_rfl) (Or.inl ⟨by rfl, ?_⟩) ?_
  · (intro b hb w hT; go_simp; exact Lands.call (row9_any l k _ hk OK.out) fun w' o => TA.old hT o)
  try simp only [Act.put, List.getElem_toArray, List.getElem_cons_succ, List.getElem_cons_zero, List.setIfInBounds_toArray, List.set_cons_zero, List.set_cons_succ]
  refine wpT_take (i := 18) (v := ?_) rfl (by kernel_rfl) (by kernel_rfl) (by kernel_rfl) (Or.inl ⟨by rfl, ?_⟩) ?_
  rotate_left
  · (intro b hb w hT; go_simp; exact Lands.value hT)
  try simp only [Act.put, List.getElem_toArray, List.getElem_cons_succ, List.getElem_cons_zero, List.setIfInBounds_toArray, List.set_cons_zero, List.set_cons_succ]
  refine wpT_take (i := 19) (v := ?_) rfl (by kernel_rfl) (by kernel_rfl) (by kernel_rfl) (Or.inl ⟨by rfl, ?_⟩) ?_
  rotate_left
  · (intro b hb w hT; go_simp; exact Lands.value hT)
  try simp only [Act.put, List.getElem_toArray, List.getElem_cons_succ, List.getElem_cons_zero, List.setIfInBounds_toArray, List.set_cons_zero, List.set_cons_succ]
  refine wpT_take (i := 20) (v := ?_) rfl (by kernel_rfl) (by kernel_rfl) (by kernel_rfl) (Or.inl ⟨by rfl, ?_⟩) ?_
  rotate_left
  · (intro b hb w hT; go_simp; exact Lands.value hT)
  try simp only [Act.put, List.getElem_toArray, List.getElem_cons_succ, List.getElem_cons_zero, List.setIfInBounds_toArray, List.set_cons_zero, List.set_cons_succ]
  refine wpT_take (i := 21) (v := ?_) rfl (by kernel_rfl) (by kernel_rfl) (by kernel_rfl) (Or.inl ⟨by rfl, ?_⟩) ?_
  rotate_left
  · (intro b hb w hT; go_simp; exact Lands.value hT)
  try simp only [Act.put, List.getElem_toArray, List.getElem_cons_succ, List.getElem_cons_zero, List.setIfInBounds_toArray, List.set_cons_zero, List.set_cons_succ]
  refine wpT_take (i := 22) (v := ?_) rfl (by kernel_rfl) (by kernel_rfl) (by kernel_rfl) (Or.inl ⟨by rfl, ?_⟩) ?_
  rotate_left
  · (intro b hb w hT; have h0 := hT.2.2.1; have h1 := hT.2.2.2.1; go_simp; exact Lands.value hT)
  try simp only [Act.put, List.getElem_toArray, List.getElem_cons_succ, List.getElem_cons_zero, List.setIfInBounds_toArray, List.set_cons_zero, List.set_cons_succ]
  refine wpT_take (i := 23) (v := .string (tx (lineA l k))) rfl (by kernel_rfl) (by kernel_rfl) (by kernel_rfl) (Or.inl ⟨by rfl, ?_⟩) ?_
  · (intro b hb w hT; go_simp; exact Lands.call (la_any l k _ hk OK.out) fun w' o => TA.old hT o)
  try simp only [Act.put, List.getElem_toArray, List.getElem_cons_succ, List.getElem_cons_zero, List.setIfInBounds_toArray, List.set_cons_zero, List.set_cons_succ]
  refine wpT_take (i := 24) (v := .int .i64 (lineA l k).length) rfl (by kernel_rfl) (by kernel_rfl) (by kernel_rfl) (Or.inl ⟨by rfl, ?_⟩) ?_
  · (intro b hb w hT; go_simp; exact Lands.call (count_any (lineA l k) _ OKA.out) fun w' o => TA.old hT o)
  try simp only [Act.put, List.getElem_toArray, List.getElem_cons_succ, List.getElem_cons_zero, List.setIfInBounds_toArray, List.set_cons_zero, List.set_cons_succ]
  refine wpT_take (i := 25) (v := ?_) rfl (by kernel_rfl) (by kernel_rfl) (by kernel_rfl) (Or.inl ⟨by rfl, ?_⟩) ?_
  rotate_left
  · (intro b hb w hT; go_simp; exact Lands.value hT)
  try simp only [Act.put, List.getElem_toArray, List.getElem_cons_succ, List.getElem_cons_zero, List.setIfInBounds_toArray, List.set_cons_zero, List.set_cons_succ]
  refine wpT_take (i := 26) (v := ?_) rfl (by kernel_rfl) (by kernel_rfl) (by kernel_rfl) (Or.inl ⟨by rfl, ?_⟩) ?_
  rotate_left
  · (intro b hb w hT; go_simp; exact Lands.value hT)
  try simp only [Act.put, List.getElem_toArray, List.getElem_cons_succ, List.getElem_cons_zero, List.setIfInBounds_toArray, List.set_cons_zero, List.set_cons_succ]
  refine wpT_take (i := 27) (v := .int .i64 q1) rfl (by kernel_rfl) (by kernel_rfl) (by kernel_rfl) (Or.inl ⟨by rfl, ?_⟩) ?_
  · (intro b hb w hT; go_simp; exact Lands.calls (HSA.out _) hT)
  try simp only [Act.put, List.getElem_toArray, List.getElem_cons_succ, List.getElem_cons_zero, List.setIfInBounds_toArray, List.set_cons_zero, List.set_cons_succ]
  refine wpT_take (i := 28) (v := ?_) rfl (by kernel_rfl) (by kernel_rfl) (by kernel_rfl) (Or.inl ⟨by rfl, ?_⟩) ?_
  rotate_left
  · (intro b hb w hT; go_simp; exact Lands.value hT)
  try simp only [Act.put, List.getElem_toArray, List.getElem_cons_succ, List.getElem_cons_zero, List.setIfInBounds_toArray, List.set_cons_zero, List.set_cons_succ]
  refine wpT_take (i := 29) (v := ?_) rfl (by kernel_rfl) (by kernel_rfl) (by kernel_rfl) (Or.inl ⟨by rfl, ?_⟩) ?_
  rotate_left
  · (intro b hb w hT; go_simp; exact Lands.value hT)
  try simp only [Act.put, List.getElem_toArray, List.getElem_cons_succ, List.getElem_cons_zero, List.setIfInBounds_toArray, List.set_cons_zero, List.set_cons_succ]
  refine wpT_take (i := 30) (v := ?_) rfl (by kernel_rfl) (by kernel_rfl) (by kernel_rfl) (Or.inl ⟨by rfl, ?_⟩) ?_
  rotate_left
  · (intro b hb w hT; go_simp; exact Lands.value hT)
  try simp only [Act.put, List.getElem_toArray, List.getElem_cons_succ, List.getElem_cons_zero, List.setIfInBounds_toArray, List.set_cons_zero, List.set_cons_succ]
  refine wpT_take (i := 31) (v := .int .i64 q3) rfl (by kernel_rfl) (by kernel_rfl) (by kernel_rfl) (Or.inl ⟨by rfl, ?_⟩) ?_
  · (intro b hb w hT; go_simp; exact Lands.calls (HEA.out _) hT)
  try simp only [Act.put, List.getElem_toArray, List.getElem_cons_succ, List.getElem_cons_zero, List.setIfInBounds_toArray, List.set_cons_zero, List.set_cons_succ]
  refine wpT_take (i := 32) (v := ?_) rfl (by kernel_rfl) (by kernel_rfl) (by kernel_rfl) (Or.inl ⟨by rfl, ?_⟩) ?_
  rotate_left
  · (intro b hb w hT; go_simp; exact Lands.value hT)
  try simp only [Act.put, List.getElem_toArray, List.getElem_cons_succ, List.getElem_cons_zero, List.setIfInBounds_toArray, List.set_cons_zero, List.set_cons_succ]
  refine wpT_take (i := 33) (v := ?_) rfl (by kernel_rfl) (by kernel_rfl) (by kernel_rfl) (Or.inl ⟨by rfl, ?_⟩) ?_
  rotate_left
  · (intro b hb w hT; go_simp; exact Lands.value hT)
  try simp only [Act.put, List.getElem_toArray, List.getElem_cons_succ, List.getElem_cons_zero, List.setIfInBounds_toArray, List.set_cons_zero, List.set_cons_succ]
  refine wpT_take (i := 34) (v := ?_) rfl (by kernel_rfl) (by kernel_rfl) (by kernel_rfl) (Or.inl ⟨by rfl, ?_⟩) ?_
  rotate_left
  · (intro b hb w hT; go_simp; exact Lands.value hT)
  try simp only [Act.put, List.getElem_toArray, List.getElem_cons_succ, List.getElem_cons_zero, List.setIfInBounds_toArray, List.set_cons_zero, List.set_cons_succ]
  refine wpT_take (i := 35) (v := .int .i64 q2) rfl (by kernel_rfl) (by kernel_rfl) (by kernel_rfl) (Or.inl ⟨by rfl, ?_⟩) ?_
  · (intro b hb w hT; go_simp; exact Lands.calls (HSB.out _) hT)
  try simp only [Act.put, List.getElem_toArray, List.getElem_cons_succ, List.getElem_cons_zero, List.setIfInBounds_toArray, List.set_cons_zero, List.set_cons_succ]
  refine wpT_take (i := 36) (v := ?_) rfl (by kernel_rfl) (by kernel_rfl) (by kernel_rfl) (Or.inl ⟨by rfl, ?_⟩) ?_
  rotate_left
  · (intro b hb w hT; go_simp; exact Lands.value hT)
  try simp only [Act.put, List.getElem_toArray, List.getElem_cons_succ, List.getElem_cons_zero, List.setIfInBounds_toArray, List.set_cons_zero, List.set_cons_succ]
  refine wpT_take (i := 37) (v := ?_) rfl (by kernel_rfl) (by kernel_rfl) (by kernel_rfl) (Or.inl ⟨by rfl, ?_⟩) ?_
  rotate_left
  · (intro b hb w hT; go_simp; exact Lands.value hT)
  try simp only [Act.put, List.getElem_toArray, List.getElem_cons_succ, List.getElem_cons_zero, List.setIfInBounds_toArray, List.set_cons_zero, List.set_cons_succ]
  refine wpT_take (i := 38) (v := ?_) rfl (by kernel_rfl) (by kernel_rfl) (by kernel_rfl) (Or.inl ⟨by rfl, ?_⟩) ?_
  rotate_left
  · (intro b hb w hT; go_simp; exact Lands.value hT)
  try simp only [Act.put, List.getElem_toArray, List.getElem_cons_succ, List.getElem_cons_zero, List.setIfInBounds_toArray, List.set_cons_zero, List.set_cons_succ]
  refine wpT_take (i := 39) (v := .int .i64 q4) rfl (by kernel_rfl) (by kernel_rfl) (by kernel_rfl) (Or.inl ⟨by rfl, ?_⟩) ?_
  · (intro b hb w hT; go_simp; exact Lands.calls (HEB.out _) hT)
  try simp only [Act.put, List.getElem_toArray, List.getElem_cons_succ, List.getElem_cons_zero, List.setIfInBounds_toArray, List.set_cons_zero, List.set_cons_succ]
  refine wpT_take (i := 40) (v := ?_) rfl (by kernel_rfl) (by kernel_rfl) (by kernel_rfl) (Or.inl ⟨by rfl, ?_⟩) ?_
  rotate_left
  · (intro b hb w hT; go_simp; exact Lands.value hT)
  try simp only [Act.put, List.getElem_toArray, List.getElem_cons_succ, List.getElem_cons_zero, List.setIfInBounds_toArray, List.set_cons_zero, List.set_cons_succ]
  refine wpT_take (i := 41) (v := ?_) rfl (by kernel_rfl) (by kernel_rfl) (by kernel_rfl) (Or.inl ⟨by rfl, ?_⟩) ?_
  rotate_left
  · (intro b hb w hT; go_simp; exact Lands.value hT)
  try simp only [Act.put, List.getElem_toArray, List.getElem_cons_succ, List.getElem_cons_zero, List.setIfInBounds_toArray, List.set_cons_zero, List.set_cons_succ]
  refine wpT_take (i := 42) (v := undef) rfl (by kernel_rfl) (by kernel_rfl) (by kernel_rfl) (Or.inl ⟨by rfl, ?_⟩) ?_
  · (intro b hb w hT; obtain rfl := hb rfl; exact Lands.store_row 56 _ _ rfl g (aroundC l k (.slice (some ⟨vb, 0, none⟩) (splitL l).length vc)) rfl (congrArg Value.agg NE.out.symm) 56 _ hT.2.1 (around_info2 _ _ _) rfl (aroundC_one _ _ _ _ _) (TA.set hT))
  try simp only [Act.put, List.getElem_toArray, List.getElem_cons_succ, List.getElem_cons_zero, List.setIfInBounds_toArray, List.set_cons_zero, List.set_cons_succ]
  refine wpT_done (by kernel_rfl) ?_ _
  intro wt hT
  refine NoPanic.normal ?_
  have T5 := Lib.hid hT
  have GH := T5.out.2.1
  clear hT
  go_wp2_with fail
  refine bodyPost_ret (v := aroundV l k (.slice (some ⟨vb, 0, none⟩) (splitL l).length vc)) (results_cell (t := 2) (ty := 56) rfl _ g rfl (run_loadVar_row _ _ 56 _ _ (0, 0) _ GH Try.underlying56 rfl (around_info2 _ _ _))) rfl ⟨_, rfl, ?_, ?_⟩
  · exact ((O0.out.but T1.out.1 (by have := HG.out; omega)).trans O3.out).but T5.out.1 (by have := HG.out; omega)
  · have hbig := (own_inside RL.out vb rfl).1
    have hs0 := T1.out.1.size
    have hs1 := S0.out
    have hg := HG.out
    refine own_down (own_keep RL.out (fun q hq hq2 => T5.out.1.block q hq2 ?_)) (by omega)
    obtain rfl : vb = q := by simpa [Value.ownBlock] using hq
    omega
end Go.Proofs.Ytbkdppfjmfepiaa
