/- impl.Suggested. (Under way.) -/
import Derived.Test.YtalkikljjffpmaaSgc
namespace Go.Proofs.Ytalkikljjffpmaa
open Go.RowKit
set_option linter.unusedVariables false
set_option linter.unusedSimpArgs false
set_option linter.unnecessarySimpa false
set_option maxRecDepth 100000

theorem boxes4 (w : World) (A B C D : Obj) : ∃ W4, W4 = (((w.alloc A).alloc B).alloc C).alloc D ∧ Old w W4 ∧ W4.heap.size = w.heap.size + 4 ∧ W4.heap[w.heap.size]? = some A ∧ W4.heap[w.heap.size + 1]? = some B ∧ W4.heap[w.heap.size + 1 + 1]? = some C ∧ W4.heap[w.heap.size + 1 + 1 + 1]? = some D := by
  obtain ⟨w1, h1⟩ : ∃ x, x = w.alloc A := ⟨_, rfl⟩
  obtain ⟨w2, h2⟩ : ∃ x, x = w1.alloc B := ⟨_, rfl⟩
  obtain ⟨w3, h3⟩ : ∃ x, x = w2.alloc C := ⟨_, rfl⟩
  obtain ⟨w4, h4⟩ : ∃ x, x = w3.alloc D := ⟨_, rfl⟩
  have o1 : Old w w1 := by rw [h1]; exact Old.alloc _ _
  have o2 : Old w1 w2 := by rw [h2]; exact Old.alloc _ _
  have o3 : Old w2 w3 := by rw [h3]; exact Old.alloc _ _
  have o4 : Old w3 w4 := by rw [h4]; exact Old.alloc _ _
  have s1 : w1.heap.size = w.heap.size + 1 := by rw [h1]; simp
  have s2 : w2.heap.size = w.heap.size + 1 + 1 := by rw [h2]; simp [s1]
  have s3 : w3.heap.size = w.heap.size + 1 + 1 + 1 := by rw [h3]; simp [s2]
  have s4 : w4.heap.size = w.heap.size + 4 := by rw [h4]; simp [s3]
  have a1 : w1.heap[w.heap.size]? = some A := by rw [h1]; exact heap_alloc_new _ _
  have a2 : w2.heap[w.heap.size + 1]? = some B := by rw [← s1, h2]; exact heap_alloc_new _ _
  have a3 : w3.heap[w.heap.size + 1 + 1]? = some C := by rw [← s2, h3]; exact heap_alloc_new _ _
  have a4 : w4.heap[w.heap.size + 1 + 1 + 1]? = some D := by rw [← s3, h4]; exact heap_alloc_new _ _
  exact ⟨w4, by rw [h4, h3, h2, h1], ((o1.trans o2).trans o3).trans o4, s4, (((o2.trans o3).trans o4).heap (by omega)).trans a1, ((o3.trans o4).heap (by omega)).trans a2, (o4.heap (by omega)).trans a3, a4⟩
theorem bfreeQ {w : World} {b : Nat} {C : Array Value} {t : TypeId} (h : w.heap[b]? = some (.cells C t)) (j : Nat) : w.frozen? ⟨b, j, none⟩ = false := by
  unfold World.frozen?; rw [h]; simp
theorem PR.far {w : World} {v u x : Value} {L : List (Bs × Bs)} {p : Nat} (h : PR w v L) (hc : w.cell? ⟨p, 0, none⟩ = some u) (hu : ∀ s, u ≠ .string s) : PR (w.setCell ⟨p, 0, none⟩ x) v L := by
  obtain ⟨ad, c, h0, h1, h2, h3⟩ := h
  refine ⟨ad, c, h0, h1, h2, fun j hj => ?_⟩
  obtain ⟨b, q, e, hb, c1, c2⟩ := h3 j hj
  have ne : ∀ (k : Nat) (s : ByteArray), w.cell? ⟨b, k, none⟩ = some (.string s) → b ≠ p ∨ k ≠ 0 := by
    intro k s hk
    by_cases e1 : b = p
    · right
      intro e2
      subst e1; subst e2
      rw [hc] at hk
      exact hu s (Option.some.inj hk)
    · left; exact e1
  exact ⟨b, q, e, by simpa [World.setCell] using hb, (far_cell4 w _ (ne _ _ c1)).trans c1, (far_cell4 w _ (ne _ _ c2)).trans c2⟩
set_option maxHeartbeats 1000000 in
theorem sgd_any (v : Value) (L : List (Bs × Bs)) (m : Int) (w : World) (hr : PR w v L) (hp : ∀ p ∈ L, prT p.1 ∧ prT p.2 ∧ p.1.length ≤ 100 ∧ p.2.length ≤ 100) (hn : L.length ≤ 1000) (hm1 : 0 ≤ m) (hm2 : m ≤ 500) :
    Calls Try.prog 7 #[v, .int .i64 m] w fun e w' => ∃ v', e = .returned (.tuple #[v', .int .i64 (fmN L m), .bool true]) ∧ Old w w' ∧ PR w' v' (fmT L m) := by
  have HR := Lib.hid hr
  have HP := Lib.hid hp
  have hmf : ∀ (fn : Fn) (first cap : Array Value) (w : World), (Instr.makeFunc fn first cap).run Try.prog w = .ok (.func fn first cap) w := fun _ _ _ _ => rfl
  obtain ⟨ad, c, rfl, -⟩ := hr
  clear hp
  go_enter Try.func7, Try.ntmps7
  go_upto_region 1 with fail
  obtain ⟨W4, hW, o4, z4, a1, a2, a3, a4⟩ := boxes4 w (.cells #[.slice ad L.length c] 22) (.cells #[.int .i64 m] 3) (.cells #[.slice none 0 0] 22) (.cells #[.int .i64 0] 3)
  rw [← hW]
  clear hW
  have O4 := Lib.hid o4
  have RW := Lib.hid (HR.out.old o4)
  have oB : Old W4 (W4.alloc (.cells #[.bool false] 4)) := Old.alloc _ _
  have nB := heap_alloc_new W4 (.cells #[.bool false] 4)
  have b1 := (oB.heap (by omega : w.heap.size < W4.heap.size)).trans a1
  have b2 := (oB.heap (by omega : w.heap.size + 1 < W4.heap.size)).trans a2
  have b3 := (oB.heap (by omega : w.heap.size + 1 + 1 < W4.heap.size)).trans a3
  have b4 := (oB.heap (by omega : w.heap.size + 1 + 1 + 1 < W4.heap.size)).trans a4
  have hc := sgc_any w.heap.size (w.heap.size + 1) (w.heap.size + 1 + 1) (w.heap.size + 1 + 1 + 1) _ _ _ L m _ ((bcell4 b1 0).trans rfl) ((bcell4 b2 0).trans rfl) ((bcell4 b3 0).trans rfl) ((bcell4 b4 0).trans rfl) (bfreeQ b3 0) (bfreeQ b4 0) (RW.out.old oB) HP.out hn hm1 hm2 (by omega)
  have hcc := caught_ok 12 #[.pointer (some ⟨w.heap.size, 0, none⟩), .pointer (some ⟨w.heap.size + 1, 0, none⟩), .pointer (some ⟨w.heap.size + 1 + 1, 0, none⟩), .pointer (some ⟨w.heap.size + 1 + 1 + 1, 0, none⟩)] W4 (fun w' => ∃ w1 v', Old (W4.alloc (.cells #[.bool false] 4)) w1 ∧ PR w1 v' (fmT L m) ∧ w' = (w1.setCell ⟨w.heap.size + 1 + 1, 0, none⟩ v').setCell ⟨w.heap.size + 1 + 1 + 1, 0, none⟩ (.int .i64 (fmN L m))) (fun _ => rfl) (hc.mono (by
    rintro e w2 ⟨rfl, w1, v', o1, r1, rfl⟩
    refine ⟨rfl, ?_, w1, v', o1, r1, rfl⟩
    exact (Below.heap_setCell _ ⟨w.heap.size + 1 + 1 + 1, 0, none⟩ _ W4.heap.size (by simp; omega)).trans ((Below.heap_setCell w1 ⟨w.heap.size + 1 + 1, 0, none⟩ _ W4.heap.size (by simp; omega)).trans ((o1.heap (by simp)).trans nB))))
  have HCC := Lib.hid hcc
  clear hc hcc b1 b2 b3 b4 nB oB
  have zB : W4.heap.size = w.heap.size + 4 := z4
  have ZB := Lib.hid zB
  have A3 := Lib.hid a3
  have A4 := Lib.hid a4
  clear zB z4 a1 a2 a3 a4 o4
  go_upto_region 2 with ((with_reducible refine HCC.out.mono ?_); rintro e w5 ⟨rfl, w6, ⟨w1, v', o1, r1, rfl⟩, rfl⟩)
  obtain ⟨p2, hp2⟩ : ∃ p, p = w.heap.size + 1 + 1 := ⟨_, rfl⟩
  obtain ⟨p3, hp3⟩ : ∃ p, p = w.heap.size + 1 + 1 + 1 := ⟨_, rfl⟩
  obtain ⟨p4, hp4⟩ : ∃ p, p = W4.heap.size := ⟨_, rfl⟩
  have FACTS : ∃ W5, W5 = ((w1.setCell ⟨p2, 0, none⟩ v').setCell ⟨p3, 0, none⟩ (.int .i64 (fmN L m))).setCell ⟨p4, 0, none⟩ (.bool true) ∧ Old w W5 ∧ PR W5 v' (fmT L m) ∧ W5.cell? ⟨p2, 0, none⟩ = some v' ∧ W5.cell? ⟨p3, 0, none⟩ = some (.int .i64 (fmN L m)) ∧ W5.frozen? ⟨p2, 0, none⟩ = false ∧ W5.frozen? ⟨p3, 0, none⟩ = false := by
    have z := ZB.out
    have oo : Old w w1 := O4.out.trans ((Old.alloc W4 _).trans o1)
    have oh := fun (q : Nat) (hq : q < W4.heap.size) => (o1.heap (b := q) (by simp; omega)).trans ((Old.alloc W4 (.cells #[.bool false] 4)).heap hq)
    have b2 : w1.heap[p2]? = some (.cells #[.slice none 0 0] 22) := (oh p2 (by omega)).trans (by rw [hp2]; exact A3.out)
    have b3 : w1.heap[p3]? = some (.cells #[.int .i64 0] 3) := (oh p3 (by omega)).trans (by rw [hp3]; exact A4.out)
    have b4 : w1.heap[p4]? = some (.cells #[.bool false] 4) := (o1.heap (b := p4) (by simp; omega)).trans (by rw [hp4]; exact heap_alloc_new W4 _)
    have k2 : w1.cell? ⟨p2, 0, none⟩ = some (.slice none 0 0) := (bcell4 b2 0).trans rfl
    have k3 : w1.cell? ⟨p3, 0, none⟩ = some (.int .i64 0) := (bcell4 b3 0).trans rfl
    have k4 : w1.cell? ⟨p4, 0, none⟩ = some (.bool false) := (bcell4 b4 0).trans rfl
    have d23 : p3 ≠ p2 := by omega
    have d24 : p4 ≠ p2 := by omega
    have d34 : p4 ≠ p3 := by omega
    have g3 : (w1.setCell ⟨p2, 0, none⟩ v').cell? ⟨p3, 0, none⟩ = some (.int .i64 0) := (far_cell4 _ _ (Or.inl d23)).trans k3
    have g4 : ((w1.setCell ⟨p2, 0, none⟩ v').setCell ⟨p3, 0, none⟩ (.int .i64 (fmN L m))).cell? ⟨p4, 0, none⟩ = some (.bool false) := (far_cell4 _ _ (Or.inl d34)).trans ((far_cell4 _ _ (Or.inl d24)).trans k4)
    refine ⟨_, rfl, ((oo.stored (by simp; omega) _).stored (by simp; omega) _).stored (by simp; omega) _, ((r1.far k2 (fun s e => by cases e)).far g3 (fun s e => by cases e)).far g4 (fun s e => by cases e), ?_, ?_, ?_, ?_⟩
    · rw [far_cell4 _ _ (Or.inl (Ne.symm d24)), far_cell4 _ _ (Or.inl (Ne.symm d23))]
      exact World.cell?_setCell_same' _ _ _ (by rw [k2]; rfl)
    · rw [far_cell4 _ _ (Or.inl (Ne.symm d34))]
      exact World.cell?_setCell_same' _ _ _ (by rw [g3]; rfl)
    · rw [frozen_setCell, frozen_setCell, frozen_setCell]; exact bfreeQ b2 0
    · rw [frozen_setCell, frozen_setCell, frozen_setCell]; exact bfreeQ b3 0
  obtain ⟨W5, e5, o5, r5, c2, c3, f2, f3⟩ := FACTS
  rw [← hp3, ← hp2, ← hp4, ← e5]
  have O5 := Lib.hid o5
  have R5 := Lib.hid r5
  have D23 : Hid (p2 ≠ p3) := by unfold Hid; omega
  have HP2 : Hid (w.heap.size ≤ p2) := by unfold Hid; omega
  have HP3 : Hid (w.heap.size ≤ p3) := by unfold Hid; omega
  obtain ⟨ad5, cc5, rfl, -⟩ := r5
  clear e5 o5 hp2 hp3 hp4 HCC ZB RW O4
  have s3 := (far_cell4 W5 (p := p2) (i := 0) (q := p3) (j := 0) (.slice ad5 (fmT L m).length cc5) (Or.inl (Ne.symm D23.out))).trans c3
  have s2 := (far_cell4 W5 (p := p3) (i := 0) (q := p2) (j := 0) (.int .i64 (fmN L m)) (Or.inl D23.out)).trans c2
  have t3 := (frozen_setCell W5 ⟨p2, 0, none⟩ ⟨p3, 0, none⟩ (.slice ad5 (fmT L m).length cc5)).trans f3
  have t2 := (frozen_setCell W5 ⟨p3, 0, none⟩ ⟨p2, 0, none⟩ (.int .i64 (fmN L m))).trans f2
  go_region
  have FIN : ∃ W6, W6 = ((W5.setCell ⟨p2, 0, none⟩ (.slice ad5 (fmT L m).length cc5)).setCell ⟨p3, 0, none⟩ (.int .i64 (fmN L m))) ∧ Old w W6 ∧ PR W6 (.slice ad5 (fmT L m).length cc5) (fmT L m) ∧ W6.cell? ⟨p2, 0, none⟩ = some (.slice ad5 (fmT L m).length cc5) ∧ W6.cell? ⟨p3, 0, none⟩ = some (.int .i64 (fmN L m)) := by
    refine ⟨_, rfl, (O5.out.stored HP2.out _).stored HP3.out _, (R5.out.far c2 (fun s e => by cases e)).far s3 (fun s e => by cases e), ?_, ?_⟩
    · rw [far_cell4 _ _ (Or.inl D23.out)]
      exact World.cell?_setCell_same' _ _ _ (by rw [c2]; rfl)
    · exact World.cell?_setCell_same' _ _ _ (by rw [s3]; rfl)
  obtain ⟨W6, e6, o6, r6, x2, x3⟩ := FIN
  rw [← e6]
  have O6 := Lib.hid o6
  have R6 := Lib.hid r6
  have y2 : W6.drew.cell? ⟨p2, 0, none⟩ = some (.slice ad5 (fmT L m).length cc5) := x2
  have y3 : W6.drew.cell? ⟨p3, 0, none⟩ = some (.int .i64 (fmN L m)) := x3
  have O7 := Lib.hid (O6.out.then_drew)
  have R7 := Lib.hid (R6.out.old (Old.drew _))
  clear e6 o6 r6 O6 R6 x2 x3 c2 c3 s2 s3 t2 t3 f2 f3
  generalize W6.drew = W7 at O7 R7 y2 y3 ⊢
  go_wp2_with fail
  refine bodyPost_ret (v := .tuple #[.slice ad5 (fmT L m).length cc5, .int .i64 (fmN L m), .bool true]) (by simp [results, Try.results7, go_sem, y2, y3]) rfl ⟨_, rfl, O7.out, R7.out⟩
end Go.Proofs.Ytalkikljjffpmaa
