/- impl.Segmented. -/
import Derived.Test.YtalkikljjffpmaaDoorSeg3
import Derived.Test.YtalkikljjffpmaaDoorArgs
import Derived.Test.YtalkikljjffpmaaDoorFits1
namespace Go.Proofs.YtalkikljjffpmaaDoor
open Go.RowKit
set_option linter.unusedVariables false
set_option linter.unusedSimpArgs false
set_option linter.unnecessarySimpa false
set_option maxRecDepth 100000

theorem boxes4 (w : World) (A B C D : Obj) : ∃ W4, W4 = (((w.alloc A).alloc B).alloc C).alloc D ∧ Old w W4 ∧ W4.heap.size = w.heap.size + 4 ∧ W4.heap[w.heap.size]? = some A ∧ W4.heap[w.heap.size + 1]? = some B ∧ W4.heap[w.heap.size + 1 + 1]? = some C ∧ W4.heap[w.heap.size + 1 + 1 + 1]? = some D := by
  obtain ⟨w1, h1⟩ : ∃ x, x = w.alloc A := ⟨_, rfl⟩
  obtain ⟨w2, h2⟩ : ∃ x, x = w1.alloc B := ⟨_, rfl⟩
  obtain ⟨w3, h3⟩ : ∃ x, x = w2.alloc C := ⟨_, rfl⟩
  obtain ⟨w4, h4⟩ : ∃ x, x = w3.alloc D := ⟨_, rfl⟩
  have o1 : Old w w1 := by rw [h1]; exact Old.alloc _ _
  have o2 : Old w1 w2 := by rw [h2]; exact Old.alloc _ _
  have o3 : Old w2 w3 := by rw [h3]; exact Old.alloc _ _
  have o4 : Old w3 w4 := by rw [h4]; exact Old.alloc _ _
  have s1 : w1.heap.size = w.heap.size + 1 := by rw [h1]; simp
  have s2 : w2.heap.size = w.heap.size + 1 + 1 := by rw [h2]; simp [s1]
  have s3 : w3.heap.size = w.heap.size + 1 + 1 + 1 := by rw [h3]; simp [s2]
  have s4 : w4.heap.size = w.heap.size + 4 := by rw [h4]; simp [s3]
  have a1 : w1.heap[w.heap.size]? = some A := by rw [h1]; exact heap_alloc_new _ _
  have a2 : w2.heap[w.heap.size + 1]? = some B := by rw [← s1, h2]; exact heap_alloc_new _ _
  have a3 : w3.heap[w.heap.size + 1 + 1]? = some C := by rw [← s2, h3]; exact heap_alloc_new _ _
  have a4 : w4.heap[w.heap.size + 1 + 1 + 1]? = some D := by rw [← s3, h4]; exact heap_alloc_new _ _
  exact ⟨w4, by rw [h4, h3, h2, h1], ((o1.trans o2).trans o3).trans o4, s4, (((o2.trans o3).trans o4).heap (by omega)).trans a1, ((o3.trans o4).heap (by omega)).trans a2, (o4.heap (by omega)).trans a3, a4⟩
theorem free_at {w : World} {b : Nat} {C : Array Value} {t : TypeId} (h : w.heap[b]? = some (.cells C t)) (j : Nat) : w.frozen? ⟨b, j, none⟩ = false := by
  unfold World.frozen?; rw [h]; simp
/-- Block b holds v alone. -/
def Bx (w : World) (b : Nat) (v : Value) (T : TypeId) : Prop := w.heap[b]? = some (.cells #[v] T)
theorem Bx.lt {w : World} {b : Nat} {v : Value} {T : TypeId} (h : Bx w b v T) : b < w.heap.size := (Array.getElem?_eq_some_iff.1 h).1
theorem Bx.cell {w : World} {b : Nat} {v : Value} {T : TypeId} (h : Bx w b v T) : w.cell? ⟨b, 0, none⟩ = some v := (bcell4 h 0).trans rfl
theorem Bx.free {w : World} {b : Nat} {v : Value} {T : TypeId} (h : Bx w b v T) : w.frozen? ⟨b, 0, none⟩ = false := free_at h 0
theorem Bx.old {w w' : World} {b : Nat} {v : Value} {T : TypeId} (h : Bx w b v T) (o : Old w w') : Bx w' b v T := (o.heap h.lt).trans h
theorem Bx.far {w : World} {b q : Nat} {v x : Value} {T : TypeId} (h : Bx w b v T) (hq : b ≠ q) : Bx (w.setCell ⟨q, 0, none⟩ x) b v T := (Below.heap_setCell w ⟨q, 0, none⟩ x b (by simpa using hq)).trans h
theorem Bx.set {w : World} {b : Nat} {v x : Value} {T : TypeId} (h : Bx w b v T) : Bx (w.setCell ⟨b, 0, none⟩ x) b x T := by
  unfold Bx at *
  unfold World.setCell
  simp [Array.getElem?_modify, h]
theorem Bx.new (w : World) (v : Value) (T : TypeId) : Bx (w.alloc (.cells #[v] T)) w.heap.size v T := heap_alloc_new w _
theorem Bx.grown {w w' : World} {b : Nat} {v : Value} {T : TypeId} {row : Option Nat} (h : Bx w b v T) (g : w.grownBy w' row) (hr : some b ≠ row) : Bx w' b v T := (g.block b h.lt hr).trans h
theorem SegI.row {w : World} {B1 B2 : Nat} {ov : Value} {us : List Value} {Q : List (List Int × Nat)} (h : SegI w B1 B2 ov us Q) : RowR w ov (Q.map Prod.fst) := by
  obtain ⟨h1, h2, h3, h4⟩ := h
  rcases h1.2 with ⟨rfl, h0⟩ | ⟨g, cap, cur, rfl, h5⟩
  · exact ⟨none, 0, by rw [List.length_map, h0], fun j hj => absurd hj (by rw [List.length_map, h0]; omega)⟩
  · refine ⟨some ⟨g, 0, none⟩, cap, by rw [List.length_map], fun j hj => ?_⟩
    have hj' : j < Q.length := by simpa using hj
    refine ⟨g, 0, gv us j, rfl, (own_inside h1 g rfl).2, by rw [Nat.zero_add]; exact own_cell h1 j hj', ?_⟩
    have := (h2.2 j hj').runes
    simpa using this
theorem SegI.far9 {w : World} {B1 B2 q : Nat} {ov x : Value} {us : List Value} {Q : List (List Int × Nat)} (h : SegI w B1 B2 ov us Q) (hq : q < B1 ∧ q < B2) : SegI (w.setCell ⟨q, 0, none⟩ x) B1 B2 ov us Q := by
  obtain ⟨h1, h2, h3, h4⟩ := h
  refine ⟨own_keep h1 fun g hg _ => Below.heap_setCell w ⟨q, 0, none⟩ x g ?_, h2.keep fun p hp => Below.heap_setCell w ⟨q, 0, none⟩ x p.2 ?_, h3, h4⟩
  · have := (own_inside h1 g hg).1; simp; omega
  · have := (h4 p hp).1; simp; omega
def SegEnd (L : List (List Int)) (p : List Int) (w : World) (e : Ending) (w' : World) : Prop :=
  ∃ lv base, e = .returned (.tuple #[lv, .int .i64 (p.length : Int), .bool true]) ∧ Old w w' ∧ w'.ownsRow base 9 1 lv (outS L p).length ((outS L p).map (fun t => Value.string (runesBytes t)))
set_option maxHeartbeats 1000000 in
theorem seg4_any (v : Value) (l : List ByteArray) (s : ByteArray) (n : Nat) (w : World) (h : Strs w v l) (hl : l.length ≤ 8) (h1 : ∀ j, j < l.length → asc (gs l j) ∧ 1 ≤ (gs l j).size ∧ (gs l j).size ≤ 12) (ha : asc s) (hs : s.size ≤ 200) (hn : n ≤ s.size) :
    Calls Tryd.prog 11 #[v, .string s, .int .i64 n] w (SegEnd (l.map nums) (lastP (nums s) n) w) := by
  have HT := Lib.hid h
  have H1 := Lib.hid h1
  have HA := Lib.hid ha
  obtain ⟨ad, c, rfl, h2, h3, -⟩ := h
  unfold maxLen at h3
  have hmf : ∀ (fn : Fn) (first cap : Array Value) (w : World), (Instr.makeFunc fn first cap).run Tryd.prog w = .ok (.func fn first cap) w := fun _ _ _ _ => rfl
  clear h1 ha
  go_enter Tryd.func11, Tryd.ntmps11
  go_upto_region 2 with fail
  obtain ⟨W4, hW, o4, z4, a1, a2, a3, a4⟩ := boxes4 w (.cells #[.string s] 9) (.cells #[.int .i64 n] 3) (.cells #[.int .i64 0] 3) (.cells #[.slice none 0 0] 59)
  rw [← hW]
  clear hW
  obtain ⟨p9, hp9⟩ : ∃ p, p = w.heap.size + 1 + 1 + 1 := ⟨_, rfl⟩
  obtain ⟨p7, hp7⟩ : ∃ p, p = w.heap.size + 1 + 1 := ⟨_, rfl⟩
  obtain ⟨p5, hp5⟩ : ∃ p, p = w.heap.size + 1 := ⟨_, rfl⟩
  obtain ⟨p4, hp4⟩ : ∃ p, p = w.heap.size := ⟨_, rfl⟩
  rw [← hp9] at a4 ⊢
  rw [← hp7] at a3 ⊢
  rw [← hp5] at a2 ⊢
  rw [← hp4] at a1 ⊢
  have HP : Hid (p4 = w.heap.size ∧ p5 = w.heap.size + 1 ∧ p7 = w.heap.size + 2 ∧ p9 = w.heap.size + 3 ∧ W4.heap.size = w.heap.size + 4) := ⟨hp4, hp5, by omega, by omega, z4⟩
  have O4 := Lib.hid o4
  have A1 : Hid (Bx W4 p4 (.string s) 9) := a1
  have A2 : Hid (Bx W4 p5 (.int .i64 n) 3) := a2
  have A3 : Hid (Bx W4 p7 (.int .i64 0) 3) := a3
  have A4 : Hid (Bx W4 p9 (.slice none 0 0) 59) := a4
  clear a1 a2 a3 a4 hp4 hp5 hp7 hp9 z4 o4
  go_wp2_with fail
  go_loopw [17] (fun iv wr => ∃ k us av Q, k ≤ l.length ∧ iv = .int .i64 ((k : Nat) : Int) ∧ SegI wr W4.heap.size W4.heap.size av us Q ∧ Q.map Prod.fst = (l.map nums).take k ∧ Bx wr p9 av 59 ∧ (Bx wr p4 (.string s) 9 ∧ Bx wr p5 (.int .i64 n) 3 ∧ Bx wr p7 (.int .i64 0) 3) ∧ Old w wr ∧ W4.heap.size ≤ wr.heap.size) (fun iv _ => l.length - (intOf iv).toNat)
  case atStart => exact ⟨0, [], _, [], Nat.zero_le _, rfl, SegI.nil _ _ _, rfl, A4.out, ⟨A1.out, A2.out, A3.out⟩, O4.out, Nat.le_refl _⟩
  case round =>
    obtain ⟨k, us, av, Q, hk, rfl, hs1, hq, hb9, hbx, hold, HOW⟩ := hrel
    have SS := Lib.hid hs1
    have HQ := Lib.hid hq
    have B9 := Lib.hid hb9
    have BB := Lib.hid hbx
    have OO := Lib.hid hold
    have hql : Q.length = k := by have := congrArg List.length hq; simp at this; omega
    have HQL := Lib.hid hql
    clear hs1 hq hbx hold hql
    have OW4 : Hid (W4.heap.size ≤ wr.heap.size) := HOW
    by_cases hkn : k < l.length
    · obtain ⟨b, o, rfl, c1⟩ := (HT.out.old OO.out).cell k hkn
      have hsz := H1.out k hkn
      have c9 := hb9.cell
      have f9 := hb9.free
      have LT : Hid ((l.map nums).take (k + 1) = (l.map nums).take k ++ [runes (gs l k)]) := by
        unfold Hid
        rw [List.take_succ_eq_append_getElem (by simpa using hkn), List.getElem_map, gs_lt hkn, runes_asc (by rw [← gs_lt hkn]; exact hsz.1)]
      have RL : Hid (1 ≤ (runes (gs l k)).length ∧ (runes (gs l k)).length ≤ 12) := by
        unfold Hid; rw [runes_asc hsz.1, length_nums]; exact hsz.2
      generalize gs l k = t at c1 hsz LT RL
      obtain ⟨-, hsz1, hsz2⟩ := hsz
      clear hb9
      go_wp2_with (first
        | (refine wpList_runes rfl 9 58 21 _ t rfl rfl (by kernel_rfl) (by kernel_rfl) (by kernel_rfl) (by omega) ?_
           intro vv w2 o2 r2 hv2 own2
           obtain ⟨b1, rc1, hb1⟩ := RC.of_own own2 RL.out.1
           have RC1 := Lib.hid rc1
           have O2 := Lib.hid o2
           have X9 := Lib.hid (B9.out.old o2)
           obtain ⟨bv, cv, rfl⟩ := hv2
           clear o2 r2 own2 rc1 c9 f9)
        | (at_builtin; refine wpList_append_new rfl (Operand.tmp 21) (Operand.tmp 24) 59 58 _ (.slice none 0 0) 1 24 rfl Tryd.underlying59 info_rs rfl (by decide) W4.heap.size av Q.length us rfl (own_old SS.out.1 O2.out) 1 #[.slice (some ⟨bv, 0, none⟩) (runes t).length cv] rfl (by decide) rfl (by intro z hz; simp at hz; subst hz; rfl) (by have := HQL.out; omega) (by have := HQL.out; omega) (by have := OW4.out; have := O2.out.size; omega) ?_
           intro v3 w3 own3 gr3 at3
           obtain ⟨b3, cc3, rfl, at3⟩ := at3
           have S3 : Hid (SegI w3 W4.heap.size W4.heap.size (.slice (some ⟨b3, 0, none⟩) (Q.length + 1) cc3) (us ++ [.slice (some ⟨bv, 0, none⟩) (runes t).length cv]) (Q ++ [(runes t, b1)])) :=
             SS.out.snoc O2.out RC1.out (nodup_fresh SS.out.2.1 hb1) (own_ne SS.out.1 hb1) (Nat.le_trans OW4.out hb1) own3 gr3 at3
           have O3 := Lib.hid (Old.own (a := w) (OO.out.trans O2.out) (by have := HP.out; omega) (own_old SS.out.1 O2.out) gr3)
           have NB : Hid (∀ q, q < W4.heap.size → some q ≠ av.ownBlock) := fun q hq e => by have := (own_inside SS.out.1 q e.symm).1; omega
           have Y9 := Lib.hid (X9.out.grown gr3 (NB.out p9 (by have := HP.out; omega)))
           have Y4 := Lib.hid ((BB.out.1.old O2.out).grown gr3 (NB.out p4 (by have := HP.out; omega)))
           have Y5 := Lib.hid ((BB.out.2.1.old O2.out).grown gr3 (NB.out p5 (by have := HP.out; omega)))
           have Y7 := Lib.hid ((BB.out.2.2.old O2.out).grown gr3 (NB.out p7 (by have := HP.out; omega)))
           have c9 := Y9.out.cell
           have f9 := Y9.out.free
           have HZ3 : Hid (W4.heap.size ≤ w3.heap.size) := Nat.le_trans (Nat.le_trans OW4.out O2.out.size) gr3.size
           clear own3 gr3 at3))
      go_roundw
      case rel => exact ⟨k + 1, _, _, _, by omega, by go_num, by
        have hp := HP.out
        exact S3.out.far9 (by omega), by rw [List.map_append, HQ.out, LT.out]; rfl, Y9.out.set, ⟨Y4.out.far (by have := HP.out; omega), Y5.out.far (by have := HP.out; omega), Y7.out.far (by have := HP.out; omega)⟩, O3.out.stored (by have := HP.out; simp only; omega) _, by simp only [World.setCell, Array.size_modify]; exact HZ3.out⟩
      case measure => simp [intOf]; omega
    · obtain rfl : k = l.length := by omega
      have hll : (l.map nums).length = l.length := by simp
      rw [← hll, List.take_length] at HQ
      have c9 := hb9.cell
      clear hb9 hll
      have B12 := Bx.new wr (.slice none 0 0) 59
      have O12 : Old wr (wr.alloc (.cells #[.slice none 0 0] 59)) := Old.alloc _ _
      obtain ⟨p12, hp12⟩ : ∃ p, p = wr.heap.size := ⟨_, rfl⟩
      have hp := HP.out
      have hos := HOW
      obtain ⟨W6, hW6⟩ : ∃ W, W = wr.alloc (.cells #[.slice none 0 0] 59) := ⟨_, rfl⟩
      have z6 : W6.heap.size = wr.heap.size + 1 := by rw [hW6]; simp
      rw [← hW6] at B12 O12
      rw [← hp12] at B12
      have X9 := B9.out.old O12
      have X4 := BB.out.1.old O12
      have X5 := BB.out.2.1.old O12
      have X7 := BB.out.2.2.old O12
      have S6 := SS.out.old O12
      have OO6 := OO.out.trans O12
      have oB : Old W6 (W6.alloc (.cells #[.bool false] 4)) := Old.alloc _ _
      have nB : Bx (W6.alloc (.cells #[.bool false] 4)) W6.heap.size (.bool false) 4 := Bx.new _ _ _
      have hrow := (S6.old oB).row
      rw [HQ.out] at hrow
      have hc := segc_any p9 p4 p5 p12 p7 av (.slice none 0 0) 0 (l.map nums) s n (W6.alloc (.cells #[.bool false] 4)) (X9.old oB).cell (X4.old oB).cell (X5.old oB).cell (B12.old oB).cell (X7.old oB).cell (B12.old oB).free (X7.old oB).free hrow
        (fun t ht => by
          obtain ⟨x, hx, rfl⟩ := List.mem_map.1 ht
          obtain ⟨j, hj, rfl⟩ := List.getElem_of_mem hx
          have := H1.out j hj
          rw [gs_lt hj] at this
          rw [length_nums]; omega) (by simp; omega) HA.out (by omega) hn (by omega) (by omega) (by omega) (by omega) (by omega) (by omega) (by omega)
      have hcc := caught_ok 28 #[.pointer (some ⟨p9, 0, none⟩), .pointer (some ⟨p4, 0, none⟩), .pointer (some ⟨p5, 0, none⟩), .pointer (some ⟨p12, 0, none⟩), .pointer (some ⟨p7, 0, none⟩)] W6 (fun w' => ∃ w1 rv us Q B1 B2, Old (W6.alloc (.cells #[.bool false] 4)) w1 ∧ SegI w1 B1 B2 rv us Q ∧ Q.map Prod.fst = outS (l.map nums) (lastP (nums s) n) ∧ W6.heap.size + 1 ≤ B1 ∧ W6.heap.size + 1 ≤ B2 ∧
          w' = (w1.setCell ⟨p12, 0, none⟩ rv).setCell ⟨p7, 0, none⟩ (.int .i64 ((lastP (nums s) n).length : Int))) (fun _ => rfl) (hc.mono (by
        rintro e w2 ⟨rfl, w1, rv, us1, Q1, B1, B2, o1, s1, q1, g1, g2, rfl⟩
        refine ⟨rfl, ?_, w1, rv, us1, Q1, B1, B2, o1, s1, q1, by simpa using g1, by simpa using g2, rfl⟩
        exact ((nB.old o1).far (by omega)).far (by omega)))
      have HCC := Lib.hid hcc
      have X7' := Lib.hid X7
      have B12' := Lib.hid B12
      have OO6' := Lib.hid OO6
      have HZ := Lib.hid (And.intro z6 (And.intro hp12 hos))
      have HW6 := Lib.hid hW6
      clear hc hcc oB nB hrow X9 X4 X5 X7 B12 S6 OO6 O12 z6 hp12 hos hp hW6
      go_upto_region 9 with fail
      rw [← HW6.out, ← HZ.out.2.1]
      (with_reducible refine HCC.out.mono ?_)
      rintro e w5 ⟨rfl, w6, ⟨w1, rv, us1, Q1, B1, B2, o1, s1, q1, g1, g2, rfl⟩, rfl⟩
      have FACTS : ∃ W7, W7 = ((w1.setCell ⟨p12, 0, none⟩ rv).setCell ⟨p7, 0, none⟩ (.int .i64 ((lastP (nums s) n).length : Int))).setCell ⟨W6.heap.size, 0, none⟩ (.bool true) ∧ Old w W7 ∧ SegI W7 B1 B2 rv us1 Q1 ∧ Bx W7 p12 rv 59 ∧ Bx W7 p7 (.int .i64 ((lastP (nums s) n).length : Int)) 3 := by
        have hp := HP.out
        obtain ⟨z6, hp12, hos⟩ := HZ.out
        have oB : Old W6 (W6.alloc (.cells #[.bool false] 4)) := Old.alloc _ _
        refine ⟨_, rfl, (((OO6'.out.trans (oB.trans o1)).stored (by simp only; omega) _).stored (by simp only; omega) _).stored (by simp only; omega) _, ((s1.far9 (by omega)).far9 (by omega)).far9 (by omega), ?_, ?_⟩
        · exact ((((B12'.out.old oB).old o1).set).far (by omega)).far (by omega)
        · exact (((X7'.out.old oB).old o1).far (by omega)).set.far (by omega)
      obtain ⟨W7, e7, o7, s7, b12, b7⟩ := FACTS
      rw [← e7]
      have O7 := Lib.hid o7
      have S7 := Lib.hid s7
      have Q1' := Lib.hid q1
      have C12 := b12.cell
      obtain ⟨ad7, cc7, rfl⟩ := s7.slice
      have B7' := Lib.hid b7
      have HP7 : Hid (w.heap.size ≤ p7) := by unfold Hid; have := HP.out; omega
      have hq1 : Q1.length ≤ 8 := by
        have := congrArg List.length q1
        have h2 : (outS (l.map nums) (lastP (nums s) n)).length ≤ (l.map nums).length := by unfold outS; rw [List.length_map]; exact List.length_filter_le _ _
        simp at this h2; omega
      clear e7 o7 s7 q1 o1 s1 g1 g2 b12 b7 HCC X7' B12' OO6' HZ HW6
      obtain ⟨T, hT⟩ : ∃ T, T = outS (l.map nums) (lastP (nums s) n) := ⟨_, rfl⟩
      have HT' := Lib.hid hT
      have hTQ : T.length = Q1.length := by rw [hT, ← Q1'.out]; simp
      have HTQ := Lib.hid hTQ
      rw [← hT] at Q1'
      clear hT hTQ
      go_wp2_with fail
      go_loopw [6, 33] (fun lv iv wr => ∃ k : Nat, k ≤ Q1.length ∧ iv = .int .i64 k ∧ wr.ownsRow W7.heap.size 9 1 lv k ((T.take k).map (fun t => Value.string (runesBytes t))) ∧ Old W7 wr) (fun _ iv _ => Q1.length - (intOf iv).toNat)
      case atStart => exact ⟨0, Nat.zero_le _, rfl, ⟨rfl, .inl ⟨rfl, rfl⟩⟩, Old.refl _⟩
      case round =>
        obtain ⟨k, hk, rfl, hown, hold⟩ := hrel
        have OW := Lib.hid hown
        have OO := Lib.hid hold
        have S8 := Lib.hid (S7.out.old hold)
        clear hown hold
        by_cases hkn : k < Q1.length
        · have hkt : k < T.length := by rw [HTQ.out]; exact hkn
          obtain ⟨g, cg, hgv⟩ := own_some S8.out.1 (by omega)
          injection hgv with f1 f2 f3
          subst f1 f3
          have c1 := own_cell S8.out.1 k hkn
          have rc := (S8.out.2.1.2 k hkn).runes
          have ht : Q1[k].1 = T[k] := by
            have h1 : (Q1.map Prod.fst)[k]? = some Q1[k].1 := by simp [hkn]
            rw [Q1'.out, List.getElem?_eq_getElem hkt] at h1
            simpa using h1.symm
          rw [ht] at rc
          have TT : Hid ((T.take k).map (fun t => Value.string (runesBytes t)) ++ [Value.string (runesBytes T[k])] = (T.take (k + 1)).map (fun t => Value.string (runesBytes t))) := take_snoc_map _ T k hkt
          generalize gv us1 k = u at c1 rc
          generalize T[k] = t at rc TT
          have RC1 := Lib.hid rc
          have HQ1 := Lib.hid hq1
          obtain ⟨bu, ou, cu, rfl, -⟩ := rc
          clear f2 ht
          go_wp2_with (first
            | (refine wpList_convert rfl 58 9 _ _ rfl rfl (runes_back wr 58 9 21 _ _ (by kernel_rfl) (by kernel_rfl) (by kernel_rfl) RC1.out) ?_)
            | (at_builtin; refine wpList_append_new rfl _ _ 22 9 _ (.string ByteArray.empty) 1 16 rfl Tryd.underlying22 info_str rfl (by decide) W7.heap.size u6 k _ rfl OW.out 1 #[.string (runesBytes t)] rfl (by decide) rfl (by intro z hz; simp at hz; subst hz; rfl) (by have := HQ1.out; omega) (by have := HQ1.out; omega) OO.out.size ?_
               intro v3 w3 own3 gr3 at3
               obtain ⟨b3, cc3, rfl, at3⟩ := at3
               have OW3 := Lib.hid own3
               have O3 := Lib.hid (OO.out.own (Nat.le_refl _) OW.out gr3)
               clear own3 gr3 at3))
          go_roundw
          case rel => exact ⟨k + 1, by omega, by go_num, by rw [← TT.out]; exact OW3.out, O3.out⟩
          case measure => simp [intOf]; omega
        · obtain rfl : k = Q1.length := by omega
          rw [← HTQ.out, List.take_length] at OW
          have b7 := B7'.out.old OO.out
          have c7 := b7.cell
          have f7 := b7.free
          have OF := Lib.hid (O7.out.trans OO.out)
          clear b7
          go_wp2_with fail
          go_region
          have FIN : ∃ W6, W6 = (wr.setCell ⟨p7, 0, none⟩ (.int .i64 ((lastP (nums s) n).length : Int))).drew ∧ Old w W6 ∧ W6.ownsRow W7.heap.size 9 1 u6 Q1.length (T.map (fun t => Value.string (runesBytes t))) ∧ W6.cell? ⟨p7, 0, none⟩ = some (.int .i64 ((lastP (nums s) n).length : Int)) := by
            have hb := B7'.out.lt
            refine ⟨_, rfl, (OF.out.stored (p := ⟨p7, 0, none⟩) HP7.out _).then_drew, own_old (own_keep (by rw [← HTQ.out]; exact OW.out) fun g hg _ => Below.heap_setCell wr ⟨p7, 0, none⟩ _ g ?_) (Old.drew _), ?_⟩
            · have := (own_inside OW.out g hg).1; simp; omega
            · exact (((B7'.out.old OO.out).set).old (Old.drew _)).cell
          obtain ⟨W8, e8, o8, r8, y7⟩ := FIN
          rw [← e8]
          have O8 := Lib.hid o8
          have R8 := Lib.hid r8
          clear e8 o8 r8 c7 f7
          go_wp2_with fail
          refine bodyPost_ret (v := .tuple #[u6, .int .i64 ((lastP (nums s) n).length : Int), .bool true]) (by simp [results, Tryd.results11, go_sem, y7]) rfl ⟨u6, W7.heap.size, rfl, O8.out, ?_⟩
          have h8 := R8.out
          rw [← HTQ.out, HT'.out] at h8
          exact h8
end Go.Proofs.YtalkikljjffpmaaDoor
