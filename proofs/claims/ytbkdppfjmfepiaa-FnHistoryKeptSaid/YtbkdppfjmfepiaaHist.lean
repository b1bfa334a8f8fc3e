/- goprompt's History in memory. -/
import Derived.Test.YtbkdppfjmfepiaaBuf
import Derived.Test.YtbkdppfjmfepiaaCM2
import Derived.Test.YtbkdppfjmfepiaaAppAt
import Derived.Laws.OwnMore
import Derived.LoopTactic
import Derived.Deep.RegionHeld
namespace Go.Proofs.Ytbkdppfjmfepiaa
open Go.RowKit
set_option linter.unusedVariables false
set_option linter.unusedSimpArgs false
set_option linter.unnecessarySimpa false
set_option maxRecDepth 100000

/-- Block hp is a History: what was added (hv), what is kept now (block kb), which one is selected. -/
def HB (w : World) (hp kb base : Nat) (hv : Value) (kc : Nat) (Hs Ks : List ByteArray) (at_ : Int) : Prop :=
  w.heap[hp]? = some (.cells #[hv, .slice (some ⟨kb, 0, none⟩) Ks.length kc, .int .i64 at_] 128) ∧ w.ownsRow base 9 1 hv Hs.length (Hs.map Value.string) ∧
    w.ownsRow base 9 1 (.slice (some ⟨kb, 0, none⟩) Ks.length kc) Ks.length (Ks.map Value.string) ∧ hp ≠ kb ∧ hv.ownBlock ≠ some hp ∧ hv.ownBlock ≠ some kb ∧ (∃ hb hc, hv = .slice (some ⟨hb, 0, none⟩) Hs.length hc)

theorem alloc3 (w : World) (x y z : Obj) : (((w.alloc x).alloc y).alloc z).heap.size = w.heap.size + 3 ∧ (((w.alloc x).alloc y).alloc z).heap[w.heap.size]? = some x ∧
    (((w.alloc x).alloc y).alloc z).heap[w.heap.size + 1]? = some y ∧ (((w.alloc x).alloc y).alloc z).heap[w.heap.size + 2]? = some z := by
  have h1 : (w.alloc x).heap.size = w.heap.size + 1 := by simp
  have h2 : ((w.alloc x).alloc y).heap.size = w.heap.size + 2 := by simp
  refine ⟨by simp, ?_, ?_, ?_⟩
  · rw [heap_alloc_old _ _ (by omega), heap_alloc_old _ _ (by omega)]; exact heap_alloc_new w x
  · rw [heap_alloc_old _ _ (by omega), ← h1]; exact heap_alloc_new _ y
  · rw [← h2]; exact heap_alloc_new _ z
theorem newHist_any (w : World) : Calls Try.prog 47 #[] w fun e w' => ∃ hp kb hv kc, e = .returned (.pointer (some ⟨hp, 0, none⟩)) ∧ Old w w' ∧ w.heap.size ≤ hp ∧ HB w' hp kb w.heap.size hv kc [] [⟨#[]⟩] 0 := by
  go_enter Try.func47, Try.ntmps47
  go_wp2_with fail
  go_ret
  obtain ⟨s3, y0, y1, z2⟩ := alloc3 w (.cells #[] 9) (.cells #[.string ⟨#[]⟩] 9) (.cells #[.slice (some ⟨w.heap.size, 0, none⟩) 0 0, .slice (some ⟨w.heap.size + 1, 0, none⟩) 1 1, .int .i64 0] 128)
  refine ⟨w.heap.size + 2, w.heap.size + 1, _, 1, rfl, ((Old.alloc _ _).then_alloc _).then_alloc _, by omega, z2, ⟨rfl, .inr ⟨w.heap.size, 0, _, rfl, Nat.le_refl _, y0, Nat.le_refl _, by unfold maxLen; omega, rfl, rfl⟩⟩, ⟨rfl, .inr ⟨w.heap.size + 1, 1, _, rfl, by omega, y1, Nat.le_refl _, by unfold maxLen; omega, rfl, rfl⟩⟩, by omega, ?_, ?_, ⟨_, _, rfl⟩⟩
  · simp [Value.ownBlock]
  · simp [Value.ownBlock]

theorem info_s : (Try.prog.info? 9).map (fun i => (i.zero, i.size, i.bytes)) = some (some (.string ByteArray.empty), 1, 16) := by kernel_rfl
section
variable {P : Program} {ops : Array Oper} {rest : List Oper} {o : Oper} {a : Act} {Q : Exit → Act → World → Prop} {w : World}
/-- 'make([]string, n)': a row of its own. -/
theorem wpList_make_strs (hg : o.guard = none) (l c : Operand) (t e : TypeId) (hop : o.op = Op.makeSlice t l c) (h1 : P.underlying t = some (.slice e)) (hinfo : (P.info? e).map (fun i => (i.zero, i.size, i.bytes)) = some (some (.string ByteArray.empty), 1, 16))
    (kl kc : IntKind) (L C : Int) (n : Nat) (hl : a.eval l = .int kl L) (hc : a.eval c = .int kc C) (hL : L = (n : Int)) (hC : C = (n : Int)) (hn : n ≤ 2147483648)
    (h : ∀ w', w'.ownsRow w.heap.size e 1 (.slice (some ⟨w.heap.size, 0, none⟩) n n) n (List.replicate n (.string ByteArray.empty)) → Old w w' → w.heap.size < w'.heap.size → wpList P ops Q rest (a.put o.dst (.slice (some ⟨w.heap.size, 0, none⟩) n n)) w') :
    wpList P ops Q (o :: rest) a w := by
  obtain ⟨i, hi, hz0, hz1, hz2⟩ := info_parts1 hinfo
  have hb : i.bytes * n ≤ 16 * 2147483648 := by rw [hz2]; exact Nat.mul_le_mul (Nat.le_refl _) hn
  refine wpList_make_full w hg l c t hop w.heap.size e i (.string ByteArray.empty) 1 h1 hi hz0 hz1 kl kc L C n hl hc hL hC (by omega) (by unfold maxLen; omega) (Nat.le_refl _) ?_
  intro w' hown hgr
  have hown2 : w'.ownsRow w.heap.size e 1 (.slice (some ⟨w.heap.size, 0, none⟩) n n) n (List.replicate n (.string ByteArray.empty)) := by
    have e1 : (madeCells (Value.string ByteArray.empty).cells (n * 1)).toList = List.replicate n (.string ByteArray.empty) := by
      have hc1 : (Value.string ByteArray.empty).cells = #[.string ByteArray.empty] := rfl
      rw [hc1]
      apply List.ext_getElem
      · simp [madeCells]
      · intro j h1 h2
        simp [madeCells, Nat.mod_one]
    rw [e1] at hown
    exact hown
  exact h w' hown2 ((Old.refl w).grown hgr (by simp)) (own_lt hown2).2.1
end

theorem scell {w : World} {p i q j : Nat} (v : Value) (h : q ≠ p ∨ j ≠ i) : (w.setCell ⟨p, i, none⟩ v).cell? ⟨q, j, none⟩ = w.cell? ⟨q, j, none⟩ := far_cell w v h
/-- The row that Clear fills: the first k texts, and empty ones. -/
def mixed (Hs : List ByteArray) (k : Nat) : List Value := (Hs.take k).map Value.string ++ List.replicate (Hs.length - k) (.string ByteArray.empty)
theorem mixed_zero (Hs : List ByteArray) : mixed Hs 0 = List.replicate Hs.length (.string ByteArray.empty) := by simp [mixed]
theorem mixed_all (Hs : List ByteArray) : mixed Hs Hs.length = Hs.map Value.string := by simp [mixed]
theorem mixed_set {Hs : List ByteArray} {k : Nat} (h : k < Hs.length) : (mixed Hs k).set k (.string (gs Hs k)) = mixed Hs (k + 1) := by
  unfold mixed
  have hl : ((Hs.take k).map Value.string).length = k := by simp; omega
  rw [List.set_append_right _ _ (by omega), hl, Nat.sub_self, show Hs.length - k = (Hs.length - (k + 1)) + 1 by omega, List.replicate_succ, List.set_cons_zero, List.take_succ_eq_append_getElem h, List.map_append, List.append_assoc, gs_lt h]
  rfl

/-- Within Clear's loop. -/
def CL (w : World) (hp hb hc kb base : Nat) (Hs : List ByteArray) (at_ : Int) (k : Nat) : Prop :=
  w.heap[hp]? = some (.cells #[.slice (some ⟨hb, 0, none⟩) Hs.length hc, .slice (some ⟨kb, 0, none⟩) Hs.length Hs.length, .int .i64 at_] 128) ∧ w.ownsRow base 9 1 (.slice (some ⟨hb, 0, none⟩) Hs.length hc) Hs.length (Hs.map Value.string) ∧
    w.ownsRow base 9 1 (.slice (some ⟨kb, 0, none⟩) Hs.length Hs.length) Hs.length (mixed Hs k)

set_option maxHeartbeats 2000000 in
theorem clear_any (hp hb hc base : Nat) (tv : Value) (Hs : List ByteArray) (at_ : Int) (w : World) (h1 : w.heap[hp]? = some (.cells #[.slice (some ⟨hb, 0, none⟩) Hs.length hc, tv, .int .i64 at_] 128)) (h2 : w.ownsRow base 9 1 (.slice (some ⟨hb, 0, none⟩) Hs.length hc) Hs.length (Hs.map Value.string)) (hbp : hb ≠ hp) (hn : Hs.length ≤ 1000) (hbase : base ≤ w.heap.size) :
    Calls Try.prog 50 #[.pointer (some ⟨hp, 0, none⟩)] w fun e w' => ∃ kb' kc', e = .returned (.tuple #[]) ∧ HB w' hp kb' base (.slice (some ⟨hb, 0, none⟩) Hs.length hc) kc' Hs (Hs ++ [⟨#[]⟩]) Hs.length ∧ But hp w w' ∧ w.heap.size ≤ kb' := by
  have hpl : hp < w.heap.size := (Array.getElem?_eq_some_iff.1 h1).1
  have hbl : hb < w.heap.size := (own_lt h2).2.1
  have H1 := Lib.hid h1
  have H2 := Lib.hid h2
  have c0 : w.cell? ⟨hp, 0, none⟩ = some (.slice (some ⟨hb, 0, none⟩) Hs.length hc) := (bcell h1 0).trans rfl
  clear h1 h2
  go_enter Try.func50, Try.ntmps50
  go_wp2_with (at_make; refine wpList_make_strs rfl _ _ 34 9 rfl Try.underlying34 info_s _ _ _ _ Hs.length rfl rfl rfl rfl (by omega) ?_; intro w1 ow1 o1 l1
               have k1 := (o1.heap hpl).trans H1.out
               have d0 : w1.cell? ⟨hp, 0, none⟩ = some (.slice (some ⟨hb, 0, none⟩) Hs.length hc) := (bcell k1 0).trans rfl
               have d1 : ∃ x, w1.cell? ⟨hp, 1, none⟩ = some x := ⟨_, bcell k1 1⟩
               obtain ⟨x1, d1⟩ := d1
               have f1 : w1.frozen? ⟨hp, 1, none⟩ = false := bfree k1 1
               have d2 : (w1.setCell ⟨hp, 1, none⟩ (.slice (some ⟨w.heap.size, 0, none⟩) Hs.length Hs.length)).cell? ⟨hp, 0, none⟩ = some (.slice (some ⟨hb, 0, none⟩) Hs.length hc) := (scell _ (Or.inr (by decide))).trans d0
               have K1 := Lib.hid k1
               have OW1 := Lib.hid ow1
               have O1 := Lib.hid o1
               have L1 := Lib.hid l1
               clear ow1 o1 l1 k1)
  have hg : w.heap.size ≠ hp := by omega
  have hgb : w.heap.size ≠ hb := by omega
  obtain ⟨g, hgd⟩ : ∃ g, g = w.heap.size := ⟨_, rfl⟩
  have CL0 : Hid (CL (w1.setCell ⟨hp, 1, none⟩ (.slice (some ⟨w.heap.size, 0, none⟩) Hs.length Hs.length)) hp hb hc w.heap.size base Hs at_ 0) := by
    refine ⟨by rw [bset K1.out]; simp, own_keep (own_keep H2.out (fun q hq hq2 => O1.out.heap hq2)) (fun q hq _ => ?_), ?_⟩
    · obtain rfl : hb = q := by simpa [Value.ownBlock] using hq
      exact Below.heap_setCell w1 ⟨hp, 1, none⟩ _ hb (by simpa using hbp)
    · rw [mixed_zero]
      refine own_down (own_keep OW1.out (fun q hq _ => ?_)) hbase
      obtain rfl : w.heap.size = q := by simpa [Value.ownBlock] using hq
      exact Below.heap_setCell w1 ⟨hp, 1, none⟩ _ w.heap.size (by simpa using hg)
  have B0 : Hid (But hp w (w1.setCell ⟨hp, 1, none⟩ (.slice (some ⟨w.heap.size, 0, none⟩) Hs.length Hs.length))) := (But.of_old O1.out).stored 1 _
  have G0 : Hid (w.heap.size < (w1.setCell ⟨hp, 1, none⟩ (.slice (some ⟨w.heap.size, 0, none⟩) Hs.length Hs.length)).heap.size) := by unfold Hid; simp [World.setCell]; exact L1.out
  rw [← hgd] at CL0 B0 G0 hg hgb ⊢
  have HG := Lib.hid hgd
  clear hgd d0 d1 f1 d2 c0 K1 OW1
  generalize w1.setCell ⟨hp, 1, none⟩ (.slice (some ⟨g, 0, none⟩) Hs.length Hs.length) = w2 at CL0 B0 G0 ⊢
  go_loopw [2, 17] (fun _ i wr => ∃ k : Nat, k ≤ Hs.length ∧ i = .int .i64 k ∧ CL wr hp hb hc g base Hs at_ k ∧ But hp w wr ∧ g < wr.heap.size) (fun _ i _ => Hs.length - (intOf i).toNat)
  case atStart => exact ⟨0, Nat.zero_le _, rfl, CL0.out, B0.out, G0.out⟩
  case round =>
    obtain ⟨k, hk, rfl, hcl, hbut, hgl⟩ := hrel
    have CK := Lib.hid hcl
    have BK := Lib.hid hbut
    have GK := Lib.hid hgl
    clear hcl hbut hgl
    by_cases hkn : k < Hs.length
    · have p0 : wr.cell? ⟨hp, 0, none⟩ = some (.slice (some ⟨hb, 0, none⟩) Hs.length hc) := (bcell CK.out.1 0).trans rfl
      have p1 : wr.cell? ⟨hp, 1, none⟩ = some (.slice (some ⟨g, 0, none⟩) Hs.length Hs.length) := (bcell CK.out.1 1).trans rfl
      have p2 : wr.cell? ⟨hb, k, none⟩ = some (.string (gs Hs k)) := by
        rw [own_cell CK.out.2.1 k hkn, gv_lt (by simpa using hkn)]; simp [gs_lt hkn]
      have p3 : ∃ x, wr.cell? ⟨g, k, none⟩ = some x := ⟨_, own_cell CK.out.2.2 k hkn⟩
      obtain ⟨x3, p3⟩ := p3
      have p4 : wr.frozen? ⟨g, k, none⟩ = false := CK.out.2.2.frozenAt k
      have y0 : (wr.setCell ⟨g, k, none⟩ (.string (gs Hs k))).cell? ⟨hp, 0, none⟩ = some (.slice (some ⟨hb, 0, none⟩) Hs.length hc) := (scell _ (Or.inl (Ne.symm hg))).trans p0
      have y1 : (wr.setCell ⟨g, k, none⟩ (.string (gs Hs k))).cell? ⟨hp, 1, none⟩ = some (.slice (some ⟨g, 0, none⟩) Hs.length Hs.length) := (scell _ (Or.inl (Ne.symm hg))).trans p1
      have y2 : (wr.setCell ⟨g, k, none⟩ (.string (gs Hs k))).cell? ⟨hb, k, none⟩ = some (.string (gs Hs k)) := (scell _ (Or.inl (Ne.symm hgb))).trans p2
      have i0 : (0 : Int) ≤ k := by omega
      have i1 : (k : Int) < Hs.length := by omega
      go_wp2_with fail
      go_region_held (fun w' => w'.cell? ⟨hp, 0, none⟩ = some (.slice (some ⟨hb, 0, none⟩) Hs.length hc) ∧ w'.cell? ⟨hp, 1, none⟩ = some (.slice (some ⟨g, 0, none⟩) Hs.length Hs.length) ∧ w'.cell? ⟨hb, k, none⟩ = some (.string (gs Hs k)))
        (first | exact ⟨p0, p1, p2⟩ | exact ⟨y0, y1, y2⟩ | go_keep)
        (fail)
      go_wp2_with fail
      go_roundw
      case rel =>
        have st := CK.out.2.2.stored k (.string (gs Hs k))
        rw [mixed_set hkn] at st
        refine ⟨k + 1, by omega, by go_num, ⟨(Below.heap_setCell wr ⟨g, k, none⟩ _ hp (by simpa using Ne.symm hg)).trans CK.out.1, own_keep CK.out.2.1 (fun q hq _ => ?_), st.1⟩, ⟨BK.out.os, BK.out.tape, BK.out.output, by have := BK.out.size; simpa [World.setCell] using this, fun q hq h1 => ?_⟩, by have := GK.out; simpa [World.setCell] using this⟩
        · obtain rfl : hb = q := by simpa [Value.ownBlock] using hq
          exact Below.heap_setCell wr ⟨g, k, none⟩ _ hb (by simpa using Ne.symm hgb)
        · have hq2 : q ≠ g := by have := HG.out; omega
          exact (Below.heap_setCell wr ⟨g, k, none⟩ _ q (by simpa using hq2)).trans (BK.out.block q hq h1)
      case measure => simp [intOf]; omega
    · have hkn' : k = Hs.length := by omega
      subst hkn'
      have ROW := CK.out.2.2
      rw [mixed_all] at ROW
      have RW := Lib.hid (own_at ROW)
      have p1 : wr.cell? ⟨hp, 1, none⟩ = some (.slice (some ⟨g, 0, none⟩) Hs.length Hs.length) := (bcell CK.out.1 1).trans rfl
      have NB : Hid (∀ n c : Nat, (Value.slice (some ⟨g, 0, none⟩) n c).ownBlock = some hp → False) := fun n c e => hg (by simpa [Value.ownBlock] using e)
      have hsz : hp < wr.heap.size := Nat.lt_of_lt_of_le hpl BK.out.size
      have hbz : base ≤ wr.heap.size := Nat.le_trans hbase BK.out.size
      clear ROW
      go_wp2_with (at_builtin; refine wpList_append1 rfl _ _ 34 9 9 (.string ByteArray.empty) _ 16 rfl Try.underlying34 info_s rfl g _ Hs.length _ rfl RW.out rfl rfl (by omega) (by omega) (Nat.le_of_lt GK.out) ?_; intro v' w5 hown1 hg1 hv1
                   obtain ⟨kb', kc', rfl⟩ := hv1
                   have z1 := (hg1.block hp hsz (by intro e; first | exact NB.out _ _ e | exact NB.out _ _ e.symm)).trans CK.out.1
                   have q1 : ∃ x, w5.cell? ⟨hp, 1, none⟩ = some x := ⟨_, bcell z1 1⟩
                   obtain ⟨x1, q1⟩ := q1
                   have q2 : w5.frozen? ⟨hp, 1, none⟩ = false := bfree z1 1
                   have s1 : (w5.setCell ⟨hp, 1, none⟩ (.slice (some ⟨kb', 0, none⟩) (Hs.length + 1) kc')).cell? ⟨hp, 1, none⟩ = some (.slice (some ⟨kb', 0, none⟩) (Hs.length + 1) kc') := World.cell?_setCell_same' w5 _ _ (by rw [q1]; rfl)
                   have s2 : ∃ x, (w5.setCell ⟨hp, 1, none⟩ (.slice (some ⟨kb', 0, none⟩) (Hs.length + 1) kc')).cell? ⟨hp, 2, none⟩ = some x := ⟨_, (scell _ (Or.inr (by decide))).trans (bcell z1 2)⟩
                   obtain ⟨x2, s2⟩ := s2
                   have s3 : (w5.setCell ⟨hp, 1, none⟩ (.slice (some ⟨kb', 0, none⟩) (Hs.length + 1) kc')).frozen? ⟨hp, 2, none⟩ = false := (frozen_setCell _ _ _ _).trans (bfree z1 2)
                   have Z1 := Lib.hid z1
                   have OWN1 := Lib.hid hown1
                   have GR1 := Lib.hid hg1
                   clear z1 hown1 hg1)
      go_end0
      have hkg : g ≤ kb' := (own_lt OWN1.out).1
      have hgw := HG.out
      have hln : (Hs ++ [(⟨#[]⟩ : ByteArray)]).length = Hs.length + 1 := by simp
      have hmp : (Hs ++ [(⟨#[]⟩ : ByteArray)]).map Value.string = Hs.map Value.string ++ [Value.string (⟨#[]⟩ : ByteArray)] := by simp
      have far : ∀ q, q ≠ hp → ((w5.setCell ⟨hp, 1, none⟩ (.slice (some ⟨kb', 0, none⟩) (Hs.length + 1) kc')).setCell ⟨hp, 2, none⟩ (.int .i64 Hs.length)).heap[q]? = w5.heap[q]? := fun q hq =>
        (Below.heap_setCell _ ⟨hp, 2, none⟩ _ q (by simpa using hq)).trans (Below.heap_setCell w5 ⟨hp, 1, none⟩ _ q (by simpa using hq))
      have nog : ∀ q, q < g → (Value.slice (some ⟨g, 0, none⟩) Hs.length Hs.length).ownBlock = some q → False := fun q hq e => by
        have : g = q := by simpa [Value.ownBlock] using e
        omega
      refine ⟨kb', kc', rfl, ⟨?_, ?_, ?_, by omega, ?_, ?_, ⟨_, _, rfl⟩⟩, ?_, by omega⟩
      · rw [bset (bset Z1.out _)]; simp
      · refine own_keep (own_keep CK.out.2.1 (fun q hq hq2 => GR1.out.block q hq2 (by
          obtain rfl : hb = q := by simpa [Value.ownBlock] using hq
          intro e; first | exact nog hb (by omega) e | exact nog hb (by omega) e.symm))) (fun q hq _ => ?_)
        obtain rfl : hb = q := by simpa [Value.ownBlock] using hq
        exact far hb hbp
      · rw [hln, hmp]
        refine own_down (own_keep OWN1.out (fun q hq _ => ?_)) (by omega)
        obtain rfl : kb' = q := by simpa [Value.ownBlock] using hq
        exact far kb' (by omega)
      · simpa [Value.ownBlock] using hbp
      · have : hb ≠ kb' := by omega
        simpa [Value.ownBlock] using this
      · refine ⟨GR1.out.os.trans BK.out.os, GR1.out.tape.trans BK.out.tape, GR1.out.output.trans BK.out.output, by have := BK.out.size; have := GR1.out.size; simp [World.setCell]; omega, fun q hq h1 => ?_⟩
        rw [far q h1, GR1.out.block q (by have := BK.out.size; omega) (by intro e; first | exact nog q (by omega) e | exact nog q (by omega) e.symm)]
        exact BK.out.block q hq h1

theorem HB.clears {w : World} {hp kb base kc : Nat} {hv : Value} {Hs Ks : List ByteArray} {at_ : Int} (h : HB w hp kb base hv kc Hs Ks at_) : ∃ hb hc tv, hv = .slice (some ⟨hb, 0, none⟩) Hs.length hc ∧ w.heap[hp]? = some (.cells #[.slice (some ⟨hb, 0, none⟩) Hs.length hc, tv, .int .i64 at_] 128) ∧
    w.ownsRow base 9 1 (.slice (some ⟨hb, 0, none⟩) Hs.length hc) Hs.length (Hs.map Value.string) ∧ hb ≠ hp := by
  obtain ⟨h1, h2, h3, h4, h5, h6, ⟨hb, hc, rfl⟩⟩ := h
  exact ⟨hb, hc, _, rfl, h1, h2, by simpa [Value.ownBlock] using h5⟩

set_option maxHeartbeats 1000000 in
theorem add_any (hp hb hc base : Nat) (tv : Value) (Hs : List ByteArray) (s : ByteArray) (at_ : Int) (w : World) (h1 : w.heap[hp]? = some (.cells #[.slice (some ⟨hb, 0, none⟩) Hs.length hc, tv, .int .i64 at_] 128)) (h2 : w.ownsRow base 9 1 (.slice (some ⟨hb, 0, none⟩) Hs.length hc) Hs.length (Hs.map Value.string)) (hbp : hb ≠ hp) (hn : Hs.length + 1 ≤ 1000) (hbase : base ≤ w.heap.size) :
    Calls Try.prog 49 #[.pointer (some ⟨hp, 0, none⟩), .string s] w fun e w' => ∃ kb' kc' hb' hc', e = .returned (.tuple #[]) ∧ HB w' hp kb' base (.slice (some ⟨hb', 0, none⟩) (Hs ++ [s]).length hc') kc' (Hs ++ [s]) (Hs ++ [s] ++ [⟨#[]⟩]) (Hs ++ [s]).length ∧ Two hp hb w w' ∧ w.heap.size ≤ kb' ∧ (hb' = hb ∨ w.heap.size ≤ hb') := by
  have hpl : hp < w.heap.size := (Array.getElem?_eq_some_iff.1 h1).1
  have H1 := Lib.hid h1
  have H2 := Lib.hid h2
  have c0 : w.cell? ⟨hp, 0, none⟩ = some (.slice (some ⟨hb, 0, none⟩) Hs.length hc) := (bcell h1 0).trans rfl
  have NB : Hid (∀ q, q ≠ hb → (Value.slice (some ⟨hb, 0, none⟩) Hs.length hc).ownBlock = some q → False) := fun q hq e => by
    have : hb = q := by simpa [Value.ownBlock] using e
    exact hq this.symm
  clear h1 h2
  go_enter Try.func49, Try.ntmps49
  go_wp2_with (first
    | (at_builtin; refine wpList_append1_at rfl _ _ 34 9 9 (.string ByteArray.empty) _ 16 rfl Try.underlying34 info_s rfl base _ Hs.length _ rfl H2.out rfl rfl (by omega) (by omega) hbase ?_; intro v' w5 hown1 hg1 hv1
       obtain ⟨hb', hc', rfl, hat⟩ := hv1
       have HAT := Lib.hid hat
       clear hat
       have z1 := (hg1.block hp hpl (by intro e; first | exact NB.out hp (Ne.symm hbp) e | exact NB.out hp (Ne.symm hbp) e.symm)).trans H1.out
       have q1 : ∃ x, w5.cell? ⟨hp, 0, none⟩ = some x := ⟨_, bcell z1 0⟩
       obtain ⟨x1, q1⟩ := q1
       have q2 : w5.frozen? ⟨hp, 0, none⟩ = false := bfree z1 0
       have Z1 := Lib.hid z1
       have OWN1 := Lib.hid hown1
       have GR1 := Lib.hid hg1
       clear z1 hown1 hg1)
    | (go_at_call 50
       have hne : hb' ≠ hp := by
         intro e
         rcases OWN1.out.2 with ⟨e1, _⟩ | ⟨g, cap, cur, e1, _, e2, _⟩
         · cases e1
         · have e3 : g = hb' := by injection e1 with e1; injection e1 with e1; injection e1 with e1; exact e1.symm
           rw [e3, e, Z1.out] at e2
           injection e2 with e2
           injection e2 with _ e4 _
           exact absurd e4 (by decide)
       have hln : (Hs ++ [s]).length = Hs.length + 1 := by simp
       have hmp : (Hs ++ [s]).map Value.string = Hs.map Value.string ++ [Value.string s] := by simp
       have hA : ((w5.setCell ⟨hp, 0, none⟩ (.slice (some ⟨hb', 0, none⟩) (Hs.length + 1) hc')).heap[hp]? = some (.cells #[.slice (some ⟨hb', 0, none⟩) (Hs ++ [s]).length hc', tv, .int .i64 at_] 128)) := by rw [bset Z1.out, hln]; simp
       have hB : (w5.setCell ⟨hp, 0, none⟩ (.slice (some ⟨hb', 0, none⟩) (Hs.length + 1) hc')).ownsRow base 9 1 (.slice (some ⟨hb', 0, none⟩) (Hs ++ [s]).length hc') (Hs ++ [s]).length ((Hs ++ [s]).map Value.string) := by
         rw [hln, hmp]
         refine own_keep OWN1.out (fun q hq _ => ?_)
         have : hb' = q := by simpa [Value.ownBlock] using hq
         subst this
         exact Below.heap_setCell w5 ⟨hp, 0, none⟩ _ hb' (by simpa using hne)
       refine (clear_any hp hb' hc' base tv (Hs ++ [s]) at_ _ hA hB hne (by rw [hln]; exact hn) (by have := GR1.out.size; simp [World.setCell]; omega)).mono ?_
       clear hA hB hln hmp
       rintro e w6 ⟨kb', kc', rfl, hh, hbt, hkb⟩
       have HH := Lib.hid hh
       have HBT := Lib.hid hbt
       have HKB := Lib.hid hkb
       clear hh hbt hkb))
  go_end0
  have hz := HKB.out
  have hgs := GR1.out.size
  simp only [World.setCell, Array.size_modify] at hz
  refine ⟨_, _, _, _, rfl, HH.out, ?_, by omega, ?_⟩
  · refine ⟨HBT.out.os.trans GR1.out.os, HBT.out.tape.trans GR1.out.tape, HBT.out.output.trans GR1.out.output, by have := HBT.out.size; simp [World.setCell] at this; omega, fun q hq e1 e2 => ?_⟩
    rw [HBT.out.block q (by simp [World.setCell]; omega) e1, Below.heap_setCell w5 ⟨hp, 0, none⟩ _ q (by simpa using e1)]
    exact GR1.out.block q hq (by intro e; first | exact NB.out q e2 e | exact NB.out q e2 e.symm)
  · rcases HAT.out with h | h
    · left; have h2 : some hb = some hb' := h
      exact (Option.some.inj h2).symm
    · exact .inr h
end Go.Proofs.Ytbkdppfjmfepiaa
