/- Contract: readline.ReadMessage of the bytes of a message with more behind it. -/
import Derived.Test.YthfjkaeenpbebaaMsg
import Derived.Laws.CopyOwn
import Derived.Laws.BitsAllLaws
import Derived.StillTailTactics
import Derived.RegionTactic
import Derived.BigRegion
namespace Go.Proofs.Ythfjkaeenpbebaa
open Go.RowKit
set_option linter.unusedVariables false
set_option linter.unusedSimpArgs false
set_option linter.unnecessarySimpa false
set_option maxRecDepth 100000

theorem or_bytes (h l : Nat) (hl : l < 256) : h * 256 ||| l = h * 256 + l := by
  have := Nat.shiftLeft_add_eq_or_of_lt (i := 8) (b := l) hl h
  rw [Nat.shiftLeft_eq] at this
  exact this.symm
theorem u32_bytes {h l : Nat} (hh : h < 256) (hl : l < 256) : bits .or .u32 ((h : Int) * 256) (l : Int) = ((h * 256 + l : Nat) : Int) := by
  have := u32_or_nat (h * 256) l (by omega) (by omega)
  rw [or_bytes h l hl] at this
  rw [← this]; congr 1
theorem u16_bytes {h l : Nat} (hh : h < 256) (hl : l < 256) : bits .or .u16 ((h : Int) * 256) (l : Int) = ((h * 256 + l : Nat) : Int) := by
  have := u16_or_nat (h * 256) l (by omega) (by omega)
  rw [or_bytes h l hl] at this
  rw [← this]; congr 1
theorem u32_zero {h : Nat} (hh : h < 256) : bits .or .u32 0 ((h : Int) * 256) = (h : Int) * 256 := by
  have := u32_or_nat 0 (h * 256) (by omega) (by omega)
  rw [Nat.zero_or] at this
  have e : ((0 : Nat) : Int) = 0 := rfl
  rw [e] at this
  rw [Int.natCast_mul] at this
  exact this
theorem gi_tail6 {a0 a1 a2 a3 a4 a5 : Int} {l m : List Int} {j : Nat} (h : j < l.length) : gi ([a0, a1, a2, a3, a4, a5] ++ (l ++ m)) (6 + j) = gi l j := by
  have e : ([a0, a1, a2, a3, a4, a5] ++ (l ++ m)).drop 6 = l ++ m := rfl
  rw [← gi_drop, e]
  simp [gi, List.getD, List.getElem?_append, h]
theorem gi_rest6 {a0 a1 a2 a3 a4 a5 : Int} {l m : List Int} {j : Nat} : gi ([a0, a1, a2, a3, a4, a5] ++ (l ++ m)) (6 + l.length + j) = gi m j := by
  have e : ([a0, a1, a2, a3, a4, a5] ++ (l ++ m)).drop (6 + l.length) = m := by
    have e2 : ([a0, a1, a2, a3, a4, a5] ++ (l ++ m)).drop 6 = l ++ m := rfl
    rw [← List.drop_drop, e2, List.drop_left]
  rw [← gi_drop, e]
inductive Stay (p : Prop) : Prop
  | mk (h : p)
theorem Stay.out {p : Prop} : Stay p → p
  | .mk h => h
theorem stop_at {P : Program} {w : World} {ops : Array Oper} {rest : List Oper} {o : Oper} {a : Act} {Q : Exit → Act → World → Prop} (op : Op) (ho : o.op = op) (h : Stay (wpList P ops Q (o :: rest) a w)) : wpList P ops Q (o :: rest) a w := h.out
set_option maxHeartbeats 1000000 in
theorem readMessage_any (b c n h l k kh kl : Nat) (d r : ByteArray) (w : World) (hb : COwn w b .u8 (6 + d.size + r.size) (gi (nums (hd6 h l kh kl ++ d ++ r)))) (hblt : b < w.heap.size) (hc : 6 + d.size + r.size ≤ c) (hc2 : c ≤ maxLen)
    (hn : Parted n h l) (hk : Parted k kh kl) (hkh : kh < 128) (hd : n = d.size + 2) (hd1 : d.size ≤ 1000) (hr : r.size ≤ 1000) :
    Calls Try.prog 29 #[.slice (some ⟨b, 0, none⟩) (6 + d.size + r.size) c] w fun e w' => ∃ m db o cc, e = .returned (.tuple #[.pointer (some ⟨m, 0, none⟩), .slice (some ⟨b, o, none⟩) r.size cc, .nilIface]) ∧ Old w w' ∧ MsgAt w' m db d.size k d ∧ w.heap.size ≤ m ∧ w.heap.size ≤ db ∧ ∀ j, j < r.size → w'.cell? ⟨b, o + j, none⟩ = some (.int .u8 (gi (nums r) j)) := by
  obtain ⟨hn1, hn2⟩ := hn
  obtain ⟨hk1, hk2⟩ := hk
  have hh : h < 256 := by omega
  have HNt : nums (hd6 h l kh kl ++ d ++ r) = [0, 0, (h : Int), (l : Int), (kh : Int), (kl : Int)] ++ (nums d ++ nums r) := by
    rw [nums_append, nums_append, nums_hd6 hh hn2 (by omega) hk2, List.append_assoc]
  rw [HNt] at hb
  have c0 := (hb 0 (by omega)).1
  have c1 := (hb 1 (by omega)).1
  have c2 := (hb 2 (by omega)).1
  have c3 := (hb 3 (by omega)).1
  have c4 := (hb 4 (by omega)).1
  have c5 := (hb 5 (by omega)).1
  have k0 : w.cell? ⟨b, 0, none⟩ = some (.int .u8 0) := c0
  have k1 : w.cell? ⟨b, 1, none⟩ = some (.int .u8 0) := c1
  have k2 : w.cell? ⟨b, 2, none⟩ = some (.int .u8 h) := c2
  have k3 : w.cell? ⟨b, 3, none⟩ = some (.int .u8 l) := c3
  have k4 : w.cell? ⟨b, 4, none⟩ = some (.int .u8 kh) := c4
  have k5 : w.cell? ⟨b, 5, none⟩ = some (.int .u8 kl) := c5
  clear c0 c1 c2 c3 c4 c5
  have a1 : 6 + d.size + r.size - 4 = 2 + d.size + r.size := by omega
  have a2 : 2 + d.size + r.size - 2 = d.size + r.size := by omega
  have a3 : d.size + r.size - d.size = r.size := by omega
  have t1 : decide ((6 : Int) + d.size + r.size < 4) = false := by rw [decide_eq_false_iff_not]; omega
  have t2 : decide ((2 : Int) + d.size + r.size < 2) = false := by rw [decide_eq_false_iff_not]; omega
  have t3 : decide ((d.size : Int) + r.size < d.size) = false := by rw [decide_eq_false_iff_not]; omega
  have HB := Lib.hid hb
  have b1 : bits .or .u32 0 0 = 0 := by have := u32_or_nat 0 0 (by omega) (by omega); simpa using this
  have b2 := u32_zero hh
  have b3 : bits .or .u32 ((h : Int) * 256) (l : Int) = (d.size : Int) + 2 := by rw [u32_bytes hh hn2]; omega
  have b4 : bits .or .u16 ((kh : Int) * 256) (kl : Int) = (k : Int) := by rw [u16_bytes (by omega) hk2]; omega
  have b6 : IntKind.i16.wrap (k : Int) = k := IntWalk.i16_in _ (by omega)
  clear hb hk1 hn1 HNt
  go_enter Try.func29, Try.ntmps29
  go_wp2_with fail
  go_quiet (fail)
  have O1 := Lib.hid ((Old.alloc w (.cells #[.int .i16 0, .slice none 0 0] 51)).then_drewN nq)
  have H1 : Hid (((w.alloc (.cells #[.int .i16 0, .slice none 0 0] 51)).drewN nq).heap[w.heap.size]? = some (.cells #[.int .i16 0, .slice none 0 0] 51)) := heap_alloc_new w _
  clear k0 k1 k2 k3 k4 k5
  generalize (w.alloc (.cells #[.int .i16 0, .slice none 0 0] 51)).drewN nq = w1 at O1 H1 ⊢
  have k4 : w1.cell? ⟨b, 4, none⟩ = some (.int .u8 kh) := (O1.out.cell hblt).trans (HB.out 4 (by omega)).1
  have k5 : w1.cell? ⟨b, 5, none⟩ = some (.int .u8 kl) := (O1.out.cell hblt).trans (HB.out 5 (by omega)).1
  have m0 : w1.cell? ⟨w.heap.size, 0, none⟩ = some (.int .i16 0) := (heap_cell H1.out 0).trans rfl
  have f0 := heap_free H1.out 0
  have q0 : (0 : Int) < 2 + (d.size : Int) + (r.size : Int) := by omega
  have q1 : (1 : Int) < 2 + (d.size : Int) + (r.size : Int) := by omega
  have q2 : 0 < 2 + d.size + r.size := by omega
  have q3 : 1 < 2 + d.size + r.size := by omega
  go_wp2_with fail
  go_still_tail 14, (by kernel_rfl)
  change wpList _ _ _ _ _ w1.drew
  have O2 := Lib.hid (O1.out.trans (Old.drew w1))
  have H2 : Hid (w1.drew.heap[w.heap.size]? = some (.cells #[.int .i16 0, .slice none 0 0] 51)) := H1.out
  clear k4 k5 m0 f0 O1 H1
  generalize w1.drew = w2 at O2 H2 ⊢
  have m0 : w2.cell? ⟨w.heap.size, 0, none⟩ = some (.int .i16 0) := (heap_cell H2.out 0).trans rfl
  have f0 := heap_free H2.out 0
  have hlt2 : w.heap.size < w2.heap.size := (Array.getElem?_eq_some_iff.1 H2.out).1
  have hm1 : (w2.setCell ⟨w.heap.size, 0, none⟩ (.int .i16 k)).cell? ⟨w.heap.size, 1, none⟩ = some (.slice none 0 0) := by
    rw [World.cell?_setCell_other]
    · exact (heap_cell H2.out 1).trans rfl
    · intro e; simp at e
  have hm0 : (w2.setCell ⟨w.heap.size, 0, none⟩ (.int .i16 k)).cell? ⟨w.heap.size, 0, none⟩ = some (.int .i16 k) := World.cell?_setCell_same' w2 _ _ (by rw [m0]; rfl)
  have hf1 : (w2.setCell ⟨w.heap.size, 0, none⟩ (.int .i16 k)).frozen? ⟨w.heap.size, 1, none⟩ = false := by rw [frozen_setCell]; exact heap_free H2.out 1
  have hO3 : Hid (Old w (w2.setCell ⟨w.heap.size, 0, none⟩ (.int .i16 k))) := O2.out.stored (Nat.le_refl _) _
  have HM0 := Lib.hid hm0
  have HM1 := Lib.hid hm1
  have HF1 := Lib.hid hf1
  clear hm0 hm1 hf1
  go_wp2_with (first
    | (at_make
       refine wpList_make_ints rfl _ _ 46 5 .u8 1 rfl Try.underlying46 info_b (by omega) _ _ _ _ d.size rfl rfl rfl rfl (by omega) ?_
       intro w3 z3 o3
       have S3 : w2.heap.size < w3.heap.size := (by have := (Array.getElem?_eq_some_iff.1 z3.out).1; simpa [World.setCell] using this)
       have m1 := (o3.cell (by simp [World.setCell]; exact hlt2)).trans HM1.out
       have f1 := (o3.frozen (by simp [World.setCell]; exact hlt2)).trans HF1.out
       have M0 := Lib.hid ((o3.cell (by simp [World.setCell]; exact hlt2)).trans HM0.out)
       have O3 := Lib.hid (hO3.out.trans o3)
       have Z3 := Lib.hid z3.out
       have Z4 : Hid ((w3.setCell ⟨w.heap.size, 1, none⟩ (.slice (some ⟨w2.heap.size, 0, none⟩) d.size d.size)).heap[w2.heap.size]? = some (.cells (List.replicate d.size (Value.int .u8 0)).toArray 5)) := by
         have z : w3.heap[w2.heap.size]? = some (.cells (List.replicate d.size (Value.int .u8 0)).toArray 5) := by simpa [World.setCell] using z3.out
         exact (Below.heap_setCell w3 ⟨w.heap.size, 1, none⟩ _ w2.heap.size (by simp; omega)).trans z
       have O4 : Hid (Old w (w3.setCell ⟨w.heap.size, 1, none⟩ (.slice (some ⟨w2.heap.size, 0, none⟩) d.size d.size))) := O3.out.stored (Nat.le_refl _) _
       have M4 : Hid ((w3.setCell ⟨w.heap.size, 1, none⟩ (.slice (some ⟨w2.heap.size, 0, none⟩) d.size d.size)).cell? ⟨w.heap.size, 0, none⟩ = some (.int .i16 k)) := by
         unfold Hid
         rw [World.cell?_setCell_other]
         · exact M0.out
         · intro e; simp at e
       have N4 : Hid ((w3.setCell ⟨w.heap.size, 1, none⟩ (.slice (some ⟨w2.heap.size, 0, none⟩) d.size d.size)).cell? ⟨w.heap.size, 1, none⟩ = some (.slice (some ⟨w2.heap.size, 0, none⟩) d.size d.size)) :=
         World.cell?_setCell_same' w3 _ _ (by rw [m1]; rfl)
       have L4 : Hid (w2.heap.size < (w3.setCell ⟨w.heap.size, 1, none⟩ (.slice (some ⟨w2.heap.size, 0, none⟩) d.size d.size)).heap.size) := by unfold Hid; simp [World.setCell]; exact S3
       clear o3 z3 m0 f0)
    | (refine stop_at (.call { callee := .builtin .copy, args := #[.tmp 76, .tmp 77], argTypes := #[46, 46] }) rfl ?_))
  case inl =>
    refine .mk ?_
    refine wpList_copy_splice rfl (.tmp 76) (.tmp 77) 46 46 rfl 5 Try.underlying46 (by kernel_rfl) (some ⟨w2.heap.size, 0, none⟩) (some ⟨b, 4, none⟩) d.size d.size (d.size + r.size) 0 (by rfl) (by rfl) w2.heap.size 0 _ 5 Z4.out ((nums d).map (Value.int .u8)) (by rw [List.length_map, length_nums]; exact (Nat.min_eq_right (Nat.le_add_right _ _)).symm) (fun hp => by simp [length_nums] at hp; omega) (by simp [length_nums]) (ints_one _) w2.heap.size _ (Below.refl _ _) (Nat.le_refl _) ?_; intro w5 z5 b5; have Z5 := Lib.hid (row_written (k := .u8) z5.out (by rw [length_nums])); have B5 := Lib.hid b5; have n5 := (b5.cell (p := ⟨w.heap.size, 1, none⟩) hlt2).trans N4.out; have P5 := Lib.hid ((b5.cell (p := ⟨w.heap.size, 0, none⟩) hlt2).trans M4.out); clear z5 b5 m1 f1
    have hd0 : d.size = 0 := by omega
    have hr0 : r.size = 0 := by omega
    have hc0 : c = 6 := by omega
    go_wp2_with fail
    go_quiet (fail)
    go_wp2_with fail
    go_ret3
    refine ⟨w.heap.size, w2.heap.size, 4, _, by rw [hr0]; rfl, (show Old w w5 from Below.trans (B := w.heap.size) O4.out (Below.mono B5.out O2.out.size)).then_drewN nq, ⟨P5.out, n5, fun j hj => row_cown Z5.out (length_nums _) j hj, (Array.getElem?_eq_some_iff.1 Z5.out).1⟩, Nat.le_refl _, O2.out.size, fun j hj => by omega⟩
  case inr =>
    refine .mk ?_
    refine wpList_copy_splice rfl (.tmp 76) (.tmp 77) 46 46 rfl 5 Try.underlying46 (by kernel_rfl) (some ⟨w2.heap.size, 0, none⟩) (some ⟨b, 6, none⟩) d.size d.size (d.size + r.size) (c - 4 - 2) (by rfl) (by rfl) w2.heap.size 0 _ 5 Z4.out ((nums d).map (Value.int .u8)) (by rw [List.length_map, length_nums]; exact (Nat.min_eq_right (Nat.le_add_right _ _)).symm) (fun hp => ⟨rfl, _, rfl, fun j v hj => by
           obtain ⟨h1, rfl⟩ := ints_at hj
           rw [length_nums] at h1
           have hadd : (⟨b, 6, none⟩ : Addr).add j = ⟨b, 6 + j, none⟩ := by unfold Addr.add; split <;> simp_all
           rw [hadd]
           refine (O4.out.cell hblt).trans ((HB.out (6 + j) (by omega)).1.trans ?_)
           rw [gi_tail6 (by rw [length_nums]; omega)]⟩) (by simp [length_nums]) (ints_one _) w2.heap.size _ (Below.refl _ _) (Nat.le_refl _) ?_; intro w5 z5 b5; have Z5 := Lib.hid (row_written (k := .u8) z5.out (by rw [length_nums])); have B5 := Lib.hid b5; have n5 := (b5.cell (p := ⟨w.heap.size, 1, none⟩) hlt2).trans N4.out; have P5 := Lib.hid ((b5.cell (p := ⟨w.heap.size, 0, none⟩) hlt2).trans M4.out); clear z5 b5 m1 f1
    have s1 : (d.size : Int) ≤ d.size + r.size := by omega
    by_cases hz : c - 4 - 2 = d.size
    · go_wp2_with fail
      go_quiet (fail)
      go_wp2_with fail
      go_ret3
      refine ⟨w.heap.size, w2.heap.size, 6, _, rfl, (show Old w w5 from Below.trans (B := w.heap.size) O4.out (Below.mono B5.out O2.out.size)).then_drewN nq, ⟨P5.out, n5, fun j hj => row_cown Z5.out (length_nums _) j hj, (Array.getElem?_eq_some_iff.1 Z5.out).1⟩, Nat.le_refl _, O2.out.size, fun j hj => by omega⟩
    · go_wp2_with fail
      go_quiet (fail)
      go_wp2_with fail
      go_ret3
      refine ⟨w.heap.size, w2.heap.size, 6 + d.size, _, rfl, (show Old w w5 from Below.trans (B := w.heap.size) O4.out (Below.mono B5.out O2.out.size)).then_drewN nq, ⟨P5.out, n5, fun j hj => row_cown Z5.out (length_nums _) j hj, (Array.getElem?_eq_some_iff.1 Z5.out).1⟩, Nat.le_refl _, O2.out.size, fun j hj => ?_⟩
      refine (B5.out.cell (p := ⟨b, 6 + d.size + j, none⟩) (Nat.lt_of_lt_of_le hblt O2.out.size)).trans ((O4.out.cell hblt).trans ((HB.out (6 + d.size + j) (by omega)).1.trans ?_))
      rw [← length_nums d]
      rw [gi_rest6]
end Go.Proofs.Ythfjkaeenpbebaa
