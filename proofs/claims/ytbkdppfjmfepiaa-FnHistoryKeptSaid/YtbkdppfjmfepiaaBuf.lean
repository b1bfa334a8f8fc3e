/- goprompt's Buffer in memory. -/
import Derived.Test.YtbkdppfjmfepiaaProg
import Derived.Test.YtbkdppfjmfepiaaBase
import Derived.Test.YtbkdppfjmfepiaaApp
import Derived.RegionTactic
import Derived.BigRegion
import Derived.Deep.RegionWith
namespace Go.Proofs.Ytbkdppfjmfepiaa
open Go.RowKit
set_option linter.unusedVariables false
set_option linter.unusedSimpArgs false
set_option linter.unnecessarySimpa false
set_option maxRecDepth 100000

/-- Blocks but p and q are kept. -/
structure Two (p q : Nat) (w w' : World) : Prop where
  os : w'.os = w.os
  tape : w'.tape = w.tape
  output : w'.output = w.output
  size : w.heap.size ≤ w'.heap.size
  block : ∀ k, k < w.heap.size → k ≠ p → k ≠ q → w'.heap[k]? = w.heap[k]?
theorem Two.refl (p q : Nat) (w : World) : Two p q w w := ⟨rfl, rfl, rfl, Nat.le_refl _, fun _ _ _ _ => rfl⟩
theorem Two.of_old {p q : Nat} {w w' : World} (h : Old w w') : Two p q w w' := ⟨Below.os h, Below.tape h, Below.output h, Below.size h, fun k hk _ _ => Below.block h k hk⟩
theorem Two.trans {p q : Nat} {u v w : World} (h : Two p q u v) (k : Two p q v w) : Two p q u w :=
  ⟨k.os.trans h.os, k.tape.trans h.tape, k.output.trans h.output, Nat.le_trans h.size k.size, fun i hi h1 h2 => (k.block i (Nat.lt_of_lt_of_le hi h.size) h1 h2).trans (h.block i hi h1 h2)⟩
theorem Two.stored {p q : Nat} {u v : World} (h : Two p q u v) (k o : Nat) (x : Value) (hk : k = p ∨ k = q) : Two p q u (v.setCell ⟨k, o, none⟩ x) :=
  ⟨h.os, h.tape, h.output, by simp [World.setCell]; exact h.size, fun i hi h1 h2 => (Below.heap_setCell v ⟨k, o, none⟩ x i (by simp; omega)).trans (h.block i hi h1 h2)⟩
theorem Old.two {p q : Nat} {u v w : World} (h : Old u v) (k : Two p q v w) (hp : u.heap.size ≤ p) (hq : u.heap.size ≤ q) : Old u w :=
  ⟨k.os.trans (Below.os h), k.tape.trans (Below.tape h), k.output.trans (Below.output h), Nat.le_trans h.size k.size, fun i hi => (k.block i (Nat.lt_of_lt_of_le hi h.size) (by omega) (by omega)).trans (Below.block h i hi)⟩

theorem bcell {w : World} {b : Nat} {C : Array Value} {t : TypeId} {fr : Nat × Nat} (h : w.heap[b]? = some (.cells C t fr)) (j : Nat) : w.cell? ⟨b, j, none⟩ = C[j]? := by
  unfold World.cell?; rw [h]; simp
theorem bfree {w : World} {b : Nat} {C : Array Value} {t : TypeId} (h : w.heap[b]? = some (.cells C t)) (j : Nat) : w.frozen? ⟨b, j, none⟩ = false := by
  unfold World.frozen?; rw [h]; simp
theorem bset {w : World} {b j : Nat} {C : Array Value} {t : TypeId} {fr : Nat × Nat} (h : w.heap[b]? = some (.cells C t fr)) (v : Value) : (w.setCell ⟨b, j, none⟩ v).heap[b]? = some (.cells (C.setIfInBounds j v) t fr) := by
  unfold World.setCell; simp [Array.getElem?_modify, h]

/-- Block bp is a Buffer whose one line, in block lb, is t; the cursor. -/
def BF (w : World) (bp lb : Nat) (t : ByteArray) (cur : Int) : Prop :=
  (∃ dv pc, w.heap[bp]? = some (.cells #[.slice (some ⟨lb, 0, none⟩) 1 1, .int .i64 0, .int .i64 cur, dv, pc] 133)) ∧ w.heap[lb]? = some (.cells #[.string t] 9) ∧ lb ≠ bp
section
variable {w w' : World} {bp lb : Nat} {t : ByteArray} {cur : Int}
theorem BF.c0 (h : BF w bp lb t cur) : w.cell? ⟨bp, 0, none⟩ = some (.slice (some ⟨lb, 0, none⟩) 1 1) := by obtain ⟨⟨_, _, h⟩, _⟩ := h; exact bcell h 0
theorem BF.c1 (h : BF w bp lb t cur) : w.cell? ⟨bp, 1, none⟩ = some (.int .i64 0) := by obtain ⟨⟨_, _, h⟩, _⟩ := h; exact bcell h 1
theorem BF.c2 (h : BF w bp lb t cur) : w.cell? ⟨bp, 2, none⟩ = some (.int .i64 cur) := by obtain ⟨⟨_, _, h⟩, _⟩ := h; exact bcell h 2
theorem BF.c3 (h : BF w bp lb t cur) : ∃ x, w.cell? ⟨bp, 3, none⟩ = some x := by obtain ⟨⟨_, _, h⟩, _⟩ := h; exact ⟨_, bcell h 3⟩
theorem BF.l0 (h : BF w bp lb t cur) : w.cell? ⟨lb, 0, none⟩ = some (.string t) := bcell h.2.1 0
theorem BF.free (h : BF w bp lb t cur) (j : Nat) : w.frozen? ⟨bp, j, none⟩ = false := by obtain ⟨⟨_, _, h⟩, _⟩ := h; exact bfree h j
theorem BF.lfree (h : BF w bp lb t cur) (j : Nat) : w.frozen? ⟨lb, j, none⟩ = false := bfree h.2.1 j
theorem BF.lt (h : BF w bp lb t cur) : bp < w.heap.size ∧ lb < w.heap.size := by obtain ⟨⟨_, _, h1⟩, h2, _⟩ := h; exact ⟨(Array.getElem?_eq_some_iff.1 h1).1, (Array.getElem?_eq_some_iff.1 h2).1⟩
theorem BF.old (h : BF w bp lb t cur) (o : Old w w') : BF w' bp lb t cur := by
  have hl := h.lt
  obtain ⟨⟨a, b, h1⟩, h2, h3⟩ := h
  exact ⟨⟨a, b, (o.heap hl.1).trans h1⟩, (o.heap hl.2).trans h2, h3⟩
theorem BF.setL (h : BF w bp lb t cur) (v : ByteArray) : BF (w.setCell ⟨lb, 0, none⟩ (.string v)) bp lb v cur := by
  obtain ⟨⟨a, b, h1⟩, h2, h3⟩ := h
  exact ⟨⟨a, b, (Below.heap_setCell w ⟨lb, 0, none⟩ _ bp (by simp; omega)).trans h1⟩, by rw [bset h2]; simp, h3⟩
theorem BF.setC (h : BF w bp lb t cur) (x : Int) : BF (w.setCell ⟨bp, 2, none⟩ (.int .i64 x)) bp lb t x := by
  obtain ⟨⟨a, b, h1⟩, h2, h3⟩ := h
  exact ⟨⟨a, b, by rw [bset h1]; simp⟩, (Below.heap_setCell w ⟨bp, 2, none⟩ _ lb (by simp; omega)).trans h2, h3⟩
theorem BF.setD (h : BF w bp lb t cur) (x : Value) : BF (w.setCell ⟨bp, 3, none⟩ x) bp lb t cur := by
  obtain ⟨⟨a, b, h1⟩, h2, h3⟩ := h
  exact ⟨⟨x, b, by rw [bset h1]; simp⟩, (Below.heap_setCell w ⟨bp, 3, none⟩ _ lb (by simp; omega)).trans h2, h3⟩
end

theorem newBuf_any (w : World) : Calls Try.prog 101 #[] w fun e w' => e = .returned (.pointer (some ⟨w.heap.size + 1, 0, none⟩)) ∧ Old w w' ∧ BF w' (w.heap.size + 1) w.heap.size ⟨#[]⟩ 0 ∧ w'.heap.size = w.heap.size + 2 := by
  go_enter Try.func101, Try.ntmps101
  go_wp2_with fail
  go_ret
  have h1 : (w.alloc (.cells #[.string ⟨#[]⟩] 9)).heap.size = w.heap.size + 1 := by simp
  have h2 := heap_alloc_new (w.alloc (.cells #[.string ⟨#[]⟩] 9)) (.cells #[.slice (some ⟨w.heap.size, 0, none⟩) 1 1, .int .i64 0, .int .i64 0, .pointer none, .int .i64 (-1)] 133)
  rw [h1] at h2
  exact ⟨rfl, (Old.alloc _ _).then_alloc _, ⟨⟨_, _, h2⟩, (heap_alloc_old _ _ (by omega)).trans (heap_alloc_new w _), by omega⟩, by simp⟩
theorem text_any (bp lb : Nat) (t : ByteArray) (cur : Int) (w : World) (h : BF w bp lb t cur) : Calls Try.prog 52 #[.pointer (some ⟨bp, 0, none⟩)] w fun e w' => e = .returned (.string t) ∧ ∃ n, w' = w.drewN n := by
  have c0 := h.c0
  have c1 := h.c1
  have l0 := h.l0
  clear h
  go_enter Try.func52, Try.ntmps52
  go_wp2_with fail
  go_quiet (fail)
  go_wp2_with fail
  go_ret
  exact ⟨rfl, nq, rfl⟩
theorem setText_any (bp lb : Nat) (t v : ByteArray) (cur : Int) (w : World) (h : BF w bp lb t cur) : Calls Try.prog 120 #[.pointer (some ⟨bp, 0, none⟩), .string v] w fun e w' => e = .returned (.tuple #[]) ∧ BF w' bp lb v cur ∧ Two bp lb w w' := by
  have H := Lib.hid h
  have c0 := h.c0
  have c1 := h.c1
  have l0 := h.l0
  have f0 := h.lfree 0
  clear h
  go_enter Try.func120, Try.ntmps120
  go_wp2_with fail
  go_region
  go_wp2_with fail
  go_end0
  exact ⟨rfl, (H.out.old (Old.drew w)).setL v, (Two.of_old (Old.drew w)).stored lb 0 _ (Or.inr rfl)⟩
theorem setCur_any (bp lb : Nat) (t : ByteArray) (cur : Int) (k : Nat) (w : World) (h : BF w bp lb t cur) : Calls Try.prog 119 #[.pointer (some ⟨bp, 0, none⟩), .int .i64 k] w fun e w' => e = .returned (.tuple #[]) ∧ BF w' bp lb t k ∧ Two bp lb w w' := by
  have H := Lib.hid h
  have c2 := h.c2
  have f2 := h.free 2
  clear h
  by_cases hk : 0 < k
  · go_enter Try.func119, Try.ntmps119
    go_wp2_with fail
    go_end0
    exact ⟨rfl, H.out.setC k, (Two.refl _ _ _).stored bp 2 _ (Or.inl rfl)⟩
  · obtain rfl : k = 0 := by omega
    go_enter Try.func119, Try.ntmps119
    go_wp2_with fail
    go_end0
    exact ⟨rfl, H.out.setC 0, (Two.refl _ _ _).stored bp 2 _ (Or.inl rfl)⟩
theorem docAt_any (s : ByteArray) (k : Int) (w : World) : Calls Try.prog 103 #[.string s, .int .i64 k] w fun e w' => e = .returned (.pointer (some ⟨w.heap.size, 0, none⟩)) ∧ Old w w' ∧ w.heap.size < w'.heap.size ∧
    w'.cell? ⟨w.heap.size, 0, none⟩ = some (.string s) ∧ w'.cell? ⟨w.heap.size, 1, none⟩ = some (.int .i64 k) := by
  go_enter Try.func103, Try.ntmps103
  go_wp2_with fail
  go_ret
  have hz := heap_alloc_new w (.cells #[.string s, .int .i64 k] 122)
  exact ⟨rfl, Old.alloc _ _, by simp, (bcell hz 0).trans rfl, (bcell hz 1).trans rfl⟩
theorem setDoc_any (bp lb dp : Nat) (t v : ByteArray) (cur : Int) (k : Nat) (w : World) (h : BF w bp lb t cur) (d0 : w.cell? ⟨dp, 0, none⟩ = some (.string v)) (d1 : w.cell? ⟨dp, 1, none⟩ = some (.int .i64 k)) (hd1 : dp ≠ bp) (hd2 : dp ≠ lb) :
    Calls Try.prog 102 #[.pointer (some ⟨bp, 0, none⟩), .pointer (some ⟨dp, 0, none⟩)] w fun e w' => e = .returned (.tuple #[]) ∧ BF w' bp lb v k ∧ Two bp lb w w' := by
  have H := Lib.hid h
  obtain ⟨x, c3⟩ := h.c3
  have f3 := h.free 3
  have hdl := World.block_lt_of_cell? w _ d0
  have H2 := Lib.hid (h.setD (.pointer (some ⟨dp, 0, none⟩)))
  have T2 : Hid (Two bp lb w (w.setCell ⟨bp, 3, none⟩ (.pointer (some ⟨dp, 0, none⟩)))) := (Two.refl _ _ _).stored bp 3 _ (Or.inl rfl)
  have fk : ∀ w' j, Two bp lb w w' → w'.cell? ⟨dp, j, none⟩ = w.cell? ⟨dp, j, none⟩ := fun w' j ht => World.cell?_of_block (w := w) (a := ⟨dp, j, none⟩) (ht.block dp hdl hd1 hd2)
  have e1 : (w.setCell ⟨bp, 3, none⟩ (.pointer (some ⟨dp, 0, none⟩))).cell? ⟨dp, 1, none⟩ = some (.int .i64 k) := (fk _ 1 T2.out).trans d1
  have FK := Lib.hid fk
  have D0 := Lib.hid d0
  clear h fk d0
  go_enter Try.func102, Try.ntmps102
  go_wp2_with (first
    | (go_at_call 119; refine (setCur_any bp lb t cur k _ H2.out).mono ?_; rintro e w2 ⟨rfl, h2, t2⟩; have H3 := Lib.hid h2; have T3 := Lib.hid (T2.out.trans t2); have e0 := (FK.out _ 0 T3.out).trans D0.out; clear h2 t2)
    | (go_at_call 120; refine (setText_any bp lb t v k _ H3.out).mono ?_; rintro e w3 ⟨rfl, h3, t3⟩; have H4 := Lib.hid h3; have T4 := Lib.hid (T3.out.trans t3); clear h3 t3))
  go_end0
  exact ⟨rfl, H4.out, T4.out⟩
theorem bufAt_any (v : ByteArray) (k : Nat) (w : World) : Calls Try.prog 48 #[.string v, .int .i64 k] w fun e w' => ∃ bp lb, e = .returned (.pointer (some ⟨bp, 0, none⟩)) ∧ Old w w' ∧ w.heap.size ≤ bp ∧ w.heap.size ≤ lb ∧ BF w' bp lb v k := by
  go_enter Try.func48, Try.ntmps48
  go_wp2_with (first
    | (go_at_call 101; refine (newBuf_any w).mono ?_; rintro e w1 ⟨rfl, o1, b1, s1⟩; have O1 := Lib.hid o1; have B1 := Lib.hid b1; have S1 := Lib.hid s1; clear o1 b1 s1)
    | (go_at_call 103; refine (docAt_any v k w1).mono ?_; rintro e w2 ⟨rfl, o2, l2, d0, d1⟩; have O2 := Lib.hid o2; have D0 := Lib.hid d0; have D1 := Lib.hid d1; clear o2 d0 d1)
    | (go_at_call 102; refine (setDoc_any (w.heap.size + 1) w.heap.size w1.heap.size ⟨#[]⟩ v 0 k w2 (B1.out.old O2.out) D0.out D1.out (by have := S1.out; omega) (by have := S1.out; omega)).mono ?_; rintro e w3 ⟨rfl, h3, t3⟩; have H3 := Lib.hid h3; have T3 := Lib.hid t3; clear h3 t3))
  go_ret
  exact ⟨_, _, rfl, (O1.out.trans O2.out).two T3.out (by omega) (Nat.le_refl _), by omega, Nat.le_refl _, H3.out⟩

theorem run_convert_runes_empty (W : World) (b c : Nat) : (convert 134 9 (.slice (some ⟨b, 0, none⟩) 0 c)).run Try.prog W = .ok (.string ⟨#[]⟩) W := by
  have h : (convert 134 9 (.slice (some ⟨b, 0, none⟩) 0 c)).run Try.prog W = .ok (.string ⟨#[]⟩) W := by kernel_rfl
  exact h
set_option maxHeartbeats 1000000 in
theorem ins_any (bp lb : Nat) (v : ByteArray) (w : World) (h : BF w bp lb ⟨#[]⟩ 0) (hs : v.size ≤ 70368744177664) (ha : asc v) (hv : v.size ≤ 2147483647) :
    Calls Try.prog 104 #[.pointer (some ⟨bp, 0, none⟩), .string v, .bool false, .bool true] w fun e w' => e = .returned (.tuple #[]) ∧ BF w' bp lb v v.size ∧ Two bp lb w w' := by
  have H := Lib.hid h
  have c2 := h.c2
  have HA := Lib.hid ha
  clear h ha
  have hlt := H.out.lt.1
  have hr0 : (runes ⟨#[]⟩).length = 0 := by rw [runes_asc (fun k h => absurd h (by simp [ByteArray.size])), length_nums]; rfl
  have ea : (⟨#[]⟩ : ByteArray) ++ v = v := ByteArray.empty_append
  have eb : v ++ (⟨#[]⟩ : ByteArray) = v := ByteArray.append_empty
  have mk : Hid True := trivial
  have hcv : ∀ (W : World) (b c : Nat), (convert 134 9 (.slice (some ⟨b, 0, none⟩) 0 c)).run Try.prog W = .ok (.string ⟨#[]⟩) W := fun W b c => by
    have := run_convert_runes_empty W b c
    exact this
  go_enter Try.func104, Try.ntmps104
  go_wp2_with (first
    | (go_at_call 52; refine (text_any bp lb _ _ w H.out).mono ?_; rintro e w1 ⟨rfl, n, rfl⟩)
    | (refine wpList_runes rfl 9 134 21 _ ⟨#[]⟩ rfl rfl (by kernel_rfl) (by kernel_rfl) (by kernel_rfl) (by decide) ?_; have q := mk; clear mk q; intro vv w2 o2 r2 hv2 own2; have e2 := (o2.cell (o := 2) hlt).trans c2; have O2 := Lib.hid o2; have H2 := Lib.hid (H.out.old ((Old.drewN w n).trans o2)); clear o2 r2 own2; obtain ⟨vb, vc, rfl⟩ := hv2; rw [hr0]))
  go_region_with (go_at_call 120; refine (setText_any bp lb _ v 0 w2.drew (H2.out.old (Old.drew w2))).mono ?_; rintro e w3 ⟨rfl, h3, t3⟩; have H3 := Lib.hid h3; have T3 := Lib.hid t3; clear h3 t3)
  have g2 := H3.out.c2
  have h2 := H3.out.free 2
  have hv2 : (runes v).length = v.size := by rw [runes_asc HA.out, length_nums]
  have HV2 := Lib.hid hv2
  clear hv2
  go_wp2_with (refine wpList_runes rfl 9 134 21 _ v rfl rfl (by kernel_rfl) (by kernel_rfl) (by kernel_rfl) hs ?_; intro vv w4 o4 r4 hv4 own4; have O4 := Lib.hid o4; have g4 := (o4.cell (o := 2) H3.out.lt.1).trans g2; have f4 := (o4.frozen (o := 2) H3.out.lt.1).trans h2; clear o4 r4 own4; obtain ⟨vb4, vc4, rfl⟩ := hv4; rw [HV2.out])
  go_end0
  exact ⟨rfl, (H3.out.old O4.out).setC _, (((Two.of_old (((Old.drewN w n).trans O2.out).trans (Old.drew w2))).trans T3.out).trans (Two.of_old O4.out)).stored bp 2 _ (Or.inl rfl)⟩
end Go.Proofs.Ytbkdppfjmfepiaa
