/- History: an older text, a newer one. -/
import Derived.Test.YtbkdppfjmfepiaaTS
import Derived.Deep.RegionHeld
namespace Go.Proofs.Ytbkdppfjmfepiaa
open Go.RowKit
set_option linter.unusedVariables false
set_option linter.unusedSimpArgs false
set_option linter.unnecessarySimpa false
set_option maxRecDepth 100000

section
variable {w : World} {hp kb base hb kc hc : Nat} {Hs Ks : List ByteArray} {at_ : Int}
theorem HB.c1 (h : HB w hp kb base (.slice (some ⟨hb, 0, none⟩) Hs.length hc) kc Hs Ks at_) : w.cell? ⟨hp, 1, none⟩ = some (.slice (some ⟨kb, 0, none⟩) Ks.length kc) := (bcell h.1 1).trans rfl
theorem HB.c2 (h : HB w hp kb base (.slice (some ⟨hb, 0, none⟩) Hs.length hc) kc Hs Ks at_) : w.cell? ⟨hp, 2, none⟩ = some (.int .i64 at_) := (bcell h.1 2).trans rfl
theorem HB.free (h : HB w hp kb base (.slice (some ⟨hb, 0, none⟩) Hs.length hc) kc Hs Ks at_) (j : Nat) : w.frozen? ⟨hp, j, none⟩ = false := bfree h.1 j
theorem HB.kc_ (h : HB w hp kb base (.slice (some ⟨hb, 0, none⟩) Hs.length hc) kc Hs Ks at_) (j : Nat) (hj : j < Ks.length) : w.cell? ⟨kb, j, none⟩ = some (.string (gs Ks j)) := by
  rw [own_cell h.2.2.1 j hj, gv_lt (by simpa using hj)]; simp [gs_lt hj]
theorem HB.kfree (h : HB w hp kb base (.slice (some ⟨hb, 0, none⟩) Hs.length hc) kc Hs Ks at_) (j : Nat) : w.frozen? ⟨kb, j, none⟩ = false := h.2.2.1.frozenAt j
theorem HB.setK (h : HB w hp kb base (.slice (some ⟨hb, 0, none⟩) Hs.length hc) kc Hs Ks at_) (j : Nat) (s : ByteArray) (hj : j < Ks.length) : HB (w.setCell ⟨kb, j, none⟩ (.string s)) hp kb base (.slice (some ⟨hb, 0, none⟩) Hs.length hc) kc Hs (Ks.set j s) at_ := by
  obtain ⟨a1, a2, a3, a4, a5, a6, a7⟩ := h
  have hne : hb ≠ kb := by simpa [Value.ownBlock] using a6
  refine ⟨?_, own_keep a2 (fun g hg _ => ?_), ?_, a4, a5, a6, a7⟩
  · rw [List.length_set]; exact (Below.heap_setCell w ⟨kb, j, none⟩ _ hp (by simpa using a4)).trans a1
  · obtain rfl : hb = g := by simpa [Value.ownBlock] using hg
    exact Below.heap_setCell w ⟨kb, j, none⟩ _ hb (by simpa using hne)
  · have st := (a3.stored j (.string s)).1
    rw [List.length_set, List.map_set]; exact st
theorem HB.setAt (h : HB w hp kb base (.slice (some ⟨hb, 0, none⟩) Hs.length hc) kc Hs Ks at_) (x : Int) : HB (w.setCell ⟨hp, 2, none⟩ (.int .i64 x)) hp kb base (.slice (some ⟨hb, 0, none⟩) Hs.length hc) kc Hs Ks x := by
  obtain ⟨a1, a2, a3, a4, a5, a6, a7⟩ := h
  have hne : hb ≠ hp := by simpa [Value.ownBlock] using a5
  refine ⟨by rw [bset a1]; simp, own_keep a2 (fun g hg _ => ?_), own_keep a3 (fun g hg _ => ?_), a4, a5, a6, a7⟩
  · obtain rfl : hb = g := by simpa [Value.ownBlock] using hg
    exact Below.heap_setCell w ⟨hp, 2, none⟩ _ hb (by simpa using hne)
  · obtain rfl : kb = g := by simpa [Value.ownBlock] using hg
    exact Below.heap_setCell w ⟨hp, 2, none⟩ _ kb (by simpa using Ne.symm a4)
theorem HB.hk (h : HB w hp kb base (.slice (some ⟨hb, 0, none⟩) Hs.length hc) kc Hs Ks at_) : hp ≠ kb := h.2.2.2.1
end

theorem Two.far {p q a b : Nat} {u v w : World} (h : Two p q u v) (k : Two a b v w) (ha : u.heap.size ≤ a) (hb : u.heap.size ≤ b) : Two p q u w :=
  ⟨k.os.trans h.os, k.tape.trans h.tape, k.output.trans h.output, Nat.le_trans h.size k.size, fun i hi h1 h2 => (k.block i (Nat.lt_of_lt_of_le hi h.size) (by omega) (by omega)).trans (h.block i hi h1 h2)⟩

theorem older_end (hp kb base hb kc hc bp : Nat) (Hs Ks : List ByteArray) (w : World) (h : HB w hp kb base (.slice (some ⟨hb, 0, none⟩) Hs.length hc) kc Hs Ks 0) (hk : Ks.length ≤ 1000) :
    Calls Try.prog 51 #[.pointer (some ⟨hp, 0, none⟩), .pointer (some ⟨bp, 0, none⟩)] w fun e w' => e = .returned (.tuple #[.pointer (some ⟨bp, 0, none⟩), .bool false]) ∧ Old w w' := by
  have c1 := h.c1
  have c2 := h.c2
  clear h
  by_cases h1 : Ks.length = 1
  · rw [h1] at c1
    go_enter Try.func51, Try.ntmps51
    go_wp2_with fail
    go_ret2
    exact ⟨rfl, Old.refl _⟩
  · have h2 : ((Ks.length : Int) = 1) = False := by simp; omega
    have h3 : ((Ks.length : Int) == 1) = false := by simp; omega
    go_enter Try.func51, Try.ntmps51
    go_wp2_with fail
    go_ret2
    exact ⟨rfl, Old.refl _⟩

set_option maxHeartbeats 1000000 in
theorem older_any (hp kb base hb kc hc bp lb : Nat) (Hs Ks : List ByteArray) (b : Nat) (s : ByteArray) (cur : Int) (w : World) (h : HB w hp kb base (.slice (some ⟨hb, 0, none⟩) Hs.length hc) kc Hs Ks (b : Int)) (hbuf : BF w bp lb s cur)
    (hb0 : 0 < b) (hbl : b < Ks.length) (hk : Ks.length ≤ 1000) (hf : fine (gs Ks (b - 1))) :
    Calls Try.prog 51 #[.pointer (some ⟨hp, 0, none⟩), .pointer (some ⟨bp, 0, none⟩)] w fun e w' => ∃ nb nl, e = .returned (.tuple #[.pointer (some ⟨nb, 0, none⟩), .bool true]) ∧
      HB w' hp kb base (.slice (some ⟨hb, 0, none⟩) Hs.length hc) kc Hs (Ks.set b s) ((b - 1 : Nat) : Int) ∧ BF w' nb nl (gs Ks (b - 1)) (gs Ks (b - 1)).size ∧ Two hp kb w w' := by
  have H := Lib.hid h
  have B := Lib.hid hbuf
  have F := Lib.hid hf
  have c1 := h.c1
  have c2 := h.c2
  have k1 := h.kc_ b hbl
  have k2 := h.kfree b
  have hne := h.hk
  have e1 : ((Ks.length : Int) == 1) = false := by simp; omega
  have e2 : ((b : Int) == 0) = false := by simp; omega
  have i0 : (0 : Int) ≤ b := by omega
  have i1 : (b : Int) < Ks.length := by omega
  have x1 : w.drew.cell? ⟨hp, 1, none⟩ = some (.slice (some ⟨kb, 0, none⟩) Ks.length kc) := c1
  have x2 : w.drew.cell? ⟨hp, 2, none⟩ = some (.int .i64 b) := c2
  have z1 : ∀ n, (w.drewN n).cell? ⟨hp, 1, none⟩ = some (.slice (some ⟨kb, 0, none⟩) Ks.length kc) := fun n => c1
  have z2 : ∀ n, (w.drewN n).cell? ⟨hp, 2, none⟩ = some (.int .i64 b) := fun n => c2
  have y1 : ∀ n, ((w.drewN n).setCell ⟨kb, b, none⟩ (.string s)).cell? ⟨hp, 1, none⟩ = some (.slice (some ⟨kb, 0, none⟩) Ks.length kc) := fun n => (scell _ (Or.inl hne)).trans c1
  have y2 : ∀ n, ((w.drewN n).setCell ⟨kb, b, none⟩ (.string s)).cell? ⟨hp, 2, none⟩ = some (.int .i64 b) := fun n => (scell _ (Or.inl hne)).trans c2
  clear h hbuf hf
  go_enter Try.func51, Try.ntmps51
  go_wp2_with fail
  have k3 : ∀ n, (w.drewN n).cell? ⟨kb, b, none⟩ = some (.string (gs Ks b)) := fun n => k1
  have k4 : ∀ n, (w.drewN n).frozen? ⟨kb, b, none⟩ = false := fun n => k2
  go_region_held (fun w' => w'.cell? ⟨hp, 1, none⟩ = some (.slice (some ⟨kb, 0, none⟩) Ks.length kc) ∧ w'.cell? ⟨hp, 2, none⟩ = some (.int .i64 (b : Int)))
    (first | with_reducible exact ⟨x1, x2⟩ | with_reducible exact ⟨z1 _, z2 _⟩ | with_reducible exact ⟨y1 _, y2 _⟩)
    ((go_at_call 52; refine (text_any bp lb s cur _ (B.out.old (Old.drew w))).mono ?_; rintro e w1 ⟨rfl, n, rfl⟩))
  have S1 := Lib.hid ((H.out.old (Old.drewN w (1 + n))).setK b s hbl)
  have T1 : Hid (Two hp kb w ((w.drewN (1 + n)).setCell ⟨kb, b, none⟩ (.string s))) := (Two.of_old (Old.drewN w (1 + n))).stored kb b _ (Or.inr rfl)
  clear x1 x2 z1 z2 y1 y2 k1 k2 k3 k4 c1 c2 B H
  generalize (w.drewN (1 + n)).setCell ⟨kb, b, none⟩ (.string s) = w2 at S1 T1 ⊢
  have c2 := S1.out.c2
  have f2 := S1.out.free 2
  have e3 : IntKind.i64.wrap ((b : Int) - 1) = (b : Int) - 1 := IntWalk.i64_in _ (by omega)
  have S2 := Lib.hid (S1.out.setAt ((b : Int) - 1))
  have T2 := Lib.hid (T1.out.stored hp 2 (.int .i64 ((b : Int) - 1)) (Or.inl rfl))
  go_wp2_with fail
  clear c2 f2 e3 S1 T1
  have e4 : (b : Int) - 1 = ((b - 1 : Nat) : Int) := by omega
  rw [e4] at S2 T2 ⊢
  clear e4
  generalize w2.setCell ⟨hp, 2, none⟩ (.int .i64 ((b - 1 : Nat) : Int)) = w3 at S2 T2 ⊢
  have L3 := Lib.hid S2.out.lt
  have T2L := Lib.hid T2.out.size
  refine (newBuf_any w3).mono ?_
  rintro e w4 ⟨rfl, o4, b4, s4⟩
  have S4 := Lib.hid (S2.out.old o4)
  have T4 := Lib.hid (T2.out.trans (Two.of_old o4))
  have B4 := Lib.hid b4
  have O4 : Hid (Old w3 w4 ∧ w4.heap.size = w3.heap.size + 2) := ⟨o4, s4⟩
  have c1 := S4.out.c1
  have c2 := S4.out.c2
  have hgk : gs (Ks.set b s) (b - 1) = gs Ks (b - 1) := by unfold gs; rw [List.getD_eq_getElem?_getD, List.getElem?_set_ne (by omega), List.getD_eq_getElem?_getD]
  have k1 := S4.out.kc_ (b - 1) (by rw [List.length_set]; omega)
  rw [hgk] at k1
  clear hgk
  have hl3 : ((Ks.set b s).length : Int) = Ks.length := by simp
  rw [hl3] at *
  have i3 : (0 : Int) ≤ ((b - 1 : Nat) : Int) := by omega
  have i4 : ((b - 1 : Nat) : Int) < Ks.length := by omega
  clear S2 T2 o4 b4 s4 i0 i1 e1 e2
  go_wp2_with fail
  go_still_tail 11, (by kernel_rfl)
  change wpList _ _ _ _ _ w4.drew
  generalize hw5 : w4.drew = w5
  have S5 := Lib.hid (S4.out.old (Old.drew w4))
  have T5 := Lib.hid (T4.out.trans (Two.of_old (Old.drew w4)))
  have B5 := Lib.hid (B4.out.old (Old.drew w4))
  have hs3 : w4.heap.size = w3.heap.size + 2 := O4.out.2
  rw [hw5] at S5 T5 B5
  clear hw5 c1 c2 k1 S4 T4 B4
  go_wp2_with (go_at_call 104; refine (ins_any (w3.heap.size + 1) w3.heap.size (gs Ks (b - 1)) w5 B5.out (by have := F.out.2; omega) F.out.1 F.out.2).mono ?_; rintro e w6 ⟨rfl, b6, t6⟩; have B6 := Lib.hid b6; have T6 := Lib.hid t6; clear b6 t6)
  go_ret2
  have l3 := L3.out
  have l5 := S5.out.lt
  refine ⟨_, _, rfl, S5.out.keep (T6.out.block _ l5.1 (by omega) (by omega)) (T6.out.block _ l5.2.1 (by omega) (by omega)) (T6.out.block _ l5.2.2 (by omega) (by omega)), B6.out, ?_⟩
  exact T5.out.far T6.out (by have := T2L.out; omega) (by have := T2L.out; omega)

theorem newer_end (hp kb base hb kc hc bp : Nat) (Hs Ks : List ByteArray) (b : Nat) (w : World) (h : HB w hp kb base (.slice (some ⟨hb, 0, none⟩) Hs.length hc) kc Hs Ks (b : Int)) (hb1 : b + 1 = Ks.length) (hk : Ks.length ≤ 1000) :
    Calls Try.prog 53 #[.pointer (some ⟨hp, 0, none⟩), .pointer (some ⟨bp, 0, none⟩)] w fun e w' => e = .returned (.tuple #[.pointer (some ⟨bp, 0, none⟩), .bool false]) ∧ Old w w' := by
  have c1 := h.c1
  have c2 := h.c2
  rw [← hb1] at c1 hk
  clear h hb1
  have e3 : IntKind.i64.wrap (((b + 1 : Nat) : Int) - 1) = (b : Int) := by rw [IntWalk.i64_in _ (by omega)]; omega
  go_enter Try.func53, Try.ntmps53
  go_wp2_with fail
  go_quiet (fail)
  go_wp2_with fail
  go_ret2
  exact ⟨rfl, Old.drewN w _⟩

set_option maxHeartbeats 1000000 in
theorem newer_any (hp kb base hb kc hc bp lb : Nat) (Hs Ks : List ByteArray) (b : Nat) (s : ByteArray) (cur : Int) (w : World) (h : HB w hp kb base (.slice (some ⟨hb, 0, none⟩) Hs.length hc) kc Hs Ks (b : Int)) (hbuf : BF w bp lb s cur)
    (hb0 : b + 1 < Ks.length) (hk : Ks.length ≤ 1000) (hf : fine (gs Ks (b + 1))) :
    Calls Try.prog 53 #[.pointer (some ⟨hp, 0, none⟩), .pointer (some ⟨bp, 0, none⟩)] w fun e w' => ∃ nb nl, e = .returned (.tuple #[.pointer (some ⟨nb, 0, none⟩), .bool true]) ∧
      HB w' hp kb base (.slice (some ⟨hb, 0, none⟩) Hs.length hc) kc Hs (Ks.set b s) ((b + 1 : Nat) : Int) ∧ BF w' nb nl (gs Ks (b + 1)) (gs Ks (b + 1)).size ∧ Two hp kb w w' := by
  have hbl : b < Ks.length := by omega
  have H0 := Lib.hid h
  have B0 := Lib.hid hbuf
  have F := Lib.hid hf
  have c1 := h.c1
  have c2 := h.c2
  have e0 : IntKind.i64.wrap ((Ks.length : Int) - 1) = (Ks.length : Int) - 1 := IntWalk.i64_in _ (by omega)
  have e5 : decide ((b : Int) ≥ (Ks.length : Int) - 1) = false := by simp; omega
  have hsp : ∀ n, Hid (Two hp kb w (w.drewN n)) := fun n => Two.of_old (Old.drewN w n)
  clear h hbuf hf
  go_enter Try.func53, Try.ntmps53
  go_wp2_with fail
  go_quiet (fail)
  go_wp2_with fail
  have T0 := hsp nq
  have H := Lib.hid (H0.out.old (Old.drewN w nq))
  have B := Lib.hid (B0.out.old (Old.drewN w nq))
  clear c1 c2 e0 e5 hsp H0 B0
  generalize w.drewN nq = u at T0 H B ⊢
  have c1 := H.out.c1
  have c2 := H.out.c2
  have k1 := H.out.kc_ b hbl
  have k2 := H.out.kfree b
  have hne := H.out.hk
  have i0 : (0 : Int) ≤ b := by omega
  have i1 : (b : Int) < Ks.length := by omega
  have x1 : u.drew.cell? ⟨hp, 1, none⟩ = some (.slice (some ⟨kb, 0, none⟩) Ks.length kc) := c1
  have x2 : u.drew.cell? ⟨hp, 2, none⟩ = some (.int .i64 b) := c2
  have z1 : ∀ n, (u.drewN n).cell? ⟨hp, 1, none⟩ = some (.slice (some ⟨kb, 0, none⟩) Ks.length kc) := fun n => c1
  have z2 : ∀ n, (u.drewN n).cell? ⟨hp, 2, none⟩ = some (.int .i64 b) := fun n => c2
  have y1 : ∀ n, ((u.drewN n).setCell ⟨kb, b, none⟩ (.string s)).cell? ⟨hp, 1, none⟩ = some (.slice (some ⟨kb, 0, none⟩) Ks.length kc) := fun n => (scell _ (Or.inl hne)).trans c1
  have y2 : ∀ n, ((u.drewN n).setCell ⟨kb, b, none⟩ (.string s)).cell? ⟨hp, 2, none⟩ = some (.int .i64 b) := fun n => (scell _ (Or.inl hne)).trans c2
  have k3 : ∀ n, (u.drewN n).cell? ⟨kb, b, none⟩ = some (.string (gs Ks b)) := fun n => k1
  have k4 : ∀ n, (u.drewN n).frozen? ⟨kb, b, none⟩ = false := fun n => k2
  go_region_held (fun w' => w'.cell? ⟨hp, 1, none⟩ = some (.slice (some ⟨kb, 0, none⟩) Ks.length kc) ∧ w'.cell? ⟨hp, 2, none⟩ = some (.int .i64 (b : Int)))
    (first | with_reducible exact ⟨x1, x2⟩ | with_reducible exact ⟨z1 _, z2 _⟩ | with_reducible exact ⟨y1 _, y2 _⟩)
    ((go_at_call 52; refine (text_any bp lb s cur _ (B.out.old (Old.drew u))).mono ?_; rintro e w1 ⟨rfl, n, rfl⟩))
  have S1 := Lib.hid ((H.out.old (Old.drewN u (1 + n))).setK b s hbl)
  have T1 : Hid (Two hp kb w ((u.drewN (1 + n)).setCell ⟨kb, b, none⟩ (.string s))) := (T0.out.trans (Two.of_old (Old.drewN u (1 + n)))).stored kb b _ (Or.inr rfl)
  clear x1 x2 z1 z2 y1 y2 k1 k2 k3 k4 c1 c2 B H
  generalize (u.drewN (1 + n)).setCell ⟨kb, b, none⟩ (.string s) = w2 at S1 T1 ⊢
  have c2 := S1.out.c2
  have f2 := S1.out.free 2
  have e3 : IntKind.i64.wrap ((b : Int) + 1) = (b : Int) + 1 := IntWalk.i64_in _ (by omega)
  have S2 := Lib.hid (S1.out.setAt ((b : Int) + 1))
  have T2 := Lib.hid (T1.out.stored hp 2 (.int .i64 ((b : Int) + 1)) (Or.inl rfl))
  go_wp2_with fail
  clear c2 f2 e3 S1 T1
  have e4 : (b : Int) + 1 = ((b + 1 : Nat) : Int) := by omega
  obtain ⟨d, hd⟩ : ∃ d, d = b + 1 := ⟨_, rfl⟩
  rw [e4, ← hd] at S2 T2
  rw [e4]
  simp only [← hd] at F ⊢
  have hd1 : b < d := by omega
  have hd2 : d < Ks.length := by omega
  have HD := Lib.hid hd
  clear e4 hd
  generalize w2.setCell ⟨hp, 2, none⟩ (.int .i64 (d : Int)) = w3 at S2 T2 ⊢
  have L3 := Lib.hid S2.out.lt
  have T2L := Lib.hid T2.out.size
  refine (newBuf_any w3).mono ?_
  rintro e w4 ⟨rfl, o4, b4, s4⟩
  have S4 := Lib.hid (S2.out.old o4)
  have T4 := Lib.hid (T2.out.trans (Two.of_old o4))
  have B4 := Lib.hid b4
  have O4 : Hid (Old w3 w4 ∧ w4.heap.size = w3.heap.size + 2) := ⟨o4, s4⟩
  have c1 := S4.out.c1
  have c2 := S4.out.c2
  have hgk : gs (Ks.set b s) d = gs Ks d := by unfold gs; rw [List.getD_eq_getElem?_getD, List.getElem?_set_ne (by omega), List.getD_eq_getElem?_getD]
  have k1 := S4.out.kc_ d (by rw [List.length_set]; omega)
  rw [hgk] at k1
  clear hgk
  have hl3 : ((Ks.set b s).length : Int) = Ks.length := by simp
  rw [hl3] at *
  have i3 : (0 : Int) ≤ (d : Int) := by omega
  have i4 : (d : Int) < Ks.length := by omega
  clear S2 T2 o4 b4 s4 i0 i1
  go_wp2_with fail
  go_still_tail 11, (by kernel_rfl)
  change wpList _ _ _ _ _ w4.drew
  generalize hw5 : w4.drew = w5
  have S5 := Lib.hid (S4.out.old (Old.drew w4))
  have T5 := Lib.hid (T4.out.trans (Two.of_old (Old.drew w4)))
  have B5 := Lib.hid (B4.out.old (Old.drew w4))
  have hs3 : w4.heap.size = w3.heap.size + 2 := O4.out.2
  rw [hw5] at S5 T5 B5
  clear hw5 c1 c2 k1 S4 T4 B4
  go_wp2_with (go_at_call 104; refine (ins_any (w3.heap.size + 1) w3.heap.size (gs Ks d) w5 B5.out (by have := F.out.2; omega) F.out.1 F.out.2).mono ?_; rintro e w6 ⟨rfl, b6, t6⟩; have B6 := Lib.hid b6; have T6 := Lib.hid t6; clear b6 t6)
  go_ret2
  have l3 := L3.out
  rw [← HD.out]
  have l5 := S5.out.lt
  refine ⟨_, _, rfl, S5.out.keep (T6.out.block _ l5.1 (by omega) (by omega)) (T6.out.block _ l5.2.1 (by omega) (by omega)) (T6.out.block _ l5.2.2 (by omega) (by omega)), B6.out, ?_⟩
  exact T5.out.far T6.out (by have := T2L.out; omega) (by have := T2L.out; omega)
end Go.Proofs.Ytbkdppfjmfepiaa
