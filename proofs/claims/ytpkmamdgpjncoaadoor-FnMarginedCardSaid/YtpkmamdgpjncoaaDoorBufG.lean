/- bytes.Buffer in a struct's field: Len, tryGrowByReslice, grow, Write, with a frame that tells each other block apart. -/
import Derived.Test.YtpkmamdgpjncoaaDoorProg
import Derived.Test.YtpkmamdgpjncoaaDoorFr
import Derived.Test.YtpkmamdgpjncoaaDoorLayGS
import Derived.Shelf.Bytes.GrowSlice
import Derived.Lib.Buffer
import Derived.Lib.BufferMore
import Derived.Lib.BufferGrow
import Derived.Laws.IdiomCopy
import Derived.RegionTactic
import Derived.Deep.RegionWith
import Derived.BigRegion
namespace Go.Proofs.YtpkmamdgpjncoaaDoor
open Go.RowKit
set_option linter.unusedVariables false
set_option linter.unusedSimpArgs false
set_option linter.unnecessarySimpa false
set_option maxRecDepth 100000

theorem BB.shape {w : World} {b o : Nat} {T : TypeId} {K : Value → Int → Array Value} {B : Nat} {v : Value} {l : List UInt8} (h : BB w b o T K B v l) : ∃ ao cap, v = .slice ao l.length cap ∧ l.length ≤ cap ∧ cap ≤ maxLen := by
  rcases own_two h.own with ⟨h1, h2, h3⟩ | ⟨g, cap, cur, hv, h1, h2, h3, h4, h5, h6⟩
  · exact ⟨none, 0, by rw [h1, h3], by omega, by unfold maxLen; omega⟩
  · exact ⟨_, cap, hv, h3, h4⟩
theorem ln_any (b o : Nat) (ao : Option Addr) (n cap : Nat) (w : World) (c0 : w.cell? ⟨b, o, none⟩ = some (.slice ao n cap)) (c1 : w.cell? ⟨b, o + 1, none⟩ = some (.int .i64 0)) (hn : n ≤ cap) (hm : cap ≤ maxLen) :
    Calls Tryd.prog 72 #[.pointer (some ⟨b, o, none⟩)] w fun e w' => e = .returned (.int .i64 n) ∧ Old w w' ∧ w'.heap.size = w.heap.size := by
  unfold maxLen at hm
  go_enter Tryd.func72, Tryd.ntmps72
  go_wp2_with fail
  go_quiet (fail)
  go_wp2_with fail
  go_ret
  exact ⟨rfl, Old.drewN _ _, rfl⟩
theorem tgr_any (b o : Nat) (ao : Option Addr) (l cap n : Nat) (w : World) (c0 : w.cell? ⟨b, o, none⟩ = some (.slice ao l cap)) (f0 : w.frozen? ⟨b, o, none⟩ = false) (hlc : l ≤ cap) (hcap : cap ≤ maxLen) (hn : n ≤ cap - l) :
    Calls Tryd.prog 68 #[.pointer (some ⟨b, o, none⟩), .int .i64 n] w fun e w' => e = .returned (.tuple #[.int .i64 l, .bool true]) ∧ w' = w.setCell ⟨b, o, none⟩ (.slice ao (l + n) cap) := by
  unfold maxLen at hcap
  go_enter Tryd.func68, Tryd.ntmps68
  go_wp2_with fail
  go_ret2
  exact ⟨rfl, rfl⟩
theorem tgn_any (b o : Nat) (ao : Option Addr) (l cap n : Nat) (w : World) (c0 : w.cell? ⟨b, o, none⟩ = some (.slice ao l cap)) (hlc : l ≤ cap) (hcap : cap ≤ maxLen) (hn : cap - l < n) :
    Calls Tryd.prog 68 #[.pointer (some ⟨b, o, none⟩), .int .i64 n] w fun e w' => e = .returned (.tuple #[.int .i64 0, .bool false]) ∧ w' = w := by
  unfold maxLen at hcap
  go_enter Tryd.func68, Tryd.ntmps68
  go_wp2_with fail
  go_ret2
  exact ⟨rfl, rfl⟩
/-- What a buffer is when n more bytes have room: its row is that of block g. -/
def Room (w w' : World) (b : Nat) (T : TypeId) (K : Value → Int → Array Value) (l : List UInt8) (n : Nat) : Prop :=
  ∃ g cap cells lr, w'.heap[b]? = some (.cells (K (.slice (some ⟨g, 0, none⟩) (l.length + n) cap) lr) T) ∧ w'.heap[g]? = some (.cells cells 5) ∧ cells.size = cap ∧ cells.toList.take l.length = byV l ∧ l.length + n ≤ cap ∧ cap ≤ maxLen ∧ w.heap.size ≤ g ∧ Fr [some b] w w'
theorem room_small {w w1 : World} {b o : Nat} {T : TypeId} {K : Value → Int → Array Value} {B : Nat} (h : BB w b o T K B (.slice none 0 0) []) (O : Old w w1) {n : Nat} {M : Array Value} (hM : M.size = 64) (h64 : n ≤ 64) :
    Room w ((w1.alloc (.cells M 5)).setCell ⟨b, o, none⟩ (.slice (some ⟨w1.heap.size, 0, none⟩) n 64)) b T K [] n := by
  have hne : w1.heap.size ≠ b := by have := h.lt; have := O.size; omega
  obtain ⟨lr, h2⟩ := (h.old (O.then_alloc (.cells M 5))).cells
  have e1 := fset (j := o) h2 (.slice (some ⟨w1.heap.size, 0, none⟩) n 64)
  rw [h.ctx.s0] at e1
  refine ⟨w1.heap.size, 64, M, lr, by simpa using e1, ?_, hM, by simp [byV], by simpa using h64, by unfold maxLen; omega, O.size, (Fr.of_old (O.then_alloc _)).then_set b _ _ (by simp)⟩
  rw [Below.heap_setCell _ _ _ _ hne]
  exact heap_alloc_new w1 _
set_option maxHeartbeats 4000000 in
theorem grs_any {w : World} {b o : Nat} {T : TypeId} {K : Value → Int → Array Value} {B : Nat} (h : BB w b o T K B (.slice none 0 0) []) (n : Nat) (hn : 1 ≤ n) (h64 : n ≤ 64) :
    Calls Tryd.prog 69 #[.pointer (some ⟨b, o, none⟩), .int .i64 n] w fun e w' => e = .returned (.int .i64 0) ∧ Room w w' b T K [] n := by
  have H := Lib.hid h
  have c0 := h.c0
  have c1 := h.c1
  have f0 := h.free o
  have hbW := h.lt
  have info_u8 : (Tryd.prog.info? 5).map (fun i => (i.zero, i.size, i.bytes)) = some (some (.int .u8 0), 1, 1) := by kernel_rfl
  obtain ⟨i0, hi, hz0, hz1, hz2⟩ := info_parts1 info_u8
  obtain ⟨M, hM⟩ : ∃ M, M = madeCells (Value.int .u8 0).cells ((64 : Int).toNat * i0.size) := ⟨_, rfl⟩
  have hMs : M.size = 64 := by rw [hM, size_madeCells, hz1]; rfl
  have HMS := Lib.hid hMs
  have hmk : ∀ W : World, (Instr.makeSlice 49 (.int .i64 (n : Int)) (.int .i64 64)).run Tryd.prog W = .ok (.slice (some ⟨W.heap.size, 0, none⟩) n 64) (W.alloc (.cells M 5)) := fun W => by
    have h := run_makeSlice (P := Tryd.prog) W 49 5 i0 (.int .u8 0) Tryd.underlying49 hi hz0 .i64 .i64 (n : Int) 64 (by omega) (by omega) (by rw [hz1]; decide) (by rw [hz2]; decide) (by decide)
    rw [← hM] at h
    simpa using h
  clear hM hi hz0 hz1 hz2 info_u8 hMs
  have hnil : ∀ W, (binOp .eql 49 (.slice none 0 0) (.slice none 0 0)).run Tryd.prog W = .ok (.bool true) W := fun W => Lib.run_eql_slice_nil_nil W _ _ Tryd.underlying49
  have HB := Lib.hid hbW
  have HC := Lib.hid c0
  have HF := Lib.hid f0
  clear h
  go_enter Tryd.func69, Tryd.ntmps69
  go_wp2_with (first
    | (go_at_call 72; refine (ln_any b o none 0 0 w c0 c1 (Nat.le_refl _) (by unfold maxLen; omega)).mono ?_; rintro e w1 ⟨rfl, o1, s1⟩
       have d0 := (o1.cell (o := o) HB.out).trans HC.out
       have d1 := (o1.cell (o := o + 1) HB.out).trans c1
       have g0 := (o1.frozen (o := o) HB.out).trans HF.out
       have d0a : ∀ o', (w1.alloc o').cell? ⟨b, o, none⟩ = some (.slice none 0 0) := fun o' => (World.cell?_of_block (a := ⟨b, o, none⟩) (Below.heap_alloc w1 o' b (Nat.lt_of_lt_of_le HB.out o1.size))).trans d0
       have g0a : ∀ o', (w1.alloc o').frozen? ⟨b, o, none⟩ = false := fun o' => (World.frozen?_of_block (a := ⟨b, o, none⟩) (Below.heap_alloc w1 o' b (Nat.lt_of_lt_of_le HB.out o1.size))).trans g0
       have O1 := Lib.hid o1
       have S1 := Lib.hid s1
       clear o1 s1 c0 c1 f0)
    | (go_at_call 68; refine (tgn_any b o none 0 0 n w1 d0 (Nat.le_refl _) (by unfold maxLen; omega) (by omega)).mono ?_; rintro e w2 ⟨rfl, rfl⟩))
  go_ret
  exact ⟨rfl, room_small H.out O1.out HMS.out h64⟩

theorem growb {w w2 : World} {b o : Nat} {T : TypeId} {K : Value → Int → Array Value} {B : Nat} {v : Value} {l : List UInt8} (h : BB w b o T K B v l) (O : Old w w2) : ∃ lr, w2.heap[b]? = some (.cells (K v lr) T) := (h.old O).cells
theorem room_slice {w w1 w2 : World} {b o : Nat} {T : TypeId} {K : Value → Int → Array Value} {B : Nat} {v : Value} {l : List UInt8} (h : BB w b o T K B v l) (O : Old w w1) {N n cap2 : Nat} {cells : Array Value} (hs : w.heap.size ≤ N) (hN : w2.heap[N]? = some (.cells cells 5)) (hcs : cells.size = cap2) (htk : cells.toList.take l.length = byV l) (hc : l.length + n ≤ cap2) (hm : cap2 ≤ maxLen) (hb : Old w1 w2) (v1 : Value) :
    Room w (((w2.setCell ⟨b, o, none⟩ v1).setCell ⟨b, o + 1, none⟩ (.int .i64 0)).setCell ⟨b, o, none⟩ (.slice (some ⟨N, 0, none⟩) (l.length + n) cap2)) b T K l n := by
  have hne : N ≠ b := by have := h.lt; omega
  obtain ⟨lr, h2⟩ := (h.old (O.trans hb)).cells
  have e1 := fset (j := o) h2 v1
  rw [h.ctx.s0] at e1
  have e2 := fset (j := o + 1) e1 (.int .i64 0)
  rw [h.ctx.s1] at e2
  have e3 := fset (j := o) e2 (.slice (some ⟨N, 0, none⟩) (l.length + n) cap2)
  rw [h.ctx.s0] at e3
  refine ⟨N, cap2, cells, lr, e3, ?_, hcs, htk, hc, hm, hs, (((Fr.of_old (O.trans hb)).then_set b _ _ (by simp)).then_set b _ _ (by simp)).then_set b _ _ (by simp)⟩
  rw [Below.heap_setCell _ _ _ _ hne, Below.heap_setCell _ _ _ _ hne, Below.heap_setCell _ _ _ _ hne]
  exact hN
set_option maxHeartbeats 4000000 in
theorem grb_any {w : World} {b o : Nat} {T : TypeId} {K : Value → Int → Array Value} {B : Nat} (h : BB w b o T K B (.slice none 0 0) []) (n : Nat) (h64 : 64 < n) (hlim : n ≤ 1000000) :
    Calls Tryd.prog 69 #[.pointer (some ⟨b, o, none⟩), .int .i64 n] w fun e w' => e = .returned (.int .i64 0) ∧ Room w w' b T K [] n := by
  have H := Lib.hid h
  have c0 := h.c0
  have c1 := h.c1
  have f0 := h.free o
  have hbW := h.lt
  have hnil : ∀ W, (binOp .eql 49 (.slice none 0 0) (.slice none 0 0)).run Tryd.prog W = .ok (.bool true) W := fun W => Lib.run_eql_slice_nil_nil W _ _ Tryd.underlying49
  have HB := Lib.hid hbW
  have HC := Lib.hid c0
  have HC1 := Lib.hid c1
  have HF := Lib.hid (fun j => h.free j)
  have hwn : IntKind.i64.wrap (n : Int) = n := by rw [IntKind.wrap_i64]; omega
  clear h
  go_enter Tryd.func69, Tryd.ntmps69
  go_wp2_with (first
    | (go_at_call 72; refine (ln_any b o none 0 0 w c0 c1 (Nat.le_refl _) (by unfold maxLen; omega)).mono ?_; rintro e w1 ⟨rfl, o1, s1⟩
       have d0 := (o1.cell (o := o) HB.out).trans HC.out
       have d1 := (o1.cell (o := o + 1) HB.out).trans HC1.out
       have g0 := (o1.frozen (o := o) HB.out).trans (HF.out o)
       have O1 := Lib.hid o1
       have S1 := Lib.hid s1
       clear o1 s1 c0 c1 f0)
    | (go_at_call 68; refine (tgn_any b o none 0 0 n w1 d0 (Nat.le_refl _) (by unfold maxLen; omega) (by omega)).mono ?_; rintro e w2 ⟨rfl, rfl⟩))
  go_region_with (
      go_at_call 84
      refine (Any.bytes_growSlice_nil Tryd.laysM290 n _ (by omega) (by omega)).mono ?_
      rintro e w3 ⟨cap2, cells, rfl, hN, hcsz, hcap2, hcm2, hbel⟩
      have O3 : Hid (Old w2.drew w3) := hbel
      have e0 := ((O3.out.cell (o := o) (Nat.lt_of_lt_of_le HB.out O1.out.size)).trans ((O1.out.cell (o := o) HB.out).trans HC.out))
      have e1 := ((O3.out.cell (o := o + 1) (Nat.lt_of_lt_of_le HB.out O1.out.size)).trans ((O1.out.cell (o := o + 1) HB.out).trans HC1.out))
      have g1 := ((O3.out.frozen (o := o) (Nat.lt_of_lt_of_le HB.out O1.out.size)).trans ((O1.out.frozen (o := o) HB.out).trans (HF.out o)))
      have g2 := ((O3.out.frozen (o := o + 1) (Nat.lt_of_lt_of_le HB.out O1.out.size)).trans ((O1.out.frozen (o := o + 1) HB.out).trans (HF.out (o + 1))))
      have RN := Lib.hid hN
      clear hN hbel)
  all_goals (
    go_wp2
    go_ret
    have R := room_slice (n := n) H.out (O1.out.then_drew) (show w.heap.size ≤ w2.heap.size from O1.out.size) RN.out hcsz (by simp [byV]) (by simpa using hcap2) hcm2 O3.out (.slice (some ⟨w2.heap.size, 0, none⟩) 0 cap2)
    rw [show ([] : List UInt8).length + n = n from Nat.zero_add n] at R
    exact ⟨rfl, R⟩)
set_option maxHeartbeats 4000000 in
theorem gro_any {w : World} {b o : Nat} {T : TypeId} {K : Value → Int → Array Value} {B : Nat} {v : Value} {l : List UInt8} (h : BB w b o T K B v l) (g cap m n : Nat) (cur : Array Value) (hm : m = l.length) (hv : v = .slice (some ⟨g, 0, none⟩) m cap) (hg : w.heap[g]? = some (.cells cur 5)) (hlc : m ≤ cap) (hcs : cur.size = cap) (hcc : cap ≤ 140737488355328) (htk : cur.toList.take m = byV l) (hroom : cap - m < n) (hlim : m + n ≤ 1000000) :
    Calls Tryd.prog 69 #[.pointer (some ⟨b, o, none⟩), .int .i64 n] w fun e w' => e = .returned (.int .i64 m) ∧ Room w w' b T K l n := by
  subst hv
  have H := Lib.hid h
  have c0 := h.c0
  have c1 := h.c1
  have f0 := h.free o
  have hbW := h.lt
  have hnil : ∀ W, (binOp .eql 49 (.slice (some ⟨g, 0, none⟩) m cap) (.slice none 0 0)).run Tryd.prog W = .ok (.bool false) W := fun W => Lib.run_eql_slice_some_nil W _ _ _ Tryd.underlying49
  have HB := Lib.hid hbW
  have HC := Lib.hid c0
  have HC1 := Lib.hid c1
  have HF := Lib.hid (fun j => h.free j)
  have HG := Lib.hid hg
  have HM := Lib.hid hm
  have HT := Lib.hid htk
  have hwn : IntKind.i64.wrap (n : Int) = n := by rw [IntKind.wrap_i64]; omega
  have hcm : cap ≤ maxLen := by unfold maxLen; omega
  have h1 : Hid (∀ x ∈ cur.toList.take m, x.oneCell' = true) := by rw [htk]; exact byV_one l
  have hn1 : 1 ≤ n := by omega
  clear h hg hm htk
  by_cases hm0 : m = 0
  · subst hm0
    go_enter Tryd.func69, Tryd.ntmps69
    go_wp2_with (first
      | (go_at_call 72; refine (ln_any b o _ 0 cap w c0 c1 hlc hcm).mono ?_; rintro e w1 ⟨rfl, o1, s1⟩
         have d0 := (o1.cell (o := o) HB.out).trans HC.out
         have d1 := (o1.cell (o := o + 1) HB.out).trans HC1.out
         have g0 := (o1.frozen (o := o) HB.out).trans (HF.out o)
         have O1 := Lib.hid o1
         have S1 := Lib.hid s1
         have G1 : Hid (w1.heap[g]? = some (.cells cur 5)) := (o1.heap (flt HG.out)).trans HG.out
         clear o1 s1 c0 c1 f0)
      | (go_at_call 68; refine (tgn_any b o _ 0 cap n w1 d0 hlc hcm hroom).mono ?_; rintro e w2 ⟨rfl, rfl⟩))
    go_region_with (
        go_at_call 84
        refine (Any.bytes_growSlice_row Tryd.laysM290 g 0 cap n cur _ ?_ hcs hlc hn1 (by omega) hcc h1.out).mono ?_
        exact G1.out
        rintro e w3 ⟨cap2, cells, rfl, hN, hcsz, htk2, hcap2, hcm2, hbel⟩
        have O3 : Hid (Old w2.drew w3) := hbel
        have e0 := ((O3.out.cell (o := o) (Nat.lt_of_lt_of_le HB.out O1.out.size)).trans ((O1.out.cell (o := o) HB.out).trans HC.out))
        have e1 := ((O3.out.cell (o := o + 1) (Nat.lt_of_lt_of_le HB.out O1.out.size)).trans ((O1.out.cell (o := o + 1) HB.out).trans HC1.out))
        have g1 := ((O3.out.frozen (o := o) (Nat.lt_of_lt_of_le HB.out O1.out.size)).trans ((O1.out.frozen (o := o) HB.out).trans (HF.out o)))
        have g2 := ((O3.out.frozen (o := o + 1) (Nat.lt_of_lt_of_le HB.out O1.out.size)).trans ((O1.out.frozen (o := o + 1) HB.out).trans (HF.out (o + 1))))
        have RN := Lib.hid hN
        have RT := Lib.hid htk2
        clear hN hbel htk2)
    all_goals (
      go_wp2
      go_ret
      have hl := HM.out
      have R := room_slice (n := n) H.out (O1.out.then_drew) (show w.heap.size ≤ w2.heap.size from O1.out.size) RN.out hcsz (by rw [← hl]; exact RT.out.trans HT.out) (by omega) hcm2 O3.out (.slice (some ⟨w2.heap.size, 0, none⟩) 0 cap2)
      rw [← hl, Nat.zero_add] at R
      exact ⟨rfl, R⟩)
  · go_enter Tryd.func69, Tryd.ntmps69
    go_wp2_with (first
      | (go_at_call 72; refine (ln_any b o _ m cap w c0 c1 hlc hcm).mono ?_; rintro e w1 ⟨rfl, o1, s1⟩
         have d0 := (o1.cell (o := o) HB.out).trans HC.out
         have d1 := (o1.cell (o := o + 1) HB.out).trans HC1.out
         have g0 := (o1.frozen (o := o) HB.out).trans (HF.out o)
         have O1 := Lib.hid o1
         have S1 := Lib.hid s1
         have G1 : Hid (w1.heap[g]? = some (.cells cur 5)) := (o1.heap (flt HG.out)).trans HG.out
         clear o1 s1 c0 c1 f0)
      | (go_at_call 68; refine (tgn_any b o _ m cap n w1 d0 hlc hcm hroom).mono ?_; rintro e w2 ⟨rfl, rfl⟩))
    go_region_with (
        go_at_call 84
        refine (Any.bytes_growSlice_row Tryd.laysM290 g m cap n cur _ ?_ hcs hlc hn1 (by omega) hcc h1.out).mono ?_
        exact G1.out
        rintro e w3 ⟨cap2, cells, rfl, hN, hcsz, htk2, hcap2, hcm2, hbel⟩
        have O3 : Hid (Old w2.drew w3) := hbel
        have e0 := ((O3.out.cell (o := o) (Nat.lt_of_lt_of_le HB.out O1.out.size)).trans ((O1.out.cell (o := o) HB.out).trans HC.out))
        have e1 := ((O3.out.cell (o := o + 1) (Nat.lt_of_lt_of_le HB.out O1.out.size)).trans ((O1.out.cell (o := o + 1) HB.out).trans HC1.out))
        have g1 := ((O3.out.frozen (o := o) (Nat.lt_of_lt_of_le HB.out O1.out.size)).trans ((O1.out.frozen (o := o) HB.out).trans (HF.out o)))
        have g2 := ((O3.out.frozen (o := o + 1) (Nat.lt_of_lt_of_le HB.out O1.out.size)).trans ((O1.out.frozen (o := o + 1) HB.out).trans (HF.out (o + 1))))
        have RN := Lib.hid hN
        have RT := Lib.hid htk2
        clear hN hbel htk2)
    all_goals (
      go_wp2
      go_ret
      have hl := HM.out
      have R := room_slice (n := n) H.out (O1.out.then_drew) (show w.heap.size ≤ w2.heap.size from O1.out.size) RN.out hcsz (by rw [← hl]; exact RT.out.trans HT.out) (by omega) hcm2 O3.out (.slice (some ⟨w2.heap.size, 0, none⟩) m cap2)
      rw [← hl] at R
      exact ⟨rfl, R⟩)
end Go.Proofs.YtpkmamdgpjncoaaDoor
