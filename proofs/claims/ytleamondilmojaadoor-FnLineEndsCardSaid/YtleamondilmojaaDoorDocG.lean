/- Documents that come in: what the laws ask of them; impl.document. -/
import Derived.Test.YtleamondilmojaaDoorProg
import Derived.Test.YtleamondilmojaaDoorAscii
import Derived.Test.YtleamondilmojaaDoorDocP
import Derived.RegionTactic
import Derived.BigRegion
import Derived.Deep.RegionHeld
namespace Go.Proofs.YtleamondilmojaaDoor
open Go.RowKit
set_option linter.unusedVariables false
set_option linter.unusedSimpArgs false
set_option linter.unnecessarySimpa false
set_option maxRecDepth 100000

section
variable {P : Program} {ops : Array Oper} {o : Oper} {a : Act} {K : Act → World → Prop} {Q : Exit → Act → World → Prop} {w : World} {E : Prop}
/-- A conversion in a region that draws. -/
theorem step_conv {v : Value} {w1 : World} (hwant : Region.wanted o (yielded ops a.tmps) = true) (src dst : TypeId) (x : Operand) (val : Value) (ho : o.op = .convert src dst x) (hx : a.eval x = val)
    (hr : (convert src dst val).run P w = .ok v w1) (h : K (a.put o.dst v) w1) :
    if Region.wanted o (yielded ops a.tmps) = true then Oper.wp P o a w K Q else E := by
  rw [if_pos hwant]
  unfold Oper.wp execOp
  simp only [ho, hx, Sem.run_bind, Sem.run_pure, hr, Result.andThen_ok]
  exact h
end
theorem hcell0 {w : World} {b : Nat} {C : Array Value} {t : TypeId} {fr : Nat × Nat} (h : w.heap[b]? = some (.cells C t fr)) (j : Nat) : w.cell? ⟨b, j, none⟩ = C[j]? := by
  unfold World.cell?; rw [h]; simp

theorem docAtD_any (s : ByteArray) (k : Int) (w : World) : Calls Tryd.prog 58 #[.string s, .int .i64 k] w fun e w' => e = .returned (.pointer (some ⟨w.heap.size, 0, none⟩)) ∧ Old w w' ∧ w.heap.size < w'.heap.size ∧
    w'.cell? ⟨w.heap.size, 0, none⟩ = some (.string s) ∧ w'.cell? ⟨w.heap.size, 1, none⟩ = some (.int .i64 k) := by
  go_enter Tryd.func58, Tryd.ntmps58
  go_wp2_with fail
  go_ret
  have hz := heap_alloc_new w (.cells #[.string s, .int .i64 k] 86)
  exact ⟨rfl, Old.alloc _ _, by simp, (hcell0 hz 0).trans rfl, (hcell0 hz 1).trans rfl⟩

set_option maxHeartbeats 1000000 in
theorem docG_any (s : ByteArray) (k : Int) (w : World) (hs : s.size ≤ 70368744177664) (h0 : 0 ≤ k) (h1 : k ≤ (runes s).length) :
    Calls Tryd.prog 32 #[.agg #[.string s, .int .i64 k]] w fun e w' => ∃ p, e = .returned (.tuple #[.pointer (some ⟨p, 0, none⟩), .bool true]) ∧ Old w w' ∧ w.heap.size ≤ p ∧ p < w'.heap.size ∧
      w'.cell? ⟨p, 0, none⟩ = some (.string s) ∧ w'.cell? ⟨p, 1, none⟩ = some (.int .i64 k) := by
  have g0 : (w.alloc (.cells #[.string s, .int .i64 k] 34)).cell? ⟨w.heap.size, 0, none⟩ = some (.string s) := (hcell0 (heap_alloc_new w _) 0).trans rfl
  have g1 : (w.alloc (.cells #[.string s, .int .i64 k] 34)).cell? ⟨w.heap.size, 1, none⟩ = some (.int .i64 k) := (hcell0 (heap_alloc_new w _) 1).trans rfl
  have d1 : decide (k ≥ 0) = true := by simpa using h0
  have d2 : decide (k ≤ ((runes s).length : Int)) = true := by simpa using h1
  have O1 : Hid (Old w (w.alloc (.cells #[.string s, .int .i64 k] 34))) := Old.alloc _ _
  have S1 : Hid ((w.alloc (.cells #[.string s, .int .i64 k] 34)).heap.size = w.heap.size + 1) := by unfold Hid; simp
  go_enter Tryd.func32, Tryd.ntmps32
  go_wp2_with fail
  generalize w.alloc (.cells #[.string s, .int .i64 k] 34) = w1 at g0 g1 O1 S1 ⊢
  obtain ⟨b, hb⟩ : ∃ b, b = w.heap.size := ⟨_, rfl⟩
  rw [← hb] at g0 g1 S1 ⊢
  have HB := Lib.hid hb
  clear hb
  have hbl : b < w1.heap.size := World.block_lt_of_cell? w1 _ g0
  go_region_held (fun w' => w'.cell? ⟨b, 0, none⟩ = some (.string s) ∧ w'.cell? ⟨b, 1, none⟩ = some (.int .i64 k))
    (first | exact ⟨y0, y1⟩ | exact ⟨q0, q1⟩ | exact ⟨g0, g1⟩ | go_keep)
    ((first | (go_at_call 58; refine (docAtD_any s k w1.drew).mono ?_; rintro e w2 ⟨rfl, o2, l2, p0, p1⟩; have q0 := (o2.cell (o := 0) hbl).trans g0; have q1 := (o2.cell (o := 1) hbl).trans g1; obtain ⟨v4, w4, hr4, o4, r4, ⟨vb4, vc4, rfl⟩, hown4⟩ := conv_runes (P := Tryd.prog) w2 9 42 21 s (by kernel_rfl) (by kernel_rfl) (by kernel_rfl) hs; have y0 := (o4.cell (o := 0) (World.block_lt_of_cell? w2 _ q0)).trans q0; have y1 := (o4.cell (o := 1) (World.block_lt_of_cell? w2 _ q0)).trans q1; have O2 := Lib.hid o2; have O4 := Lib.hid o4; clear o2 o4 r4 hown4)))
  go_wp2_with fail
  go_ret2
  have hw : Old w w4 := ((O1.out.trans (Old.drew w1)).trans O2.out).trans O4.out
  have hb := HB.out
  have hs1 := S1.out
  have hs2 : w1.heap.size < w2.heap.size := l2
  exact ⟨w1.heap.size, rfl, hw, by omega, Nat.lt_of_lt_of_le hs2 O4.out.size, (O4.out.cell hs2).trans p0, (O4.out.cell hs2).trans p1⟩
theorem fits_any (s : ByteArray) (k : Int) (w : World) (hs : s.size ≤ 9223372036854775807) :
    Calls Tryd.prog 15 #[.agg #[.string s, .int .i64 k]] w fun e w' => e = .returned (.bool (decide (s.size ≤ 2147483647))) ∧ Old w w' := by
  by_cases h : s.size ≤ 2147483647
  · have d : decide ((s.size : Int) > 2147483647) = false := by simp; omega
    go_enter Tryd.func15, Tryd.ntmps15
    go_wp2_with fail
    go_ret
    exact ⟨ret_bool (by simp; omega), Old.alloc _ _⟩
  · go_enter Tryd.func15, Tryd.ntmps15
    go_wp2_with fail
    go_ret
    exact ⟨ret_bool (by simp; omega), Old.alloc _ _⟩

def drB (s : ByteArray) (k : Int) : Bool := decide (asc10 s = true ∧ 0 ≤ k ∧ k ≤ s.size)
theorem right_any (s : ByteArray) (k : Int) (w : World) (hs : s.size ≤ 2147483647) :
    Calls Tryd.prog 16 #[.agg #[.string s, .int .i64 k]] w fun e w' => e = .returned (.bool (drB s k)) ∧ Old w w' := by
  cases h1 : asc10 s
  · go_enter Tryd.func16, Tryd.ntmps16
    go_wp2_with (go_at_call 10; refine (ascii_any _ _ (by omega)).mono ?_; rintro e w1 ⟨rfl, rfl⟩)
    go_ret
    exact ⟨ret_bool (by simp [drB, h1]), Old.alloc _ _⟩
  · by_cases h2 : 0 ≤ k
    · go_enter Tryd.func16, Tryd.ntmps16
      go_wp2_with (go_at_call 10; refine (ascii_any _ _ (by omega)).mono ?_; rintro e w1 ⟨rfl, rfl⟩)
      go_ret
      exact ⟨ret_bool (by simp [drB, h1, h2]; try omega), Old.alloc _ _⟩
    · go_enter Tryd.func16, Tryd.ntmps16
      go_wp2_with (go_at_call 10; refine (ascii_any _ _ (by omega)).mono ?_; rintro e w1 ⟨rfl, rfl⟩)
      go_ret
      exact ⟨ret_bool (by simp [drB, h1, h2]; try omega), Old.alloc _ _⟩

theorem dr_ok {l : Bs} {k : Int} (h : drB (tx l) k = true) : ∃ n : Nat, k = n ∧ n ≤ l.length ∧ okT l ∧ l.length ≤ 1000 := by
  have h1 := of_decide_eq_true h
  have h2 := asc10_iff.1 h1.1
  rw [tx_size] at h1 h2
  exact ⟨k.toNat, by omega, by omega, ⟨asc_tx h2.1, by omega⟩, h2.2⟩
theorem docD_any (l : Bs) (k : Nat) (w : World) (hk : k ≤ l.length) (ok : okT l) :
    Calls Tryd.prog 32 #[.agg #[.string (tx l), .int .i64 k]] w fun e w' => ∃ p, e = .returned (.tuple #[.pointer (some ⟨p, 0, none⟩), .bool true]) ∧ Old w w' ∧ w.heap.size ≤ p ∧ DP w' p l k := by
  have hn := ok.n
  refine (docG_any (tx l) k w (by rw [tx_size]; omega) (by omega) (by rw [runes_tx ok, List.length_map]; omega)).mono ?_
  rintro e w' ⟨p, rfl, o, h1, h2, h3, h4⟩
  exact ⟨p, rfl, o, h1, ⟨h3, h4⟩⟩
end Go.Proofs.YtleamondilmojaaDoor
