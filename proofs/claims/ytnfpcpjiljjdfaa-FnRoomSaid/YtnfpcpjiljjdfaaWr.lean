/- The VT100 writer in memory. -/
import Derived.Test.YtnfpcpjiljjdfaaProg
import Derived.Test.YtnfpcpjiljjdfaaStep
import Derived.RegionTactic
import Derived.BigRegion
namespace Go.Proofs.Ytnfpcpjiljjdfaa
open Go.RowKit
set_option linter.unusedVariables false
set_option linter.unusedSimpArgs false
set_option linter.unnecessarySimpa false
set_option maxRecDepth 100000

/-- Blocks below base, but wb, are kept. -/
structure Low (base wb : Nat) (w w' : World) : Prop where
  os : w'.os = w.os
  tape : w'.tape = w.tape
  output : w'.output = w.output
  size : w.heap.size ≤ w'.heap.size
  block : ∀ k, k < base → k ≠ wb → w'.heap[k]? = w.heap[k]?
theorem Low.refl (base wb : Nat) (w : World) : Low base wb w w := ⟨rfl, rfl, rfl, Nat.le_refl _, fun _ _ _ => rfl⟩
theorem Low.trans {base wb : Nat} {u v w : World} (h : Low base wb u v) (k : Low base wb v w) : Low base wb u w :=
  ⟨k.os.trans h.os, k.tape.trans h.tape, k.output.trans h.output, Nat.le_trans h.size k.size, fun i hi h1 => (k.block i hi h1).trans (h.block i hi h1)⟩
theorem Low.of_old {base wb : Nat} {w w' : World} (h : Old w w') (hb : base ≤ w.heap.size) : Low base wb w w' := ⟨Below.os h, Below.tape h, Below.output h, Below.size h, fun k hk _ => Below.block h k (by omega)⟩
theorem Low.cell {base wb : Nat} {w w' : World} (h : Low base wb w w') {k o : Nat} (hk : k < base) (h1 : k ≠ wb) : w'.cell? ⟨k, o, none⟩ = w.cell? ⟨k, o, none⟩ := World.cell?_of_block (w := w) (a := ⟨k, o, none⟩) (h.block k hk h1)
theorem Old.low {base wb : Nat} {u v w : World} (h : Old u v) (k : Low base wb v w) (h1 : u.heap.size ≤ wb) (h2 : u.heap.size ≤ base) : Old u w :=
  ⟨k.os.trans (Below.os h), k.tape.trans (Below.tape h), k.output.trans (Below.output h), Nat.le_trans h.size k.size, fun i hi => (k.block i (by omega) (by omega)).trans (Below.block h i hi)⟩

/-- Block wb is a writer that has written s. -/
def WB (w : World) (wb base : Nat) (s : List Int) : Prop :=
  ∃ bv, w.heap[wb]? = some (.cells #[bv] 112) ∧ w.ownsRow base 5 1 bv s.length (s.map (Value.int .u8)) ∧ wb < base ∧ base ≤ w.heap.size
theorem own_old {w w' : World} {base : Nat} {e : TypeId} {sz n : Nat} {v : Value} {xs : List Value} (h : w.ownsRow base e sz v n xs) (o : Old w w') : w'.ownsRow base e sz v n xs := by
  refine ⟨h.1, ?_⟩
  rcases h.2 with h | ⟨g, cap, cur, hv, h1, h2, h3⟩
  · exact .inl h
  · exact .inr ⟨g, cap, cur, hv, h1, (o.heap (Array.getElem?_eq_some_iff.1 h2).1).trans h2, h3⟩
theorem own_same {w w' : World} {base : Nat} {e : TypeId} {sz n : Nat} {v : Value} {xs : List Value} (h : w.ownsRow base e sz v n xs) (hk : ∀ g, base ≤ g → g < w.heap.size → w'.heap[g]? = w.heap[g]?) : w'.ownsRow base e sz v n xs := by
  refine ⟨h.1, ?_⟩
  rcases h.2 with h | ⟨g, cap, cur, hv, h1, h2, h3⟩
  · exact .inl h
  · exact .inr ⟨g, cap, cur, hv, h1, (hk g h1 (Array.getElem?_eq_some_iff.1 h2).1).trans h2, h3⟩
theorem heap_set0 {w : World} {b : Nat} {x v : Value} {t : TypeId} (h : w.heap[b]? = some (.cells #[x] t)) : (w.setCell ⟨b, 0, none⟩ v).heap[b]? = some (.cells #[v] t) := by
  unfold World.setCell; simp [Array.getElem?_modify, h]
theorem WB.old {w w' : World} {wb base : Nat} {s : List Int} (h : WB w wb base s) (o : Old w w') : WB w' wb base s := by
  obtain ⟨bv, h1, h2, h3, h4⟩ := h
  exact ⟨bv, (o.heap (Array.getElem?_eq_some_iff.1 h1).1).trans h1, own_old h2 o, h3, Nat.le_trans h4 o.size⟩

section
variable {P : Program} {ops : Array Oper} {rest : List Oper} {o : Oper} {a : Act} {Q : Exit → Act → World → Prop} {w : World}
/-- 'append(v, x...)' of numbers to a row of the call's own (or nil); x is not empty. -/
theorem wpList_append_nums (hgd : o.guard = none) (s x : Operand) (t e : TypeId) (k : IntKind) (z : Value) (bytes : Nat) (ho : o.op = .call { callee := .builtin .append, args := #[s, x], argTypes := #[t, t] }) (ht : P.underlying t = some (.slice e))
    (hinfo : (P.info? e).map (fun i => (i.zero, i.size, i.bytes)) = some (some z, 1, bytes)) (hz : z.cells.size = 1) (hby : bytes ≤ 8) (hby0 : 0 < bytes)
    (base : Nat) (v : Value) (n : Nat) (xs : List Value) (hs : a.eval s = v) (hown : w.ownsRow base e 1 v n xs)
    (tb to tc m : Nat) (tl : List Int) (hm : tl.length = m) (hx : a.eval x = .slice (some ⟨tb, to, none⟩) m tc) (hc : ∀ j, j < tl.length → w.cell? ⟨tb, to + j, none⟩ = some (.int k (gi tl j)))
    (hpos : 0 < m) (hn : n + m ≤ 1000000) (hbase : base ≤ w.heap.size)
    (h : ∀ w' g cap, w'.ownsRow base e 1 (.slice (some ⟨g, 0, none⟩) (n + m) cap) (n + m) (xs ++ tl.map (Value.int k)) → w.grownBy w' v.ownBlock → wpList P ops Q rest (a.put o.dst (.slice (some ⟨g, 0, none⟩) (n + m) cap)) w') :
    wpList P ops Q (o :: rest) a w := by
  subst hm
  obtain ⟨i, hi, hz0, hz1, hz2⟩ := info_parts1 hinfo
  have hb : (n + tl.length) * bytes ≤ 8000000 := Nat.le_trans (Nat.mul_le_mul hn hby) (by omega)
  refine wpList_append_own _ hgd s x t ho base e i z 1 bytes ht hi hz0 hz1 hz2 hz (by decide) v n xs hs hown ⟨tb, to, none⟩ tl.length tc (tl.map (Value.int k)) hx (by simp)
    (fun j u hu => by
      obtain ⟨hj, rfl⟩ := ints_at hu
      have hadd : (⟨tb, to, none⟩ : Addr).add j = ⟨tb, to + j, none⟩ := by unfold Addr.add; split <;> simp_all
      rw [hadd]; exact hc j hj) (ints_one _) (by unfold maxLen; omega) (by omega) hbase ?_
  intro v' w' hown' hgrow hnil
  rcases hown'.2 with ⟨hv', h0⟩ | ⟨g, cap, cur, rfl, _⟩
  · exfalso; omega
  · exact h w' g cap hown' hgrow
end

set_option maxHeartbeats 1000000 in
theorem raw_any (wb base tb to tc m : Nat) (s d : List Int) (w : World) (h : WB w wb base s) (hm : d.length = m) (hd : ∀ j, j < d.length → w.cell? ⟨tb, to + j, none⟩ = some (.int .u8 (gi d j))) (h0 : 0 < m) (hn : s.length + m ≤ 1000000) :
    Calls Try.prog 178 #[.pointer (some ⟨wb, 0, none⟩), .slice (some ⟨tb, to, none⟩) m tc] w fun e w' => e = .returned (.tuple #[]) ∧ WB w' wb base (s ++ d) ∧ Low base wb w w' := by
  obtain ⟨bv, hp, hown, hlt, hle⟩ := h
  have HP := Lib.hid hp
  have HO := Lib.hid hown
  have HD := Lib.hid hd
  have HM := Lib.hid hm
  have info_u8 : (Try.prog.info? 5).map (fun i => (i.zero, i.size, i.bytes)) = some (some (.int .u8 0), 1, 1) := by kernel_rfl
  have HI := Lib.hid info_u8
  have c0 : w.cell? ⟨wb, 0, none⟩ = some bv := (heap_cell hp 0).trans rfl
  have f0 : w.frozen? ⟨wb, 0, none⟩ = false := heap_free hp 0
  clear hp hown hd info_u8 hm
  go_enter Try.func178, Try.ntmps178
  go_wp2_with (at_builtin; refine wpList_append_nums rfl (.tmp 8) (.tmp 9) 26 5 .u8 (.int .u8 0) 1 rfl Try.underlying26 HI.out rfl (by omega) (by omega) base bv s.length (s.map (Value.int .u8)) rfl HO.out tb to tc m d HM.out rfl HD.out h0 hn hle ?_; intro w4 g cap hown4 hg4
               have hwb : w4.heap[wb]? = some (.cells #[bv] 112) := (hg4.block wb (by omega) (fun e => by have := (HO.out.lt wb e.symm).1; omega)).trans HP.out
               have c4 : w4.cell? ⟨wb, 0, none⟩ = some bv := (heap_cell hwb 0).trans rfl
               have f4 : w4.frozen? ⟨wb, 0, none⟩ = false := heap_free hwb 0
               have O4 := Lib.hid hown4
               have G4 := Lib.hid hg4
               have B4 := Lib.hid hwb
               clear hown4 hg4 hwb)
  go_end0
  have hm := HM.out
  refine ⟨rfl, ⟨_, heap_set0 B4.out, ?_, hlt, by have := G4.out.size; simp [World.setCell]; omega⟩, ?_⟩
  · rw [List.length_append, List.map_append, hm]
    exact own_same O4.out (fun k hk _ => Below.heap_setCell w4 ⟨wb, 0, none⟩ _ k (by simp; omega))
  · refine ⟨G4.out.os, G4.out.tape, G4.out.output, by have := G4.out.size; simpa [World.setCell] using this, fun k hk h1 => ?_⟩
    rw [Below.heap_setCell w4 ⟨wb, 0, none⟩ _ k (by simp; omega)]
    exact G4.out.block k (by omega) (fun e => by have := (HO.out.lt k e.symm).1; omega)

theorem two_at (w : World) (x y : Int) : ∀ j, j < [x, y].length → (w.alloc (.cells #[.int .u8 x, .int .u8 y] 5)).cell? ⟨w.heap.size, 0 + j, none⟩ = some (.int .u8 (gi [x, y] j)) := by
  intro j hj
  rw [heap_cell (heap_alloc_new w _)]
  match j, hj with
  | 0, _ => rfl
  | 1, _ => rfl
theorem one_at (w : World) (x : Int) : ∀ j, j < [x].length → (w.alloc (.cells #[.int .u8 x] 5)).cell? ⟨w.heap.size, 0 + j, none⟩ = some (.int .u8 (gi [x] j)) := by
  intro j hj
  rw [heap_cell (heap_alloc_new w _)]
  match j, hj with
  | 0, _ => rfl

theorem down_any (wb base : Nat) (s : List Int) (w : World) (h : WB w wb base s) (hn : s.length + 2 ≤ 1000000) :
    Calls Try.prog 176 #[.pointer (some ⟨wb, 0, none⟩)] w fun e w' => e = .returned (.tuple #[]) ∧ WB w' wb base (s ++ [27, 68]) ∧ Low base wb w w' := by
  have H := Lib.hid h
  obtain ⟨_, _, _, _, hle⟩ := h
  go_enter Try.func176, Try.ntmps176
  go_wp2_with (go_at_call 178; refine (raw_any wb base w.heap.size 0 2 2 s [27, 68] _ (H.out.old (Old.alloc _ _)) rfl (two_at w 27 68) (by omega) hn).mono ?_; rintro e w1 ⟨rfl, h1, l1⟩; have H1 := Lib.hid h1; have L1 := Lib.hid l1; clear h1 l1)
  go_end0
  exact ⟨rfl, H1.out, (Low.of_old (Old.alloc _ _) hle).trans L1.out⟩
theorem up_any (wb base : Nat) (s : List Int) (w : World) (h : WB w wb base s) (hn : s.length + 2 ≤ 1000000) :
    Calls Try.prog 177 #[.pointer (some ⟨wb, 0, none⟩)] w fun e w' => e = .returned (.tuple #[]) ∧ WB w' wb base (s ++ [27, 77]) ∧ Low base wb w w' := by
  have H := Lib.hid h
  obtain ⟨_, _, _, _, hle⟩ := h
  go_enter Try.func177, Try.ntmps177
  go_wp2_with (go_at_call 178; refine (raw_any wb base w.heap.size 0 2 2 s [27, 77] _ (H.out.old (Old.alloc _ _)) rfl (two_at w 27 77) (by omega) hn).mono ?_; rintro e w1 ⟨rfl, h1, l1⟩; have H1 := Lib.hid h1; have L1 := Lib.hid l1; clear h1 l1)
  go_end0
  exact ⟨rfl, H1.out, (Low.of_old (Old.alloc _ _) hle).trans L1.out⟩
end Go.Proofs.Ytnfpcpjiljjdfaa
