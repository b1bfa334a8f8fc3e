/- Words on appends in regions that draw their order, and on rows that a call owns. -/
import Derived.Test.YtpkmamdgpjncoaaDoorApp
import Derived.Deep.AppendLies
import Derived.Deep.RegionLaw
import Derived.Deep.RegionHeld3
import Derived.OwnWalk
import Derived.Laws.CopyOwn
namespace Go.Proofs.YtpkmamdgpjncoaaDoor
open Go.RowKit
set_option linter.unusedVariables false
set_option linter.unusedSimpArgs false
set_option linter.unnecessarySimpa false
set_option maxRecDepth 100000

theorem heap_cell {w : World} {b : Nat} {C : Array Value} {t : TypeId} {fr : Nat × Nat} (h : w.heap[b]? = some (.cells C t fr)) (j : Nat) : w.cell? ⟨b, j, none⟩ = C[j]? := by
  unfold World.cell?; rw [h]; simp
theorem heap_free {w : World} {b : Nat} {C : Array Value} {t : TypeId} (h : w.heap[b]? = some (.cells C t)) (j : Nat) : w.frozen? ⟨b, j, none⟩ = false := by
  unfold World.frozen?; rw [h]; simp
theorem ints_at {k : IntKind} {l : List Int} {j : Nat} {u : Value} (h : (l.map (Value.int k))[j]? = some u) : j < l.length ∧ u = .int k (gi l j) := by
  have hj : j < (l.map (Value.int k)).length := (List.getElem?_eq_some_iff.1 h).1
  have hj' : j < l.length := by simpa using hj
  refine ⟨hj', ?_⟩
  rw [List.getElem?_eq_getElem hj] at h
  rw [gi_lt hj']
  simpa using h.symm
theorem ints_one {k : IntKind} (l : List Int) : ∀ v ∈ l.map (Value.int k), v.oneCell' = true := by
  intro u hu
  obtain ⟨q, _, rfl⟩ := List.mem_map.1 hu
  rfl
theorem own_cown {w : World} {base : Nat} {e : TypeId} {k : IntKind} {g n cap : Nat} {l : List Int} (h : w.ownsRow base e 1 (.slice (some ⟨g, 0, none⟩) n cap) n (l.map (Value.int k))) : COwn w g k n (gi l) := by
  intro j hj
  have hl : l.length = n := by have := h.1; simpa using this
  refine ⟨?_, ?_⟩
  · rw [own_cell h j hj, gv_lt (by simpa using by omega)]
    simp [gi_lt (show j < l.length by omega)]
  · rcases h.2 with ⟨hv, _⟩ | ⟨g', cap', cur, hv, _, h2, _⟩
    · cases hv
    · injection hv with hv1; injection hv1 with hv1; injection hv1 with hv1
      subst hv1
      exact heap_free h2 j
/-- A row that was just built is owned. -/
theorem own_built {w : World} {b : Nat} {e : TypeId} {k : IntKind} {l : List Int} {n : Nat} (h : w.heap[b]? = some (.cells (l.map (Value.int k)).toArray e)) (hn : l.length = n) (hm : n ≤ maxLen) {base : Nat} (hb : base ≤ b) :
    w.ownsRow base e 1 (.slice (some ⟨b, 0, none⟩) n n) n (l.map (Value.int k)) := by
  subst hn
  exact ⟨by simp, .inr ⟨b, l.length, _, rfl, hb, h, Nat.le_refl _, hm, by simp, by simpa using List.take_of_length_le (l := l.map (Value.int k)) (i := l.length) (by simp)⟩⟩

section
variable {P : Program} {ops : Array Oper} {o : Oper} {a : Act} {K : Act → World → Prop} {Q : Exit → Act → World → Prop} {w : World} {E : Prop}
/-- 'append(v, x...)' of an empty slice, in a region that draws. -/
theorem step_append_zero (hgd : o.guard = none) (s x : Operand) (t e : TypeId) (z : Value) (bytes : Nat) (ho : o.op = .call { callee := .builtin .append, args := #[s, x], argTypes := #[t, t] }) (ht : P.underlying t = some (.slice e))
    (hinfo : (P.info? e).map (fun i => (i.zero, i.size, i.bytes)) = some (some z, 1, bytes))
    (b n cap : Nat) (hs : a.eval s = .slice (some ⟨b, 0, none⟩) n cap) (ad : Addr) (c : Nat) (hx : a.eval x = .slice (some ad) 0 c) (hn : n ≤ cap)
    (h : K (a.put o.dst (.slice (some ⟨b, 0, none⟩) n cap)) w) :
    if Region.wanted o (yielded ops a.tmps) = true then Oper.wp P o a w K Q else E := by
  obtain ⟨i, hi, hz0, hz1, hz2⟩ := info_parts1 hinfo
  refine step_append_room hgd s x t ho e i 1 ht hi hz1 b 0 n cap hs ad 0 c [] hx rfl (by simp) (by simp) (by simpa using hn) (by simp) ?_
  exact h
/-- 'append(v, x...)' of numbers, in a region that draws; x is not empty. -/
theorem step_append_ints (hgd : o.guard = none) (s x : Operand) (t e : TypeId) (k : IntKind) (z : Value) (bytes : Nat) (ho : o.op = .call { callee := .builtin .append, args := #[s, x], argTypes := #[t, t] }) (ht : P.underlying t = some (.slice e))
    (hinfo : (P.info? e).map (fun i => (i.zero, i.size, i.bytes)) = some (some z, 1, bytes)) (hz : z.cells.size = 1) (hby : bytes ≤ 8) (base : Nat)
    (v : Value) (n : Nat) (xs : List Value) (hs : a.eval s = v) (hown : w.ownsRow base e 1 v n xs)
    (tb to tc m : Nat) (tl : List Int) (hm : tl.length = m) (hx : a.eval x = .slice (some ⟨tb, to, none⟩) m tc) (hc : ∀ j, j < tl.length → w.cell? ⟨tb, to + j, none⟩ = some (.int k (gi tl j)))
    (hpos : 0 < m) (hn : n + m ≤ 1000000) (hbase : base ≤ w.heap.size)
    (h : ∀ g cap w', w'.ownsRow base e 1 (.slice (some ⟨g, 0, none⟩) (n + m) cap) (n + m) (xs ++ tl.map (Value.int k)) → w.grownBy w' v.ownBlock → (v.ownBlock = some g ∨ g = w.heap.size) → K (a.put o.dst (.slice (some ⟨g, 0, none⟩) (n + m) cap)) w') :
    if Region.wanted o (yielded ops a.tmps) = true then Oper.wp P o a w K Q else E := by
  obtain ⟨i, hi, hz0, hz1, hz2⟩ := info_parts1 hinfo
  have hb : (n + m) * bytes ≤ 8000000 := Nat.le_trans (Nat.mul_le_mul hn hby) (by omega)
  refine step_append_lies w hgd s x t ho base e i z 1 bytes ht hi hz0 hz1 hz2 hz (by decide) v n xs hs hown ⟨tb, to, none⟩ m tc (tl.map (Value.int k)) hx (by simp [hm])
    (fun j u hu => by
      obtain ⟨hj, rfl⟩ := ints_at hu
      have hadd : (⟨tb, to, none⟩ : Addr).add j = ⟨tb, to + j, none⟩ := by unfold Addr.add; split <;> simp_all
      rw [hadd]; exact hc j hj) (ints_one _) hpos (by unfold maxLen; omega) (by omega) hbase _ rfl ?_
  intro g cap w' h1 h2 h3 _
  exact h g cap w' h1 h2 h3
end
section
variable {P : Program} {ops : Array Oper} {rest : List Oper} {o : Oper} {a : Act} {Q : Exit → Act → World → Prop} {w : World}
/-- 'make([]T, n)', T a kind of numbers: a new row of zeros. -/
theorem wpList_make_ints (hg : o.guard = none) (l c : Operand) (t e : TypeId) (k : IntKind) (bytes : Nat) (hop : o.op = Op.makeSlice t l c) (h1 : P.underlying t = some (.slice e)) (hinfo : (P.info? e).map (fun i => (i.zero, i.size, i.bytes)) = some (some (.int k 0), 1, bytes)) (hby : bytes ≤ 8)
    (kl kc : IntKind) (L C : Int) (n : Nat) (hl : a.eval l = .int kl L) (hc : a.eval c = .int kc C) (hL : L = (n : Int)) (hC : C = (n : Int)) (hn : n ≤ 2147483648)
    (h : ∀ w', Hid (w'.heap[w.heap.size]? = some (.cells (List.replicate n (Value.int k 0)).toArray e)) → Old w w' → wpList P ops Q rest (a.put o.dst (.slice (some ⟨w.heap.size, 0, none⟩) n n)) w') :
    wpList P ops Q (o :: rest) a w := by
  obtain ⟨i, hi, hz0, hz1, hz2⟩ := info_parts1 hinfo
  have hb : i.bytes * n ≤ 8 * 2147483648 := by rw [hz2]; exact Nat.mul_le_mul hby hn
  refine wpList_make_full w hg l c t hop w.heap.size e i (.int k 0) 1 h1 hi hz0 hz1 kl kc L C n hl hc hL hC (by omega) (by unfold maxLen; omega) (Nat.le_refl _) ?_
  intro w' hown hgr
  refine h w' ?_ ((Old.refl w).grown hgr (by simp))
  rcases hown.2 with ⟨hv, _⟩ | ⟨g, cap, cur, hv, h3, h4, h5, h6, h7, h8⟩
  · cases hv
  · injection hv with hv1 hv2 hv3
    injection hv1 with hv1; injection hv1 with hv1
    subst hv1
    subst hv3
    have hcl : cur.toList.length = n := by rw [Array.length_toList, h7]; omega
    have he : cur.toList = List.replicate n (Value.int k 0) := by
      rw [Nat.mul_one, List.take_of_length_le (by omega)] at h8
      rw [h8]
      have hz : (Value.int k 0).cells = #[.int k 0] := rfl
      rw [hz]
      apply List.ext_getElem
      · simp [madeCells]
      · intro j h1 h2
        simp [madeCells, Nat.mod_one]
    have hcur : cur = (List.replicate n (Value.int k 0)).toArray := by rw [← he]
    rw [h4, hcur]
    exact rfl
end
/-- A row that was made of zeros and written over whole. -/
theorem row_written {w : World} {b n : Nat} {e : TypeId} {k : IntKind} {l : List Int} (h : w.heap[b]? = some (.cells (splice (List.replicate n (Value.int k 0)) 0 (l.map (Value.int k))).toArray e)) (hl : l.length = n) :
    w.heap[b]? = some (.cells (l.map (Value.int k)).toArray e) := by
  subst hl
  have hs : splice (List.replicate l.length (Value.int k 0)) 0 (l.map (Value.int k)) = l.map (Value.int k) := by
    unfold splice; simp
  rwa [hs] at h
/-- The numbers of a row that is known whole. -/
theorem row_cown {w : World} {b n : Nat} {e : TypeId} {k : IntKind} {l : List Int} (h : w.heap[b]? = some (.cells (l.map (Value.int k)).toArray e)) (hl : l.length = n) : COwn w b k n (gi l) := by
  intro j hj
  refine ⟨?_, heap_free h j⟩
  rw [heap_cell h j]
  simp [gi, List.getD, List.getElem?_eq_getElem (show j < l.length by omega)]
end Go.Proofs.YtpkmamdgpjncoaaDoor
