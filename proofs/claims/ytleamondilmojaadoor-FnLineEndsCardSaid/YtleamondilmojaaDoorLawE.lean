/- What the laws over scripts share: scripts of one step, documents in boxes. -/
import Derived.Test.YtleamondilmojaaDoorEdit
import Derived.Test.YtleamondilmojaaDoorSpecD
namespace Go.Proofs.YtleamondilmojaaDoor
open Go.RowKit
set_option linter.unusedVariables false
set_option linter.unusedSimpArgs false
set_option linter.unnecessarySimpa false
set_option maxRecDepth 100000

theorem script_one (w : World) (op n : Int) (t : ByteArray) (f : Bool) : Script (w.alloc (.cells #[.int .i64 op, .int .i64 n, .string t, .bool f] 40)) (.slice (some ⟨w.heap.size, 0, none⟩) 1 1) [⟨op, n, t, f⟩] := by
  have hz := heap_alloc_new w (.cells #[.int .i64 op, .int .i64 n, .string t, .bool f] 40)
  refine ⟨_, 1, rfl, Nat.le_refl _, by unfold maxLen; omega, fun j hj => ?_⟩
  have hj0 : j = 0 := by simpa using hj
  subst hj0
  exact ⟨w.heap.size, 0, rfl, (bcell hz 0).trans rfl, (bcell hz 1).trans rfl, (bcell hz 2).trans rfl, (bcell hz 3).trans rfl⟩
theorem sin_one (w : World) (o : Obj) (n c : Nat) : SIn (w.alloc o) (.slice (some ⟨w.heap.size, 0, none⟩) n c) := fun b o n c e => by
  injection e with e; injection e with e; injection e with e
  rw [← e]; simp
theorem Chain.one {e : Ed} {s s' : St} {t : Bs} (d : Does e s s' t) : Chain [e] s s' [t] := .cons d (.nil _)
theorem Chain.two {e e2 : Ed} {s s' s2 : St} {t t2 : Bs} (d : Does e s s' t) (d2 : Does e2 s' s2 t2) : Chain [e, e2] s s2 [t, t2] := .cons d (.cons d2 (.nil _))
/-- A document in a box. -/
def DB (w : World) (b : Nat) (l : Bs) (k : Nat) : Prop := w.heap[b]? = some (.cells #[.string (tx l), .int .i64 k] 34)
theorem DB.lt {w : World} {b k : Nat} {l : Bs} (h : DB w b l k) : b < w.heap.size := (Array.getElem?_eq_some_iff.1 h).1
theorem DB.old {w w' : World} {b k : Nat} {l : Bs} (h : DB w b l k) (o : Old w w') : DB w' b l k := (o.heap h.lt).trans h
theorem DB.c0 {w : World} {b k : Nat} {l : Bs} (h : DB w b l k) : w.cell? ⟨b, 0, none⟩ = some (.string (tx l)) := (bcell h 0).trans rfl
theorem DB.c1 {w : World} {b k : Nat} {l : Bs} (h : DB w b l k) : w.cell? ⟨b, 1, none⟩ = some (.int .i64 k) := (bcell h 1).trans rfl
theorem DB.new (w : World) (l : Bs) (k : Nat) : DB (w.alloc (.cells #[.string (tx l), .int .i64 k] 34)) w.heap.size l k := heap_alloc_new w _
/-- What was taken out. -/
theorem taken_cell {w : World} {base : Nat} {tv : Value} {ts : List Bs} (h : w.ownsRow base 9 1 tv ts.length (ts.map fun x => .string (tx x))) (hp : 0 < ts.length) : ∃ b c, tv = .slice (some ⟨b, 0, none⟩) ts.length c ∧ b < w.heap.size ∧ ts.length ≤ c ∧ c ≤ maxLen ∧ ∀ j (hj : j < ts.length), w.cell? ⟨b, j, none⟩ = some (.string (tx ts[j])) := by
  obtain ⟨b, c, rfl⟩ := own_some h hp
  have h4 := own_lt h
  refine ⟨b, c, rfl, h4.2.1, h4.2.2.1, h4.2.2.2, fun j hj => ?_⟩
  rw [own_cell h j hj, gv_lt (by rw [List.length_map]; exact hj)]
  simp
theorem okT_of {q : ByteArray} (h : asc10 q = true) : okT (bs q) ∧ (bs q).length ≤ 1000 := by
  have h2 := asc10_iff.1 h
  have h3 : q = tx (bs q) := (tx_bs q).symm
  have h4 := h2.1
  rw [h3] at h4
  exact ⟨⟨asc_tx h4, by rw [bs_len]; omega⟩, by rw [bs_len]; exact h2.2⟩
theorem insM_ok {l v : Bs} (h : okT l) (hv : okT v) (k : Nat) (hn : l.length + v.length ≤ 1000000) : okT (insM l k v) := ⟨fun c hc => by
  unfold insM at hc
  rcases List.mem_append.1 hc with h1 | h1
  · rcases List.mem_append.1 h1 with h2 | h2
    · exact (h.take k).a c h2
    · exact hv.a c h2
  · exact (h.drop k).a c h1, by unfold insM; simp; omega⟩
theorem delT_ins {l : Bs} {k : Nat} (hk : k ≤ l.length) (v : Bs) : delT (insM l k v) k v.length = l ∧ delR (insM l k v) k v.length = v := by
  unfold delT delR
  have hl := insM_len hk v
  by_cases h : k < (insM l k v).length
  · rw [if_pos h, if_pos h, insM_del hk, insM_drop hk]
    exact ⟨rfl, by simp⟩
  · rw [if_neg h, if_neg h]
    have hv : v = [] := List.eq_nil_of_length_eq_zero (by omega)
    subst hv
    exact ⟨by unfold insM; simp, rfl⟩
end Go.Proofs.YtleamondilmojaaDoor
