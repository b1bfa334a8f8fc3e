/- readline's RuneBuffer in memory. -/
import Derived.Test.YtlfmmmbafkelhaaDoorProg
import Derived.Test.YtlfmmmbafkelhaaDoorApp
import Derived.RegionTactic
import Derived.BigRegion
namespace Go.Proofs.YtlfmmmbafkelhaaDoor
open Go.RowKit
set_option linter.unusedVariables false
set_option linter.unusedSimpArgs false
set_option maxRecDepth 100000

/-- Blocks but p and b are kept. -/
structure Mod (p b : Nat) (w w' : World) : Prop where
  os : w'.os = w.os
  tape : w'.tape = w.tape
  output : w'.output = w.output
  size : w.heap.size ≤ w'.heap.size
  block : ∀ k, k < w.heap.size → k ≠ p → k ≠ b → w'.heap[k]? = w.heap[k]?
theorem Mod.refl (p b : Nat) (w : World) : Mod p b w w := ⟨rfl, rfl, rfl, Nat.le_refl _, fun _ _ _ _ => rfl⟩
theorem Mod.of_old {p b : Nat} {w w' : World} (h : Old w w') : Mod p b w w' := ⟨Below.os h, Below.tape h, Below.output h, Below.size h, fun k hk _ _ => Below.block h k hk⟩
theorem Mod.trans {p b b' : Nat} {u v w : World} (h : Mod p b u v) (k : Mod p b' v w) (hb : b' = b ∨ u.heap.size ≤ b') : Mod p b u w :=
  ⟨k.os.trans h.os, k.tape.trans h.tape, k.output.trans h.output, Nat.le_trans h.size k.size, fun i hi h1 h2 => (k.block i (Nat.lt_of_lt_of_le hi h.size) h1 (by omega)).trans (h.block i hi h1 h2)⟩
theorem Mod.cell {p b : Nat} {w w' : World} (h : Mod p b w w') {k o : Nat} (hk : k < w.heap.size) (h1 : k ≠ p) (h2 : k ≠ b) : w'.cell? ⟨k, o, none⟩ = w.cell? ⟨k, o, none⟩ := World.cell?_of_block (w := w) (a := ⟨k, o, none⟩) (h.block k hk h1 h2)
theorem Mod.frozen {p b : Nat} {w w' : World} (h : Mod p b w w') {k o : Nat} (hk : k < w.heap.size) (h1 : k ≠ p) (h2 : k ≠ b) : w'.frozen? ⟨k, o, none⟩ = w.frozen? ⟨k, o, none⟩ := World.frozen?_of_block (w := w) (a := ⟨k, o, none⟩) (h.block k hk h1 h2)
theorem Old.mod {p b : Nat} {u v w : World} (h : Old u v) (k : Mod p b v w) (hp : u.heap.size ≤ p) (hb : u.heap.size ≤ b) : Old u w :=
  ⟨k.os.trans (Below.os h), k.tape.trans (Below.tape h), k.output.trans (Below.output h), Nat.le_trans h.size k.size, fun i hi => (k.block i (Nat.lt_of_lt_of_le hi h.size) (by omega) (by omega)).trans (Below.block h i hi)⟩
theorem Mod.stored {p b : Nat} {u v : World} (h : Mod p b u v) (k o : Nat) (x : Value) (hk : k = p ∨ k = b ∨ u.heap.size ≤ k) : Mod p b u (v.setCell ⟨k, o, none⟩ x) :=
  ⟨h.os, h.tape, h.output, by simp [World.setCell]; exact h.size, fun i hi h1 h2 => (Below.heap_setCell v ⟨k, o, none⟩ x i (by simp; omega)).trans (h.block i hi h1 h2)⟩
theorem Mod.then_old {p b : Nat} {u v w : World} (h : Mod p b u v) (k : Old v w) : Mod p b u w := h.trans (Mod.of_old k) (Or.inl rfl)

/-- What a RuneBuffer holds: the line, the cursor, what was taken out last; t: a block that is none of its own. -/
structure St where
  l : List Int
  at_ : Nat
  kl : List Int
  t : Nat

/-- The kill buffer's value kv reads kl, away from blocks p and b. -/
def KillAt (w : World) (p b t : Nat) (kv : Value) (kl : List Int) : Prop :=
  (kv = .slice none 0 0 ∧ kl = []) ∨ ∃ kb kc, kv = .slice (some ⟨kb, 0, none⟩) kl.length kc ∧ kl.length ≤ kc ∧ kc ≤ maxLen ∧ kb < w.heap.size ∧ kb ≠ p ∧ kb ≠ b ∧ kb ≠ t ∧ ∀ j, j < kl.length → w.cell? ⟨kb, j, none⟩ = some (.int .i32 (gi kl j))
theorem KillAt.mod {p b t : Nat} {w w' : World} {kv : Value} {kl : List Int} (h : KillAt w p b t kv kl) (m : Mod p b w w') {b' : Nat} (hb : b' = b ∨ w.heap.size ≤ b') : KillAt w' p b' t kv kl := by
  rcases h with h | ⟨kb, kc, h1, h2, h3, h4, h5, h6, h8, h7⟩
  · exact .inl h
  · exact .inr ⟨kb, kc, h1, h2, h3, Nat.lt_of_lt_of_le h4 m.size, h5, by omega, h8, fun j hj => (m.cell h4 h5 h6).trans (h7 j hj)⟩

theorem cell_of_heap {w : World} {b : Nat} {C : Array Value} {t : TypeId} {fr : Nat × Nat} (h : w.heap[b]? = some (.cells C t fr)) (j : Nat) : w.cell? ⟨b, j, none⟩ = C[j]? := by
  unfold World.cell?; rw [h]; simp
theorem free_of_heap {w : World} {b : Nat} {C : Array Value} {t : TypeId} (h : w.heap[b]? = some (.cells C t)) (j : Nat) : w.frozen? ⟨b, j, none⟩ = false := by
  unfold World.frozen?; rw [h]; simp
theorem heap_setCell_at {w : World} {b j : Nat} {C : Array Value} {t : TypeId} {fr : Nat × Nat} (h : w.heap[b]? = some (.cells C t fr)) (v : Value) : (w.setCell ⟨b, j, none⟩ v).heap[b]? = some (.cells (C.setIfInBounds j v) t fr) := by
  unfold World.setCell; simp [Array.getElem?_modify, h]

/-- Block p is a RuneBuffer's struct: its line's slice, its cursor, the slice that was taken out last. -/
def PB (w : World) (p : Nat) (bv av kv : Value) : Prop :=
  ∃ pr h1 h2 h3 h4 wd bk of : Value, w.heap[p]? = some (.cells #[bv, av, pr, h1, h2, h3, h4, wd, bk, of, kv] 73)
section
variable {w w' : World} {p : Nat} {bv av kv : Value}
theorem PB.c0 (h : PB w p bv av kv) : w.cell? ⟨p, 0, none⟩ = some bv := by obtain ⟨_, _, _, _, _, _, _, _, h⟩ := h; exact cell_of_heap h 0
theorem PB.c1 (h : PB w p bv av kv) : w.cell? ⟨p, 1, none⟩ = some av := by obtain ⟨_, _, _, _, _, _, _, _, h⟩ := h; exact cell_of_heap h 1
theorem PB.c10 (h : PB w p bv av kv) : w.cell? ⟨p, 10, none⟩ = some kv := by obtain ⟨_, _, _, _, _, _, _, _, h⟩ := h; exact cell_of_heap h 10
theorem PB.free (h : PB w p bv av kv) (j : Nat) : w.frozen? ⟨p, j, none⟩ = false := by obtain ⟨_, _, _, _, _, _, _, _, h⟩ := h; exact free_of_heap h j
theorem PB.lt (h : PB w p bv av kv) : p < w.heap.size := by obtain ⟨_, _, _, _, _, _, _, _, h⟩ := h; exact (Array.getElem?_eq_some_iff.1 h).1
theorem PB.set0 (h : PB w p bv av kv) (x : Value) : PB (w.setCell ⟨p, 0, none⟩ x) p x av kv := by
  obtain ⟨a1, a2, a3, a4, a5, a6, a7, a8, h⟩ := h; exact ⟨a1, a2, a3, a4, a5, a6, a7, a8, by rw [heap_setCell_at h]; simp⟩
theorem PB.set1 (h : PB w p bv av kv) (x : Value) : PB (w.setCell ⟨p, 1, none⟩ x) p bv x kv := by
  obtain ⟨a1, a2, a3, a4, a5, a6, a7, a8, h⟩ := h; exact ⟨a1, a2, a3, a4, a5, a6, a7, a8, by rw [heap_setCell_at h]; simp⟩
theorem PB.set10 (h : PB w p bv av kv) (x : Value) : PB (w.setCell ⟨p, 10, none⟩ x) p bv av x := by
  obtain ⟨a1, a2, a3, a4, a5, a6, a7, a8, h⟩ := h; exact ⟨a1, a2, a3, a4, a5, a6, a7, a8, by rw [heap_setCell_at h]; simp⟩
theorem PB.heap (h : PB w p bv av kv) (e : w'.heap[p]? = w.heap[p]?) : PB w' p bv av kv := by
  obtain ⟨a1, a2, a3, a4, a5, a6, a7, a8, h⟩ := h; exact ⟨a1, a2, a3, a4, a5, a6, a7, a8, by rw [e]; exact h⟩
theorem PB.other (h : PB w p bv av kv) {b j : Nat} (hb : p ≠ b) (x : Value) : PB (w.setCell ⟨b, j, none⟩ x) p bv av kv := h.heap (Below.heap_setCell w ⟨b, j, none⟩ x p hb)
theorem PB.old (h : PB w p bv av kv) (o : Old w w') : PB w' p bv av kv := h.heap (o.heap h.lt)
end

/-- The line l lies in block b, as slice value bv. -/
def LB (w : World) (b c : Nat) (l : List Int) : Prop := w.ownsRow 0 21 1 (.slice (some ⟨b, 0, none⟩) l.length c) l.length (l.map (Value.int .i32))
theorem LB.heap {w w' : World} {b c : Nat} {l : List Int} (h : LB w b c l) (e : w'.heap[b]? = w.heap[b]?) : LB w' b c l := by
  refine ⟨h.1, ?_⟩
  rcases h.2 with ⟨hv, _⟩ | ⟨g, cap, cur, hv, h1, h2, h3⟩
  · cases hv
  · have hg : g = b := by injection hv with hv1; injection hv1 with hv1; injection hv1 with hv1; exact hv1.symm
    exact .inr ⟨g, cap, cur, hv, h1, by rw [hg, e, ← hg]; exact h2, h3⟩
theorem LB.lt {w : World} {b c : Nat} {l : List Int} (h : LB w b c l) : b < w.heap.size := (own_lt h).2.1
theorem LB.cap {w : World} {b c : Nat} {l : List Int} (h : LB w b c l) : l.length ≤ c ∧ c ≤ maxLen := (own_lt h).2.2
theorem LB.old {w w' : World} {b c : Nat} {l : List Int} (h : LB w b c l) (o : Old w w') : LB w' b c l := h.heap (o.heap h.lt)
theorem LB.other {w : World} {b c : Nat} {l : List Int} (h : LB w b c l) {k j : Nat} (hb : b ≠ k) (x : Value) : LB (w.setCell ⟨k, j, none⟩ x) b c l := h.heap (Below.heap_setCell w ⟨k, j, none⟩ x b hb)
theorem LB.cell {w : World} {b c : Nat} {l : List Int} (h : LB w b c l) (j : Nat) (hj : j < l.length) : w.cell? ⟨b, j, none⟩ = some (.int .i32 (gi l j)) := by
  rw [own_cell h j hj, gv_lt (by simpa using hj), gi_lt hj]; simp
theorem LB.take {w : World} {b c : Nat} {l : List Int} (h : LB w b c l) (n : Nat) (hn : n ≤ l.length) : LB w b c (l.take n) := by
  have hl : (l.take n).length = n := by simp; omega
  unfold LB
  refine ⟨by simp, ?_⟩
  rcases h.2 with ⟨hv, _⟩ | ⟨g, cap, cur, hv, h1, h2, h3, h4, h5, h6⟩
  · cases hv
  · injection hv with hv1 hv2 hv3
    refine .inr ⟨g, cap, cur, by rw [hv1, hv3], h1, h2, by omega, h4, h5, ?_⟩
    rw [hl, Nat.mul_one, List.map_take, ← h6, Nat.mul_one, List.take_take]
    congr 1; omega

theorem LB.front {w : World} {b c : Nat} {l : List Int} (h : LB w b c l) (n : Nat) (hn : n ≤ l.length) : w.ownsRow 0 21 1 (.slice (some ⟨b, 0, none⟩) n c) n ((l.take n).map (Value.int .i32)) := by
  have := h.take n hn
  have hl : (l.take n).length = n := by simp; omega
  unfold LB at this
  rwa [hl] at this

/-- Block p is a RuneBuffer whose line lies in block b. -/
def RB (w : World) (p b : Nat) (st : St) : Prop :=
  ∃ (c : Nat) (kv : Value), PB w p (.slice (some ⟨b, 0, none⟩) st.l.length c) (.int .i64 st.at_) kv ∧ LB w b c st.l ∧ st.at_ ≤ st.l.length ∧ st.l.length ≤ 1000 ∧ st.kl.length ≤ 1000 ∧ p ≠ b ∧ KillAt w p b st.t kv st.kl ∧ st.t < w.heap.size ∧ b ≠ st.t ∧ p ≠ st.t
theorem KillAt.old {w w' : World} {p b t : Nat} {kv : Value} {kl : List Int} (h : KillAt w p b t kv kl) (o : Old w w') : KillAt w' p b t kv kl := h.mod (Mod.of_old o) (Or.inl rfl)
theorem RB.old {w w' : World} {p b : Nat} {st : St} (h : RB w p b st) (o : Old w w') : RB w' p b st := by
  obtain ⟨c, kv, h1, h2, h3, h4, h5, h6, h7, h8, h9⟩ := h
  exact ⟨c, kv, h1.old o, h2.old o, h3, h4, h5, h6, h7.old o, Nat.lt_of_lt_of_le h8 o.size, h9⟩
theorem RB.set_at {w : World} {p b : Nat} {st : St} (h : RB w p b st) (a : Nat) (ha : a ≤ st.l.length) : RB (w.setCell ⟨p, 1, none⟩ (.int .i64 a)) p b { st with at_ := a } := by
  obtain ⟨c, kv, h1, h2, h3, h4, h5, h6, h7, h8, h9⟩ := h
  exact ⟨c, kv, h1.set1 _, h2.other (Ne.symm h6) _, ha, h4, h5, h6, h7.mod ((Mod.refl p b w).stored p 1 _ (Or.inl rfl)) (Or.inl rfl), by simp [World.setCell]; exact h8, h9⟩
theorem RB.lt {w : World} {p b : Nat} {st : St} (h : RB w p b st) : p < w.heap.size ∧ b < w.heap.size := by
  obtain ⟨c, kv, h1, h2, _⟩ := h; exact ⟨h1.lt, h2.lt⟩

/-- What a step leaves: a RuneBuffer of state st, in the old line's block or a new one; blocks but p and b are kept. -/
def Step (p b : Nat) (st : St) (w : World) (w' : World) : Prop := ∃ b', RB w' p b' st ∧ Mod p b w w' ∧ (b' = b ∨ w.heap.size ≤ b')

theorem Step.from_old {p b : Nat} {st : St} {w w1 w' : World} (o : Old w w1) (h : Step p b st w1 w') : Step p b st w w' := by
  obtain ⟨b', h1, h2, h3⟩ := h
  exact ⟨b', h1, (Mod.of_old o).trans h2 (Or.inl rfl), h3.imp id (fun h => Nat.le_trans o.size h)⟩
theorem Step.same {p b : Nat} {st st' : St} {w w' : World} (h : RB w p b st) (o : Old w w') (e : st' = st) : Step p b st' w w' := ⟨b, by rw [e]; exact h.old o, Mod.of_old o, Or.inl rfl⟩
theorem Step.at_ {p b : Nat} {st st' : St} {w w' : World} (h : RB w p b st) (o : Old w w') (a : Nat) (ha : a ≤ st.l.length) (e : st' = { st with at_ := a }) : Step p b st' w (w'.setCell ⟨p, 1, none⟩ (.int .i64 a)) :=
  ⟨b, by rw [e]; exact (h.old o).set_at a ha, (Mod.of_old o).stored p 1 _ (Or.inl rfl), Or.inl rfl⟩

/-- The variable v holds the RuneBuffer's pointer. -/
structure Var (w : World) (v p b : Nat) : Prop where
  cell : w.cell? ⟨v, 0, none⟩ = some (.pointer (some ⟨p, 0, none⟩))
  np : v ≠ p
  nb : v ≠ b

/-- Refresh does a step. -/
theorem refresh_any (K : FuncId) (caps : Array Value) (a : Value) (w : World) (R : World → Prop) (hk : ∀ W : World, (callFunc K caps).run Tryd.prog W = .ok (.enter K caps) W)
    (hf : Calls Tryd.prog K caps w fun e w' => e = .returned (.tuple #[]) ∧ R w') :
    Calls Tryd.prog 84 #[a, .func (.func K) #[] caps] w fun e w' => e = .returned (.tuple #[]) ∧ R w' := by
  have HF := Lib.hid hf
  have hnn : ∀ W : World, (binOp .neq 1 (.func (.func K) #[] caps) .nilFunc).run Tryd.prog W = .ok (.bool true) W := fun _ => by kernel_rfl
  clear hf
  go_enter Tryd.func84, Tryd.ntmps84
  go_wp2_with ((with_reducible refine HF.out.mono ?_); rintro e w1 ⟨rfl, hr⟩)
  go_end0
  exact ⟨rfl, hr⟩

/-- A method that boxes its receiver and refreshes a closure. -/
theorem RB.var {w : World} {p b : Nat} {st : St} (h : RB w p b st) : Var (w.alloc (.cells #[.pointer (some ⟨p, 0, none⟩)] 63)) w.heap.size p b := by
  have hl := h.lt
  exact ⟨(World.cell?_alloc_mark w #[.pointer (some ⟨p, 0, none⟩)] 63 (0, 0) 0).trans rfl, by omega, by omega⟩

end Go.Proofs.YtlfmmmbafkelhaaDoor
