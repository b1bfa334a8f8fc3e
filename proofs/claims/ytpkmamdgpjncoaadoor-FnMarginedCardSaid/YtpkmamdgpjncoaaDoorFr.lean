/- Worlds that keep all blocks but some; rows that stay where they are or go to a new block; a buffer within a block. -/
import Derived.Test.YtpkmamdgpjncoaaDoorBase
import Derived.Test.YtpkmamdgpjncoaaDoorApp
import Derived.Lib.BufferAt
namespace Go.Proofs.YtpkmamdgpjncoaaDoor
open Go.RowKit
set_option linter.unusedVariables false
set_option linter.unusedSimpArgs false
set_option linter.unnecessarySimpa false
set_option maxRecDepth 100000

/-- All blocks but those of S are kept. -/
structure Fr (S : List (Option Nat)) (w w' : World) : Prop where
  os : w'.os = w.os
  tape : w'.tape = w.tape
  output : w'.output = w.output
  size : w.heap.size ≤ w'.heap.size
  block : ∀ k, k < w.heap.size → some k ∉ S → w'.heap[k]? = w.heap[k]?
theorem Fr.refl (S : List (Option Nat)) (w : World) : Fr S w w := ⟨rfl, rfl, rfl, Nat.le_refl _, fun _ _ _ => rfl⟩
theorem Fr.of_old {S : List (Option Nat)} {w w' : World} (h : Old w w') : Fr S w w' := ⟨Below.os h, Below.tape h, Below.output h, Below.size h, fun k hk _ => Below.block h k hk⟩
theorem Fr.mono {S S' : List (Option Nat)} {w w' : World} (h : Fr S w w') (hs : ∀ i, i < w.heap.size → some i ∈ S → some i ∈ S') : Fr S' w w' := ⟨h.os, h.tape, h.output, h.size, fun k hk hn => h.block k hk (fun e => hn (hs k hk e))⟩
theorem Fr.trans {S S' : List (Option Nat)} {u v w : World} (h : Fr S u v) (k : Fr S' v w) (hs : ∀ i, i < u.heap.size → some i ∈ S' → some i ∈ S) : Fr S u w :=
  ⟨k.os.trans h.os, k.tape.trans h.tape, k.output.trans h.output, Nat.le_trans h.size k.size, fun i hi hn => (k.block i (Nat.lt_of_lt_of_le hi h.size) (fun e => hn (hs i hi e))).trans (h.block i hi hn)⟩
theorem Fr.set {S : List (Option Nat)} (w : World) (k o : Nat) (v : Value) (hk : some k ∈ S) : Fr S w (w.setCell ⟨k, o, none⟩ v) :=
  ⟨rfl, rfl, rfl, by simp [World.setCell], fun i hi hn => Below.heap_setCell w ⟨k, o, none⟩ v i (fun e => hn (by rw [e]; exact hk))⟩
theorem Fr.then_set {S : List (Option Nat)} {u w : World} (h : Fr S u w) (k o : Nat) (v : Value) (hk : some k ∈ S) : Fr S u (w.setCell ⟨k, o, none⟩ v) := h.trans (Fr.set w k o v hk) (fun _ _ e => e)
theorem Fr.then_old {S : List (Option Nat)} {u v w : World} (h : Fr S u v) (k : Old v w) : Fr S u w := h.trans (Fr.of_old (S := S) k) (fun _ _ e => e)
theorem Fr.after_old {S : List (Option Nat)} {u v w : World} (h : Old u v) (k : Fr S v w) : Fr S u w := (Fr.of_old (S := S) h).trans k (fun _ _ e => e)
theorem Fr.cell {S : List (Option Nat)} {w w' : World} (h : Fr S w w') {k o : Nat} (hk : k < w.heap.size) (hn : some k ∉ S) : w'.cell? ⟨k, o, none⟩ = w.cell? ⟨k, o, none⟩ := World.cell?_of_block (w := w) (a := ⟨k, o, none⟩) (h.block k hk hn)
/-- What was there when u was stays, where all of S came later. -/
theorem Old.then_fr {S : List (Option Nat)} {u v w : World} (h : Old u v) (k : Fr S v w) (hs : ∀ i, some i ∈ S → u.heap.size ≤ i) : Old u w :=
  ⟨k.os.trans (Below.os h), k.tape.trans (Below.tape h), k.output.trans (Below.output h), Nat.le_trans h.size k.size, fun i hi => (k.block i (Nat.lt_of_lt_of_le hi h.size) (fun e => absurd (hs i e) (by omega))).trans (Below.block h i hi)⟩

/-- The row of v is that of u, or a new one. -/
def Nx (w : World) (v v' : Value) : Prop := v'.ownBlock = v.ownBlock ∨ ∃ N, w.heap.size ≤ N ∧ v'.ownBlock = some N
theorem Nx.refl (w : World) (v : Value) : Nx w v v := .inl rfl
theorem Nx.trans {u w : World} {a b c : Value} (h : Nx u a b) (k : Nx w b c) (hs : u.heap.size ≤ w.heap.size) : Nx u a c := by
  rcases k with k | ⟨N, hN, k⟩
  · rcases h with h | ⟨M, hM, h⟩
    · exact .inl (k.trans h)
    · exact .inr ⟨M, hM, k.trans h⟩
  · exact .inr ⟨N, Nat.le_trans hs hN, k⟩
theorem Nx.old {u w : World} {a b : Value} (h : Nx w a b) (hs : u.heap.size ≤ w.heap.size) : Nx u a b := (Nx.refl u a).trans h hs
theorem Nx.ne {w : World} {v v' : Value} (h : Nx w v v') {k : Nat} (hk : k < w.heap.size) (hv : v.ownBlock ≠ some k) : v'.ownBlock ≠ some k := by
  rcases h with h | ⟨N, hN, h⟩
  · rw [h]; exact hv
  · rw [h]; intro e; injection e with e; omega
/-- An old block that is v's new row's is that of its old one. -/
theorem Nx.back {w : World} {v v' : Value} (h : Nx w v v') {k : Nat} (hk : k < w.heap.size) (e : some k = v'.ownBlock) : some k = v.ownBlock := by
  rcases h with h | ⟨N, hN, h⟩
  · exact e.trans h
  · rw [h] at e; injection e with e; omega

/-- Where three cells of a struct's lie: the row of bytes, 0, and what was read last. -/
structure Ctx (K : Value → Int → Array Value) (o : Nat) : Prop where
  c0 : ∀ v l, (K v l)[o]? = some v
  c1 : ∀ v l, (K v l)[o + 1]? = some (.int .i64 0)
  c2 : ∀ v l, (K v l)[o + 2]? = some (.int .i8 l)
  s0 : ∀ v l v', (K v l).setIfInBounds o v' = K v' l
  s1 : ∀ v l, (K v l).setIfInBounds (o + 1) (.int .i64 0) = K v l
  s2 : ∀ v l l', (K v l).setIfInBounds (o + 2) (.int .i8 l') = K v l'
/-- The bytes of a text as values. -/
def byV (l : List UInt8) : List Value := l.map fun c => Value.int .u8 c.toNat
theorem byV_len (l : List UInt8) : (byV l).length = l.length := by simp [byV]
theorem byV_app (a b : List UInt8) : byV (a ++ b) = byV a ++ byV b := by simp [byV]
theorem byV_one (l : List UInt8) : ∀ v ∈ byV l, v.oneCell' = true := by
  intro v hv
  obtain ⟨c, _, rfl⟩ := List.mem_map.1 hv
  rfl
theorem byV_get {l : List UInt8} {j : Nat} {v : Value} (h : (byV l)[j]? = some v) : ∃ hj : j < l.length, v = .int .u8 l[j].toNat := by
  have hj : j < l.length := by have := (List.getElem?_eq_some_iff.1 h).1; rwa [byV_len] at this
  refine ⟨hj, ?_⟩
  unfold byV at h
  rw [List.getElem?_map, List.getElem?_eq_getElem hj] at h
  simpa using h.symm
/-- A buffer at cell o of block b (whose cells are K's, of type T), with the row v, which holds the bytes l. -/
structure BB (w : World) (b o : Nat) (T : TypeId) (K : Value → Int → Array Value) (B : Nat) (v : Value) (l : List UInt8) : Prop where
  ctx : Ctx K o
  cells : ∃ lr, w.heap[b]? = some (.cells (K v lr) T)
  own : w.ownsRow B 5 1 v l.length (byV l)
  ne : v.ownBlock ≠ some b
section
variable {w w' : World} {b o : Nat} {T : TypeId} {K : Value → Int → Array Value} {B : Nat} {v : Value} {l : List UInt8}
theorem fcell {w : World} {b : Nat} {C : Array Value} {t : TypeId} {fr : Nat × Nat} (h : w.heap[b]? = some (.cells C t fr)) (j : Nat) : w.cell? ⟨b, j, none⟩ = C[j]? := by
  unfold World.cell?; rw [h]; simp
theorem ffree {w : World} {b : Nat} {C : Array Value} {t : TypeId} (h : w.heap[b]? = some (.cells C t)) (j : Nat) : w.frozen? ⟨b, j, none⟩ = false := by
  unfold World.frozen?; rw [h]; simp
theorem fset {w : World} {b j : Nat} {C : Array Value} {t : TypeId} {fr : Nat × Nat} (h : w.heap[b]? = some (.cells C t fr)) (v : Value) : (w.setCell ⟨b, j, none⟩ v).heap[b]? = some (.cells (C.setIfInBounds j v) t fr) := by
  unfold World.setCell; simp [Array.getElem?_modify, h]
theorem flt {w : World} {b : Nat} {x : Obj} (h : w.heap[b]? = some x) : b < w.heap.size := (Array.getElem?_eq_some_iff.1 h).1
theorem BB.lt (h : BB w b o T K B v l) : b < w.heap.size := by obtain ⟨lr, h⟩ := h.cells; exact flt h
theorem BB.c0 (h : BB w b o T K B v l) : w.cell? ⟨b, o, none⟩ = some v := by obtain ⟨lr, hc⟩ := h.cells; exact (fcell hc o).trans (h.ctx.c0 _ _)
theorem BB.c1 (h : BB w b o T K B v l) : w.cell? ⟨b, o + 1, none⟩ = some (.int .i64 0) := by obtain ⟨lr, hc⟩ := h.cells; exact (fcell hc _).trans (h.ctx.c1 _ _)
theorem BB.c2 (h : BB w b o T K B v l) : ∃ lr, w.cell? ⟨b, o + 2, none⟩ = some (.int .i8 lr) := by obtain ⟨lr, hc⟩ := h.cells; exact ⟨lr, (fcell hc _).trans (h.ctx.c2 _ _)⟩
theorem BB.free (h : BB w b o T K B v l) (j : Nat) : w.frozen? ⟨b, j, none⟩ = false := by obtain ⟨lr, hc⟩ := h.cells; exact ffree hc j
theorem fown_lt {e : TypeId} {n : Nat} {xs : List Value} (h : w.ownsRow B e 1 v n xs) {g : Nat} (hg : v.ownBlock = some g) : B ≤ g ∧ g < w.heap.size := h.lt g hg
theorem fown_same {e : TypeId} {n : Nat} {xs : List Value} (h : w.ownsRow B e 1 v n xs) (hk : ∀ g, v.ownBlock = some g → w'.heap[g]? = w.heap[g]?) : w'.ownsRow B e 1 v n xs := by
  refine ⟨h.1, ?_⟩
  rcases h.2 with h | ⟨g, cap, cur, rfl, h1, h2, h3⟩
  · exact .inl h
  · exact .inr ⟨g, cap, cur, rfl, h1, (hk g rfl).trans h2, h3⟩
/-- A buffer stays where neither its block nor its row turns. -/
theorem BB.fr {S : List (Option Nat)} (h : BB w b o T K B v l) (f : Fr S w w') (h1 : some b ∉ S) (h2 : ∀ g, v.ownBlock = some g → some g ∉ S) : BB w' b o T K B v l := by
  obtain ⟨lr, hc⟩ := h.cells
  exact ⟨h.ctx, ⟨lr, (f.block b (flt hc) h1).trans hc⟩, fown_same h.own (fun g hg => f.block g (fown_lt h.own hg).2 (h2 g hg)), h.ne⟩
theorem BB.old (h : BB w b o T K B v l) (f : Old w w') : BB w' b o T K B v l := h.fr (S := []) (Fr.of_old f) (by simp) (fun _ _ => by simp)
theorem own_mk {e : TypeId} {g n cap : Nat} {cur : Array Value} {xs : List Value} (hB : B ≤ g) (hg : w.heap[g]? = some (.cells cur e)) (hn : n ≤ cap) (hm : cap ≤ maxLen) (hs : cur.size = cap) (hx : cur.toList.take n = xs) :
    w.ownsRow B e 1 (.slice (some ⟨g, 0, none⟩) n cap) n xs := by
  have hl : xs.length = n := by rw [← hx, List.length_take, Array.length_toList]; omega
  exact ⟨by rw [hl, Nat.mul_one], .inr ⟨g, cap, cur, rfl, hB, hg, hn, hm, by rw [Nat.mul_one]; exact hs, by rw [Nat.mul_one]; exact hx⟩⟩
/-- A row is none, or lies in a block of its own. -/
theorem own_two {e : TypeId} {n : Nat} {xs : List Value} (h : w.ownsRow B e 1 v n xs) : (v = .slice none 0 0 ∧ xs = [] ∧ n = 0) ∨ ∃ g cap cur, v = .slice (some ⟨g, 0, none⟩) n cap ∧ B ≤ g ∧ w.heap[g]? = some (.cells cur e) ∧ n ≤ cap ∧ cap ≤ maxLen ∧ cur.size = cap ∧ cur.toList.take n = xs := by
  rcases h.2 with ⟨h1, h2⟩ | ⟨g, cap, cur, hv, h1, h2, h3, h4, h5, h6⟩
  · left
    have := h.1
    refine ⟨h1, ?_, h2⟩
    exact List.eq_nil_of_length_eq_zero (by rw [h2] at this; simpa using this)
  · exact .inr ⟨g, cap, cur, hv, h1, h2, h3, h4, by simpa using h5, by simpa using h6⟩
end
end Go.Proofs.YtpkmamdgpjncoaaDoor
