/- goprompt's Buffer in memory, with the document that it keeps. -/
import Derived.Test.YtleamondilmojaaDoorProg
import Derived.Test.YtleamondilmojaaDoorBase
import Derived.Test.YtleamondilmojaaDoorApp
import Derived.Test.YtleamondilmojaaDoorDocP
import Derived.RegionTactic
import Derived.BigRegion
import Derived.Deep.RegionWith
namespace Go.Proofs.YtleamondilmojaaDoor
open Go.RowKit
set_option linter.unusedVariables false
set_option linter.unusedSimpArgs false
set_option linter.unnecessarySimpa false
set_option maxRecDepth 100000

/-- Blocks but p and q are kept. -/
structure Two (p q : Nat) (w w' : World) : Prop where
  os : w'.os = w.os
  tape : w'.tape = w.tape
  output : w'.output = w.output
  size : w.heap.size ≤ w'.heap.size
  block : ∀ k, k < w.heap.size → k ≠ p → k ≠ q → w'.heap[k]? = w.heap[k]?
theorem Two.refl (p q : Nat) (w : World) : Two p q w w := ⟨rfl, rfl, rfl, Nat.le_refl _, fun _ _ _ _ => rfl⟩
theorem Two.of_old {p q : Nat} {w w' : World} (h : Old w w') : Two p q w w' := ⟨Below.os h, Below.tape h, Below.output h, Below.size h, fun k hk _ _ => Below.block h k hk⟩
theorem Two.trans {p q : Nat} {u v w : World} (h : Two p q u v) (k : Two p q v w) : Two p q u w :=
  ⟨k.os.trans h.os, k.tape.trans h.tape, k.output.trans h.output, Nat.le_trans h.size k.size, fun i hi h1 h2 => (k.block i (Nat.lt_of_lt_of_le hi h.size) h1 h2).trans (h.block i hi h1 h2)⟩
theorem Two.stored {p q : Nat} {u v : World} (h : Two p q u v) (k o : Nat) (x : Value) (hk : k = p ∨ k = q) : Two p q u (v.setCell ⟨k, o, none⟩ x) :=
  ⟨h.os, h.tape, h.output, by simp [World.setCell]; exact h.size, fun i hi h1 h2 => (Below.heap_setCell v ⟨k, o, none⟩ x i (by simp; omega)).trans (h.block i hi h1 h2)⟩
theorem Two.old {p q : Nat} {u v w : World} (h : Two p q u v) (o : Old v w) : Two p q u w := h.trans (Two.of_old o)
theorem Old.two {p q : Nat} {u v w : World} (h : Old u v) (k : Two p q v w) (hp : u.heap.size ≤ p) (hq : u.heap.size ≤ q) : Old u w :=
  ⟨k.os.trans (Below.os h), k.tape.trans (Below.tape h), k.output.trans (Below.output h), Nat.le_trans h.size k.size, fun i hi => (k.block i (Nat.lt_of_lt_of_le hi h.size) (by omega) (by omega)).trans (Below.block h i hi)⟩
theorem Two.cell {p q b o : Nat} {w w' : World} (h : Two p q w w') (hb : b < w.heap.size) (h1 : b ≠ p) (h2 : b ≠ q) : w'.cell? ⟨b, o, none⟩ = w.cell? ⟨b, o, none⟩ :=
  World.cell?_of_block (w := w) (a := ⟨b, o, none⟩) (h.block b hb h1 h2)

theorem bcell {w : World} {b : Nat} {C : Array Value} {t : TypeId} {fr : Nat × Nat} (h : w.heap[b]? = some (.cells C t fr)) (j : Nat) : w.cell? ⟨b, j, none⟩ = C[j]? := by
  unfold World.cell?; rw [h]; simp
theorem bfree {w : World} {b : Nat} {C : Array Value} {t : TypeId} (h : w.heap[b]? = some (.cells C t)) (j : Nat) : w.frozen? ⟨b, j, none⟩ = false := by
  unfold World.frozen?; rw [h]; simp
theorem bset {w : World} {b j : Nat} {C : Array Value} {t : TypeId} {fr : Nat × Nat} (h : w.heap[b]? = some (.cells C t fr)) (v : Value) : (w.setCell ⟨b, j, none⟩ v).heap[b]? = some (.cells (C.setIfInBounds j v) t fr) := by
  unfold World.setCell; simp [Array.getElem?_modify, h]

/-- The document that a buffer keeps: none, or one elsewhere. -/
def CD (w : World) (bp lb : Nat) (dv : Value) : Prop :=
  dv = .pointer none ∨ ∃ dp s c, dv = .pointer (some ⟨dp, 0, none⟩) ∧ dp ≠ bp ∧ dp ≠ lb ∧ w.heap[dp]? = some (.cells #[.string s, .int .i64 c] 86)
theorem CD.two {w w' : World} {bp lb : Nat} {dv : Value} (h : CD w bp lb dv) (t : Two bp lb w w') : CD w' bp lb dv := by
  rcases h with h | ⟨dp, s, c, h1, h2, h3, h4⟩
  · exact .inl h
  · exact .inr ⟨dp, s, c, h1, h2, h3, (t.block dp (Array.getElem?_eq_some_iff.1 h4).1 h2 h3).trans h4⟩
/-- Block bp is a Buffer whose one line, in block lb, is l; the cursor; the column; the document. -/
structure B9 (w : World) (bp lb : Nat) (l : Bs) (k : Nat) (pc : Int) (dv : Value) : Prop where
  b : w.heap[bp]? = some (.cells #[.slice (some ⟨lb, 0, none⟩) 1 1, .int .i64 0, .int .i64 k, dv, .int .i64 pc] 99)
  t : w.heap[lb]? = some (.cells #[.string (tx l)] 9)
  ne : lb ≠ bp
  cd : CD w bp lb dv
section
variable {w w' : World} {bp lb : Nat} {l : Bs} {k : Nat} {pc : Int} {dv : Value}
theorem B9.c0 (h : B9 w bp lb l k pc dv) : w.cell? ⟨bp, 0, none⟩ = some (.slice (some ⟨lb, 0, none⟩) 1 1) := bcell h.b 0
theorem B9.c1 (h : B9 w bp lb l k pc dv) : w.cell? ⟨bp, 1, none⟩ = some (.int .i64 0) := bcell h.b 1
theorem B9.c2 (h : B9 w bp lb l k pc dv) : w.cell? ⟨bp, 2, none⟩ = some (.int .i64 k) := bcell h.b 2
theorem B9.c3 (h : B9 w bp lb l k pc dv) : w.cell? ⟨bp, 3, none⟩ = some dv := bcell h.b 3
theorem B9.c4 (h : B9 w bp lb l k pc dv) : w.cell? ⟨bp, 4, none⟩ = some (.int .i64 pc) := bcell h.b 4
theorem B9.l0 (h : B9 w bp lb l k pc dv) : w.cell? ⟨lb, 0, none⟩ = some (.string (tx l)) := bcell h.t 0
theorem B9.free (h : B9 w bp lb l k pc dv) (j : Nat) : w.frozen? ⟨bp, j, none⟩ = false := bfree h.b j
theorem B9.lfree (h : B9 w bp lb l k pc dv) (j : Nat) : w.frozen? ⟨lb, j, none⟩ = false := bfree h.t j
theorem B9.lt (h : B9 w bp lb l k pc dv) : bp < w.heap.size ∧ lb < w.heap.size := ⟨(Array.getElem?_eq_some_iff.1 h.b).1, (Array.getElem?_eq_some_iff.1 h.t).1⟩
theorem B9.old (h : B9 w bp lb l k pc dv) (o : Old w w') : B9 w' bp lb l k pc dv :=
  ⟨(o.heap h.lt.1).trans h.b, (o.heap h.lt.2).trans h.t, h.ne, h.cd.two (Two.of_old o)⟩
theorem B9.setL (h : B9 w bp lb l k pc dv) (v : Bs) : B9 (w.setCell ⟨lb, 0, none⟩ (.string (tx v))) bp lb v k pc dv :=
  ⟨(Below.heap_setCell w ⟨lb, 0, none⟩ _ bp (by have := h.ne; simp; omega)).trans h.b, by rw [bset h.t]; simp, h.ne, h.cd.two ((Two.refl _ _ _).stored lb 0 _ (Or.inr rfl))⟩
theorem B9.setC (h : B9 w bp lb l k pc dv) (x : Nat) : B9 (w.setCell ⟨bp, 2, none⟩ (.int .i64 x)) bp lb l x pc dv :=
  ⟨by rw [bset h.b]; simp, (Below.heap_setCell w ⟨bp, 2, none⟩ _ lb (by have := h.ne; simp; omega)).trans h.t, h.ne, h.cd.two ((Two.refl _ _ _).stored bp 2 _ (Or.inl rfl))⟩
theorem B9.setP (h : B9 w bp lb l k pc dv) (x : Int) : B9 (w.setCell ⟨bp, 4, none⟩ (.int .i64 x)) bp lb l k x dv :=
  ⟨by rw [bset h.b]; simp, (Below.heap_setCell w ⟨bp, 4, none⟩ _ lb (by have := h.ne; simp; omega)).trans h.t, h.ne, h.cd.two ((Two.refl _ _ _).stored bp 4 _ (Or.inl rfl))⟩
theorem B9.setD (h : B9 w bp lb l k pc dv) (x : Value) (hx : CD w bp lb x) : B9 (w.setCell ⟨bp, 3, none⟩ x) bp lb l k pc x :=
  ⟨by rw [bset h.b]; simp, (Below.heap_setCell w ⟨bp, 3, none⟩ _ lb (by have := h.ne; simp; omega)).trans h.t, h.ne, hx.two ((Two.refl _ _ _).stored bp 3 _ (Or.inl rfl))⟩
theorem B9.two (h : B9 w bp lb l k pc dv) {p q : Nat} (t : Two p q w w') (h1 : bp ≠ p) (h2 : bp ≠ q) (h3 : lb ≠ p) (h4 : lb ≠ q) (hd : ∀ dp, dv = .pointer (some ⟨dp, 0, none⟩) → dp ≠ p ∧ dp ≠ q) : B9 w' bp lb l k pc dv := by
  refine ⟨(t.block _ h.lt.1 h1 h2).trans h.b, (t.block _ h.lt.2 h3 h4).trans h.t, h.ne, ?_⟩
  rcases h.cd with e | ⟨dp, s, c, e1, e2, e3, e4⟩
  · exact .inl e
  · obtain ⟨g1, g2⟩ := hd dp e1
    exact .inr ⟨dp, s, c, e1, e2, e3, (t.block dp (Array.getElem?_eq_some_iff.1 e4).1 g1 g2).trans e4⟩
end
def BE (w : World) (bp lb : Nat) (l : Bs) (k : Nat) (pc : Int) : Prop := ∃ dv, B9 w bp lb l k pc dv
theorem BE.old {w w' : World} {bp lb : Nat} {l : Bs} {k : Nat} {pc : Int} (h : BE w bp lb l k pc) (o : Old w w') : BE w' bp lb l k pc := h.imp fun _ x => x.old o

theorem newBuf_any (w : World) : Calls Tryd.prog 64 #[] w fun e w' => e = .returned (.pointer (some ⟨w.heap.size + 1, 0, none⟩)) ∧ Old w w' ∧ B9 w' (w.heap.size + 1) w.heap.size [] 0 (-1) (.pointer none) ∧ w'.heap.size = w.heap.size + 2 := by
  go_enter Tryd.func64, Tryd.ntmps64
  go_wp2_with fail
  go_ret
  have h1 : (w.alloc (.cells #[.string ⟨#[]⟩] 9)).heap.size = w.heap.size + 1 := by simp
  have h2 := heap_alloc_new (w.alloc (.cells #[.string ⟨#[]⟩] 9)) (.cells #[.slice (some ⟨w.heap.size, 0, none⟩) 1 1, .int .i64 0, .int .i64 0, .pointer none, .int .i64 (-1)] 99)
  rw [h1] at h2
  exact ⟨rfl, (Old.alloc _ _).then_alloc _, ⟨h2, (heap_alloc_old _ _ (by omega)).trans (heap_alloc_new w _), by omega, .inl rfl⟩, by simp⟩
theorem text_any (bp lb : Nat) (l : Bs) (k : Nat) (pc : Int) (dv : Value) (w : World) (h : B9 w bp lb l k pc dv) : Calls Tryd.prog 62 #[.pointer (some ⟨bp, 0, none⟩)] w fun e w' => e = .returned (.string (tx l)) ∧ ∃ n, w' = w.drewN n := by
  have c0 := h.c0
  have c1 := h.c1
  have l0 := h.l0
  clear h
  go_enter Tryd.func62, Tryd.ntmps62
  go_wp2_with fail
  go_quiet (fail)
  go_wp2_with fail
  go_ret
  exact ⟨rfl, nq, rfl⟩
theorem at_any (bp lb : Nat) (l : Bs) (k : Nat) (pc : Int) (dv : Value) (w : World) (h : B9 w bp lb l k pc dv) : Calls Tryd.prog 63 #[.pointer (some ⟨bp, 0, none⟩)] w fun e w' => e = .returned (.int .i64 k) ∧ w' = w := by
  have c2 := h.c2
  clear h
  go_enter Tryd.func63, Tryd.ntmps63
  go_wp2_with fail
  go_ret
  exact ⟨rfl, rfl⟩
theorem setText_any (bp lb : Nat) (l v : Bs) (k : Nat) (pc : Int) (dv : Value) (w : World) (h : B9 w bp lb l k pc dv) : Calls Tryd.prog 93 #[.pointer (some ⟨bp, 0, none⟩), .string (tx v)] w fun e w' => e = .returned (.tuple #[]) ∧ B9 w' bp lb v k pc dv ∧ Two bp lb w w' := by
  have H := Lib.hid h
  have c0 := h.c0
  have c1 := h.c1
  have l0 := h.l0
  have f0 := h.lfree 0
  clear h
  go_enter Tryd.func93, Tryd.ntmps93
  go_wp2_with fail
  go_region
  go_wp2_with fail
  go_end0
  exact ⟨rfl, (H.out.old (Old.drew w)).setL v, (Two.of_old (Old.drew w)).stored lb 0 _ (Or.inr rfl)⟩
theorem setCur_any (bp lb : Nat) (l : Bs) (j k : Nat) (pc : Int) (dv : Value) (w : World) (h : B9 w bp lb l j pc dv) : Calls Tryd.prog 92 #[.pointer (some ⟨bp, 0, none⟩), .int .i64 k] w fun e w' => e = .returned (.tuple #[]) ∧ B9 w' bp lb l k pc dv ∧ Two bp lb w w' := by
  have H := Lib.hid h
  have c2 := h.c2
  have f2 := h.free 2
  clear h
  by_cases hk : 0 < k
  · go_enter Tryd.func92, Tryd.ntmps92
    go_wp2_with fail
    go_end0
    exact ⟨rfl, H.out.setC k, (Two.refl _ _ _).stored bp 2 _ (Or.inl rfl)⟩
  · obtain rfl : k = 0 := by omega
    go_enter Tryd.func92, Tryd.ntmps92
    go_wp2_with fail
    go_end0
    exact ⟨rfl, H.out.setC 0, (Two.refl _ _ _).stored bp 2 _ (Or.inl rfl)⟩
theorem docAt_any (s : ByteArray) (k : Int) (w : World) : Calls Tryd.prog 58 #[.string s, .int .i64 k] w fun e w' => e = .returned (.pointer (some ⟨w.heap.size, 0, none⟩)) ∧ Old w w' ∧ w.heap.size < w'.heap.size ∧
    w'.heap[w.heap.size]? = some (.cells #[.string s, .int .i64 k] 86) := by
  go_enter Tryd.func58, Tryd.ntmps58
  go_wp2_with fail
  go_ret
  have hz := heap_alloc_new w (.cells #[.string s, .int .i64 k] 86)
  exact ⟨rfl, Old.alloc _ _, by simp, hz⟩
theorem setDoc_any (bp lb dp : Nat) (l v : Bs) (j k : Nat) (pc : Int) (dv : Value) (w : World) (h : B9 w bp lb l j pc dv) (dh : w.heap[dp]? = some (.cells #[.string (tx v), .int .i64 k] 86)) (hd1 : dp ≠ bp) (hd2 : dp ≠ lb) :
    Calls Tryd.prog 65 #[.pointer (some ⟨bp, 0, none⟩), .pointer (some ⟨dp, 0, none⟩)] w fun e w' => e = .returned (.tuple #[]) ∧ B9 w' bp lb v k pc (.pointer (some ⟨dp, 0, none⟩)) ∧ Two bp lb w w' := by
  have H := Lib.hid h
  have c3 := h.c3
  have f3 := h.free 3
  have d0 : w.cell? ⟨dp, 0, none⟩ = some (.string (tx v)) := (bcell dh 0).trans rfl
  have d1 : w.cell? ⟨dp, 1, none⟩ = some (.int .i64 k) := (bcell dh 1).trans rfl
  have hdl := World.block_lt_of_cell? w _ d0
  have H2 := Lib.hid (h.setD (.pointer (some ⟨dp, 0, none⟩)) (.inr ⟨dp, _, _, rfl, hd1, hd2, dh⟩))
  clear dh
  have T2 : Hid (Two bp lb w (w.setCell ⟨bp, 3, none⟩ (.pointer (some ⟨dp, 0, none⟩)))) := (Two.refl _ _ _).stored bp 3 _ (Or.inl rfl)
  have fk : ∀ w' j, Two bp lb w w' → w'.cell? ⟨dp, j, none⟩ = w.cell? ⟨dp, j, none⟩ := fun w' j ht => ht.cell hdl hd1 hd2
  have e1 : (w.setCell ⟨bp, 3, none⟩ (.pointer (some ⟨dp, 0, none⟩))).cell? ⟨dp, 1, none⟩ = some (.int .i64 k) := (fk _ 1 T2.out).trans d1
  have FK := Lib.hid fk
  have D0 := Lib.hid d0
  clear h fk d0
  go_enter Tryd.func65, Tryd.ntmps65
  go_wp2_with (first
    | (go_at_call 92; refine (setCur_any bp lb l j k pc _ _ H2.out).mono ?_; rintro e w2 ⟨rfl, h2, t2⟩; have H3 := Lib.hid h2; have T3 := Lib.hid (T2.out.trans t2); have e0 := (FK.out _ 0 T3.out).trans D0.out; clear h2 t2)
    | (go_at_call 93; refine (setText_any bp lb l v k pc _ _ H3.out).mono ?_; rintro e w3 ⟨rfl, h3, t3⟩; have H4 := Lib.hid h3; have T4 := Lib.hid (T3.out.trans t3); clear h3 t3))
  go_end0
  exact ⟨rfl, H4.out, T4.out⟩
theorem bufAt_any (v : Bs) (k : Nat) (w : World) : Calls Tryd.prog 34 #[.string (tx v), .int .i64 k] w fun e w' => ∃ bp lb dv, e = .returned (.pointer (some ⟨bp, 0, none⟩)) ∧ Old w w' ∧ w.heap.size ≤ bp ∧ w.heap.size ≤ lb ∧ B9 w' bp lb v k (-1) dv := by
  go_enter Tryd.func34, Tryd.ntmps34
  go_wp2_with (first
    | (go_at_call 64; refine (newBuf_any w).mono ?_; rintro e w1 ⟨rfl, o1, b1, s1⟩; have O1 := Lib.hid o1; have B1 := Lib.hid b1; have S1 := Lib.hid s1; clear o1 b1 s1)
    | (go_at_call 58; refine (docAt_any (tx v) k w1).mono ?_; rintro e w2 ⟨rfl, o2, l2, d0⟩; have O2 := Lib.hid o2; have D0 := Lib.hid d0; clear o2 d0)
    | (go_at_call 65; refine (setDoc_any (w.heap.size + 1) w.heap.size w1.heap.size [] v 0 k (-1) _ w2 (B1.out.old O2.out) D0.out (by have := S1.out; omega) (by have := S1.out; omega)).mono ?_; rintro e w3 ⟨rfl, h3, t3⟩; have H3 := Lib.hid h3; have T3 := Lib.hid t3; clear h3 t3))
  go_ret
  exact ⟨_, _, _, rfl, (O1.out.trans O2.out).two T3.out (by omega) (Nat.le_refl _), by omega, Nat.le_refl _, H3.out⟩
end Go.Proofs.YtleamondilmojaaDoor
