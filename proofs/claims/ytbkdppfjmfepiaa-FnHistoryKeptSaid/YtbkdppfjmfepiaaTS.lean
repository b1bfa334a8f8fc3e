/- The world within a run of turns. -/
import Derived.Test.YtbkdppfjmfepiaaHist
import Derived.Test.YtbkdppfjmfepiaaTurnM
namespace Go.Proofs.Ytbkdppfjmfepiaa
open Go.RowKit
set_option linter.unusedVariables false
set_option linter.unusedSimpArgs false
set_option linter.unnecessarySimpa false
set_option maxRecDepth 100000

section
variable {w w' : World} {hp kb base hb kc hc : Nat} {Hs Ks : List ByteArray} {at_ : Int}
theorem HB.lt (h : HB w hp kb base (.slice (some ⟨hb, 0, none⟩) Hs.length hc) kc Hs Ks at_) : hp < w.heap.size ∧ kb < w.heap.size ∧ hb < w.heap.size :=
  ⟨(Array.getElem?_eq_some_iff.1 h.1).1, (own_inside h.2.2.1 kb rfl).2, (own_inside h.2.1 hb rfl).2⟩
theorem HB.keep (h : HB w hp kb base (.slice (some ⟨hb, 0, none⟩) Hs.length hc) kc Hs Ks at_) (h1 : w'.heap[hp]? = w.heap[hp]?) (h2 : w'.heap[kb]? = w.heap[kb]?) (h3 : w'.heap[hb]? = w.heap[hb]?) :
    HB w' hp kb base (.slice (some ⟨hb, 0, none⟩) Hs.length hc) kc Hs Ks at_ := by
  obtain ⟨a1, a2, a3, a4⟩ := h
  refine ⟨h1.trans a1, own_keep a2 (fun g hg _ => ?_), own_keep a3 (fun g hg _ => ?_), a4⟩
  · obtain rfl : hb = g := by simpa [Value.ownBlock] using hg
    exact h3
  · obtain rfl : kb = g := by simpa [Value.ownBlock] using hg
    exact h2
theorem HB.old (h : HB w hp kb base (.slice (some ⟨hb, 0, none⟩) Hs.length hc) kc Hs Ks at_) (o : Old w w') : HB w' hp kb base (.slice (some ⟨hb, 0, none⟩) Hs.length hc) kc Hs Ks at_ :=
  h.keep (o.heap h.lt.1) (o.heap h.lt.2.1) (o.heap h.lt.2.2)
theorem HB.grown {r : Option Nat} (h : HB w hp kb base (.slice (some ⟨hb, 0, none⟩) Hs.length hc) kc Hs Ks at_) (g : w.grownBy w' r) (h1 : r ≠ some hp) (h2 : r ≠ some kb) (h3 : r ≠ some hb) : HB w' hp kb base (.slice (some ⟨hb, 0, none⟩) Hs.length hc) kc Hs Ks at_ :=
  h.keep (g.block _ h.lt.1 (fun e => h1 e.symm)) (g.block _ h.lt.2.1 (fun e => h2 e.symm)) (g.block _ h.lt.2.2 (fun e => h3 e.symm))
end

/-- The history, the texts that were told, whether it changed; each in rows of its own. -/
structure TS (w : World) (hp kb hb base kc hc : Nat) (m : HM) (tv cv : Value) (ts : List ByteArray) (bs : List Bool) : Prop where
  h : HB w hp kb base (.slice (some ⟨hb, 0, none⟩) m.hs.length hc) kc m.hs m.ks m.at_
  t : w.ownsRow base 9 1 tv ts.length (ts.map Value.string)
  c : w.ownsRow base 4 1 cv bs.length (bs.map Value.bool)
  t1 : tv.ownBlock ≠ some hp
  t2 : tv.ownBlock ≠ some kb
  t3 : tv.ownBlock ≠ some hb
  c1 : cv.ownBlock ≠ some hp
  c2 : cv.ownBlock ≠ some kb
  c3 : cv.ownBlock ≠ some hb
  tc : ∀ q, tv.ownBlock = some q → cv.ownBlock ≠ some q
section
variable {w w' : World} {hp kb hb base kc hc : Nat} {m : HM} {tv cv : Value} {ts : List ByteArray} {bs : List Bool}
theorem TS.old (s : TS w hp kb hb base kc hc m tv cv ts bs) (o : Old w w') : TS w' hp kb hb base kc hc m tv cv ts bs :=
  ⟨s.h.old o, own_old s.t o, own_old s.c o, s.t1, s.t2, s.t3, s.c1, s.c2, s.c3, s.tc⟩
theorem TS.hist {x kb' hb' kc' hc' : Nat} {m' : HM} (s : TS w hp kb hb base kc hc m tv cv ts bs) (hx : x = kb ∨ x = hb) (k : Two hp x w w') (h' : HB w' hp kb' base (.slice (some ⟨hb', 0, none⟩) m'.hs.length hc') kc' m'.hs m'.ks m'.at_)
    (h1 : kb' = kb ∨ w.heap.size ≤ kb') (h2 : hb' = hb ∨ w.heap.size ≤ hb') : TS w' hp kb' hb' base kc' hc' m' tv cv ts bs := by
  have far : ∀ {v : Value} {e : TypeId} {n : Nat} {xs : List Value} {y z : Nat}, w.ownsRow base e 1 v n xs → v.ownBlock ≠ some z → (y = z ∨ w.heap.size ≤ y) → v.ownBlock ≠ some y := by
    intro v e n xs y z ho hz hy ee
    rcases hy with rfl | hy
    · exact hz ee
    · have := (own_inside ho _ ee).2; omega
  refine ⟨h', own_keep s.t (fun q hq hl => k.block q hl ?_ ?_), own_keep s.c (fun q hq hl => k.block q hl ?_ ?_), s.t1, far s.t s.t2 h1, far s.t s.t3 h2, s.c1, far s.c s.c2 h1, far s.c s.c3 h2, s.tc⟩
  · intro e; exact s.t1 (by rw [hq, e])
  · intro e; rcases hx with rfl | rfl
    · exact s.t2 (by rw [hq, e])
    · exact s.t3 (by rw [hq, e])
  · intro e; exact s.c1 (by rw [hq, e])
  · intro e; rcases hx with rfl | rfl
    · exact s.c2 (by rw [hq, e])
    · exact s.c3 (by rw [hq, e])
theorem TS.text {x : ByteArray} {b c : Nat} (s : TS w hp kb hb base kc hc m tv cv ts bs) (ho : w'.ownsRow base 9 1 (.slice (some ⟨b, 0, none⟩) (ts.length + 1) c) (ts.length + 1) (ts.map Value.string ++ [.string x])) (g : w.grownBy w' tv.ownBlock) (hb0 : tv.ownBlock = some b ∨ w.heap.size ≤ b) :
    TS w' hp kb hb base kc hc m (.slice (some ⟨b, 0, none⟩) (ts ++ [x]).length c) cv (ts ++ [x]) bs := by
  have hl : (ts ++ [x]).length = ts.length + 1 := by simp
  have hm : (ts ++ [x]).map Value.string = ts.map Value.string ++ [.string x] := by simp
  have lt := s.h.lt
  have ne : ∀ y, tv.ownBlock ≠ some y → y < w.heap.size → b ≠ y := by
    intro y h1 h2 e
    rcases hb0 with h3 | h3
    · rw [e] at h3; exact h1 h3
    · omega
  refine ⟨s.h.grown g s.t1 s.t2 s.t3, by rw [hl, hm]; exact ho, own_grown s.c g (fun q hq e => s.tc q e hq), ?_, ?_, ?_, s.c1, s.c2, s.c3, ?_⟩
  · simpa [Value.ownBlock] using ne hp s.t1 lt.1
  · simpa [Value.ownBlock] using ne kb s.t2 lt.2.1
  · simpa [Value.ownBlock] using ne hb s.t3 lt.2.2
  · intro q hq e
    obtain rfl : b = q := by simpa [Value.ownBlock] using hq
    rcases hb0 with h3 | h3
    · exact s.tc b h3 e
    · have := (own_inside s.c b e).2; omega
theorem TS.chg {x : Bool} {b c : Nat} (s : TS w hp kb hb base kc hc m tv cv ts bs) (ho : w'.ownsRow base 4 1 (.slice (some ⟨b, 0, none⟩) (bs.length + 1) c) (bs.length + 1) (bs.map Value.bool ++ [.bool x])) (g : w.grownBy w' cv.ownBlock) (hb0 : cv.ownBlock = some b ∨ w.heap.size ≤ b) :
    TS w' hp kb hb base kc hc m tv (.slice (some ⟨b, 0, none⟩) (bs ++ [x]).length c) ts (bs ++ [x]) := by
  have hl : (bs ++ [x]).length = bs.length + 1 := by simp
  have hm : (bs ++ [x]).map Value.bool = bs.map Value.bool ++ [.bool x] := by simp
  have lt := s.h.lt
  have ne : ∀ y, cv.ownBlock ≠ some y → y < w.heap.size → b ≠ y := by
    intro y h1 h2 e
    rcases hb0 with h3 | h3
    · rw [e] at h3; exact h1 h3
    · omega
  refine ⟨s.h.grown g s.c1 s.c2 s.c3, own_grown s.t g (fun q hq e => s.tc q hq e), by rw [hl, hm]; exact ho, s.t1, s.t2, s.t3, ?_, ?_, ?_, ?_⟩
  · simpa [Value.ownBlock] using ne hp s.c1 lt.1
  · simpa [Value.ownBlock] using ne kb s.c2 lt.2.1
  · simpa [Value.ownBlock] using ne hb s.c3 lt.2.2
  · intro q hq e
    obtain rfl : b = q := by simpa [Value.ownBlock] using e
    rcases hb0 with h3 | h3
    · exact s.tc b hq h3
    · have := (own_inside s.t b hq).2; omega
end
end Go.Proofs.Ytbkdppfjmfepiaa
