/- impl.run's function: a script of steps over a buffer. -/
import Derived.Test.YtleamondilmojaaDoorStepE
import Derived.Test.YtleamondilmojaaDoorAppAt
namespace Go.Proofs.YtleamondilmojaaDoor
open Go.RowKit
set_option linter.unusedVariables false
set_option linter.unusedSimpArgs false
set_option linter.unnecessarySimpa false
set_option maxRecDepth 100000

/-- All stays but some blocks. -/
structure Save (E : List Nat) (w w' : World) : Prop where
  os : w'.os = w.os
  tape : w'.tape = w.tape
  output : w'.output = w.output
  size : w.heap.size ≤ w'.heap.size
  block : ∀ q, q < w.heap.size → q ∉ E → w'.heap[q]? = w.heap[q]?
theorem Save.of_old {E : List Nat} {w w' : World} (o : Old w w') : Save E w w' := ⟨Below.os o, Below.tape o, Below.output o, o.size, fun q h _ => Below.block o q h⟩
theorem Save.of_two {E : List Nat} {p q : Nat} {w w' : World} (t : Two p q w w') (hp : p ∈ E) (hq : q ∈ E) : Save E w w' :=
  ⟨t.os, t.tape, t.output, t.size, fun b h hn => t.block b h (fun e => hn (e ▸ hp)) (fun e => hn (e ▸ hq))⟩
theorem Save.trans {E : List Nat} {a b c : World} (h : Save E a b) (g : Save E b c) : Save E a c :=
  ⟨g.os.trans h.os, g.tape.trans h.tape, g.output.trans h.output, Nat.le_trans h.size g.size, fun q hq hn => (g.block q (Nat.lt_of_lt_of_le hq h.size) hn).trans (h.block q hq hn)⟩
theorem Save.set {E : List Nat} {b : Nat} (w : World) (i : Nat) (v : Value) (hb : b ∈ E) : Save E w (w.setCell ⟨b, i, none⟩ v) :=
  ⟨rfl, rfl, rfl, by simp [World.setCell], fun q _ hn => Below.heap_setCell w ⟨b, i, none⟩ v q (by intro e; apply hn; simp at e; rw [e]; exact hb)⟩
theorem Save.fresh {E : List Nat} {b i : Nat} {w w1 : World} (h : Save E w w1) (v : Value) (hb : w.heap.size ≤ b) : Save E w (w1.setCell ⟨b, i, none⟩ v) :=
  ⟨h.os, h.tape, h.output, by simpa [World.setCell] using h.size, fun q hq hn => (Below.heap_setCell w1 ⟨b, i, none⟩ v q (by simp; omega)).trans (h.block q hq hn)⟩
theorem Save.grown {E : List Nat} {w u w' : World} {r : Option Nat} (h : Save E w u) (hg : u.grownBy w' r) (hr : ∀ q, r = some q → w.heap.size ≤ q) : Save E w w' :=
  ⟨hg.os.trans h.os, hg.tape.trans h.tape, hg.output.trans h.output, Nat.le_trans h.size hg.size, fun q hq hn => (hg.block q (Nat.lt_of_lt_of_le hq h.size) (by intro e; have := hr q e.symm; omega)).trans (h.block q hq hn)⟩
theorem Save.cell {E : List Nat} {w w' : World} {q j : Nat} {v : Value} (h : Save E w w') (hn : q ∉ E) (hq : w.cell? ⟨q, j, none⟩ = some v) : w'.cell? ⟨q, j, none⟩ = some v := by
  have hl := World.block_lt_of_cell? w _ hq
  rw [← hq]
  unfold World.cell?
  rw [h.block q hl hn]
theorem Save.old {E : List Nat} {a w w' : World} (o : Old a w) (h : Save E w w') (hE : ∀ q ∈ E, a.heap.size ≤ q) : Old a w' :=
  ⟨h.os.trans (Below.os o), h.tape.trans (Below.tape o), h.output.trans (Below.output o), Nat.le_trans o.size h.size, fun q hq => (h.block q (Nat.lt_of_lt_of_le hq o.size) (fun hm => by have := hE q hm; omega)).trans (Below.block o q hq)⟩
/-- A variable of one cell. -/
def VH (w : World) (b : Nat) (v : Value) (t : TypeId) : Prop := w.heap[b]? = some (.cells #[v] t)
section
variable {w w' : World} {b : Nat} {v : Value} {t : TypeId}
theorem VH.cell (h : VH w b v t) : w.cell? ⟨b, 0, none⟩ = some v := (bcell h 0).trans rfl
theorem VH.frozen (h : VH w b v t) : w.frozen? ⟨b, 0, none⟩ = false := bfree h 0
theorem VH.lt (h : VH w b v t) : b < w.heap.size := (Array.getElem?_eq_some_iff.1 h).1
theorem VH.old (h : VH w b v t) (o : Old w w') : VH w' b v t := (o.heap h.lt).trans h
theorem VH.set (h : VH w b v t) (x : Value) : VH (w.setCell ⟨b, 0, none⟩ x) b x t := by unfold VH; rw [bset h]; simp
theorem VH.far (h : VH w b v t) (q i : Nat) (x : Value) (hq : b ≠ q) : VH (w.setCell ⟨q, i, none⟩ x) b v t := (Below.heap_setCell w ⟨q, i, none⟩ x b (by simpa using hq)).trans h
theorem VH.two {p q : Nat} (h : VH w b v t) (g : Two p q w w') (h1 : b ≠ p) (h2 : b ≠ q) : VH w' b v t := (g.block b h.lt h1 h2).trans h
theorem VH.grown {r : Option Nat} (h : VH w b v t) (g : w.grownBy w' r) (hr : r ≠ some b) : VH w' b v t := (g.block b h.lt (fun e => hr e.symm)).trans h
end
/-- A buffer stays while no block of its own is written. -/
theorem B9.other {w w' : World} {bp lb : Nat} {l : Bs} {k : Nat} {pc : Int} {dv : Value} (h : B9 w bp lb l k pc dv) {q : Nat} {C : Array Value} {t : TypeId} (hq : w.heap[q]? = some (.cells C t)) (ht : t ≠ 86) (n1 : bp ≠ q) (n2 : lb ≠ q)
    (ho : ∀ b, b < w.heap.size → b ≠ q → w'.heap[b]? = w.heap[b]?) : B9 w' bp lb l k pc dv := by
  refine ⟨(ho bp h.lt.1 n1).trans h.b, (ho lb h.lt.2 n2).trans h.t, h.ne, ?_⟩
  rcases h.cd with e | ⟨dp, s, c, e1, e2, e3, e4⟩
  · exact .inl e
  · refine .inr ⟨dp, s, c, e1, e2, e3, (ho dp (Array.getElem?_eq_some_iff.1 e4).1 ?_).trans e4⟩
    rintro rfl
    rw [hq] at e4
    injection e4 with e4
    injection e4 with _ e5 _
    exact ht e5
theorem BE.set {w : World} {bp lb : Nat} {l : Bs} {k : Nat} {pc : Int} (h : BE w bp lb l k pc) {q : Nat} {v : Value} {t : TypeId} (hq : VH w q v t) (ht : t ≠ 86) (n1 : bp ≠ q) (n2 : lb ≠ q) (x : Value) : BE (w.setCell ⟨q, 0, none⟩ x) bp lb l k pc :=
  h.imp fun _ g => g.other hq ht n1 n2 fun b _ hn => Below.heap_setCell w ⟨q, 0, none⟩ x b (by simpa using hn)
theorem BE.grown {w w' : World} {bp lb : Nat} {l : Bs} {k : Nat} {pc : Int} (h : BE w bp lb l k pc) {base n : Nat} {v : Value} {xs : List Value} (ho : w.ownsRow base 9 1 v n xs) (hg : w.grownBy w' v.ownBlock) (n1 : bp < base) (n2 : lb < base) : BE w' bp lb l k pc := by
  obtain ⟨dv, g⟩ := h
  rcases ho.2 with ⟨e, _⟩ | ⟨q, cap, cur, e, h1, h2, h3⟩
  · refine ⟨dv, g.old ⟨hg.os, hg.tape, hg.output, hg.size, fun b hb => hg.block b hb ?_⟩⟩
    rw [e]; simp [Value.ownBlock]
  · refine ⟨dv, g.other h2 (by decide) (by omega) (by omega) fun b hb hn => hg.block b hb ?_⟩
    rw [e]; simpa [Value.ownBlock] using hn
/-- Step k of a script. -/
def ge (l : List Ed) (k : Nat) : Ed := l.getD k ⟨0, 0, ⟨#[]⟩, false⟩
theorem ge_lt {l : List Ed} {k : Nat} (h : k < l.length) : ge l k = l[k] := by simp [ge, List.getD, List.getElem?_eq_getElem h]
/-- A slice of steps. -/
def Script (w : World) (v : Value) (l : List Ed) : Prop :=
  ∃ ad c, v = .slice ad l.length c ∧ l.length ≤ c ∧ c ≤ maxLen ∧ ∀ j, j < l.length → ∃ b o, ad = some ⟨b, o, none⟩ ∧ w.cell? ⟨b, o + j * 4, none⟩ = some (.int .i64 (ge l j).op) ∧ w.cell? ⟨b, o + j * 4 + 1, none⟩ = some (.int .i64 (ge l j).n) ∧
    w.cell? ⟨b, o + j * 4 + 2, none⟩ = some (.string (ge l j).t) ∧ w.cell? ⟨b, o + j * 4 + 3, none⟩ = some (.bool (ge l j).f)
theorem Script.old {w w' : World} {v : Value} {l : List Ed} (h : Script w v l) (o : Old w w') : Script w' v l := by
  obtain ⟨ad, c, h1, h2, h3, h4⟩ := h
  refine ⟨ad, c, h1, h2, h3, fun j hj => ?_⟩
  obtain ⟨b, of, e, g0, g1, g2, g3⟩ := h4 j hj
  have hl := World.block_lt_of_cell? w _ g0
  exact ⟨b, of, e, (o.cell hl).trans g0, (o.cell hl).trans g1, (o.cell hl).trans g2, (o.cell hl).trans g3⟩
/-- Steps one behind the other. -/
inductive Chain : List Ed → St → St → List Bs → Prop
  | nil (s : St) : Chain [] s s []
  | cons {e : Ed} {s s' s'' : St} {t : Bs} {es : List Ed} {ts : List Bs} (d : Does e s s' t) (c : Chain es s' s'' ts) : Chain (e :: es) s s'' (t :: ts)
theorem Chain.len {es : List Ed} {s s' : St} {ts : List Bs} (c : Chain es s s' ts) : ts.length = es.length := by
  induction c with
  | nil => rfl
  | cons _ _ ih => simp [ih]
theorem Chain.at_ {es : List Ed} {k : Nat} {s s1 : St} {ts : List Bs} (hk : k < es.length) (hl : ts.length = es.length) (c : Chain (es.drop k) s s1 (ts.drop k)) : ∃ s' t, Does (ge es k) s s' t ∧ Chain (es.drop (k + 1)) s' s1 (ts.drop (k + 1)) ∧ ts.take (k + 1) = ts.take k ++ [t] := by
  have h2 : k < ts.length := by omega
  rw [List.drop_eq_getElem_cons hk, List.drop_eq_getElem_cons h2] at c
  cases c with
  | cons d c => exact ⟨_, _, by rw [ge_lt hk]; exact d, c, List.take_succ_eq_append_getElem h2⟩
theorem Chain.end_ {es : List Ed} {k : Nat} {s s1 : St} {ts : List Bs} (hk : es.length ≤ k) (hl : ts.length = es.length) (c : Chain (es.drop k) s s1 (ts.drop k)) : s = s1 := by
  rw [List.drop_eq_nil_of_le hk, List.drop_eq_nil_of_le (by omega)] at c
  cases c; rfl
/-- Ahead of round k. -/
structure RI (W : World) (vb vf vt bp lb : Nat) (es : List Ed) (ts : List Bs) (s1 : St) (k : Nat) (s : St) (tv : Value) (w : World) : Prop where
  c : Chain (es.drop k) s s1 (ts.drop k)
  b : BE w bp lb s.l s.k s.pc
  f : VH w vf (.bool true) 4
  t : VH w vt tv 36
  o : w.ownsRow W.heap.size 9 1 tv k ((ts.take k).map fun x => .string (tx x))
  s : Save [bp, lb, vf, vt] W w
  m : VH w vb (.pointer (some ⟨bp, 0, none⟩)) 61
theorem ge_eta (e : Ed) : e.v = .agg #[.int .i64 e.op, .int .i64 e.n, .string e.t, .bool e.f] := rfl
set_option maxHeartbeats 2000000 in
theorem run1_any (vs vb vf vt bp lb : Nat) (sv : Value) (es : List Ed) (ts : List Bs) (s0 s1 : St) (w : World) (hs : w.cell? ⟨vs, 0, none⟩ = some sv) (hsc : Script w sv es) (hm : VH w vb (.pointer (some ⟨bp, 0, none⟩)) 61) (hf : VH w vf (.bool true) 4) (ht : VH w vt (.slice none 0 0) 36)
    (hb : BE w bp lb s0.l s0.k s0.pc) (hc : Chain es s0 s1 ts) (hn : es.length ≤ 100000) (d1 : vb ≠ bp) (d2 : vb ≠ lb) (d3 : vb ≠ vf) (d4 : vb ≠ vt) (d5 : vf ≠ bp) (d6 : vf ≠ lb) (d7 : vf ≠ vt) (d8 : vt ≠ bp) (d9 : vt ≠ lb) (ns : ∀ b o n c, sv = .slice (some ⟨b, o, none⟩) n c → b ∉ [bp, lb, vf, vt]) :
    Calls Tryd.prog 60 #[.pointer (some ⟨vs, 0, none⟩), .pointer (some ⟨vb, 0, none⟩), .pointer (some ⟨vf, 0, none⟩), .pointer (some ⟨vt, 0, none⟩)] w fun e w' => e = .returned (.tuple #[]) ∧ ∃ tv, RI w vb vf vt bp lb es ts s1 es.length s1 tv w' := by
  have hl := hc.len
  have hbl : bp < w.heap.size ∧ lb < w.heap.size := by obtain ⟨_, g⟩ := hb; exact g.lt
  have R0 : Hid (RI w vb vf vt bp lb es ts s1 0 s0 (.slice none 0 0) w) := ⟨by simpa using hc, hb, hf, ht, ⟨rfl, .inl ⟨rfl, rfl⟩⟩, Save.of_old (Old.refl _), hm⟩
  obtain ⟨ad, cp, rfl, h2, h3, h4⟩ := hsc
  have H4 := Lib.hid h4
  have NS := Lib.hid ns
  have HL := Lib.hid hl
  have D1 := Lib.hid d1
  have D2 := Lib.hid d2
  have BL := Lib.hid hbl
  have VL : Hid (vf < w.heap.size ∧ vt < w.heap.size ∧ vb < w.heap.size) := ⟨hf.lt, ht.lt, hm.lt⟩
  unfold maxLen at h3
  clear hm hf ht hb hc h4 ns hl d1 d2 hbl
  go_enter Tryd.func60, Tryd.ntmps60
  go_wp2_with fail
  go_loopw [10] (fun i wr => ∃ (k : Nat) (s : St) (tv : Value), k ≤ es.length ∧ i = .int .i64 k ∧ RI w vb vf vt bp lb es ts s1 k s tv wr) (fun i _ => es.length - (intOf i).toNat)
  case atStart => exact ⟨0, s0, _, Nat.zero_le _, rfl, R0.out⟩
  case round =>
    obtain ⟨k, s, tv, hk, rfl, hri⟩ := hrel
    have RR := Lib.hid hri
    clear hri
    by_cases hkn : k < es.length
    · obtain ⟨s', t, hd, hch, htk⟩ := Chain.at_ hkn HL.out RR.out.c
      obtain ⟨sb, so, rfl, g0, g1, g2, g3⟩ := H4.out k hkn
      have nsb := NS.out sb so _ _ rfl
      have x0 := RR.out.s.cell nsb g0
      have x1 := RR.out.s.cell nsb g1
      have x2 := RR.out.s.cell nsb g2
      have x3 := RR.out.s.cell nsb g3
      have DD := Lib.hid (fun w' hB => (hd bp lb w' hB))
      rw [ge_eta] at DD
      generalize (ge es k).op = op at x0 DD
      generalize (ge es k).n = en at x1 DD
      generalize (ge es k).t = et at x2 DD
      generalize (ge es k).f = ef at x3 DD
      have CH := Lib.hid hch
      have TK := Lib.hid htk
      have m0 := (VH.old RR.out.m (Old.alloc wr (.cells #[.int .i64 op, .int .i64 en, .string et, .bool ef] 40))).cell
      have ik : (0 : Int) ≤ k := by omega
      have ik2 : (k : Int) < es.length := by omega
      clear hd g0 g1 g2 g3 nsb hch htk
      go_upto_region 4 with (go_at_call 61; refine (DD.out _ (RR.out.b.old (Old.alloc _ _))).mono ?_; rintro e w3 ⟨rfl, b3, t3⟩; have B3 := Lib.hid b3; have T3 := Lib.hid ((Two.of_old (Old.alloc wr _)).trans t3); clear b3 t3)
      have fv := Lib.hid (RR.out.f.two T3.out d5 d6)
      have tv3 := Lib.hid (RR.out.t.two T3.out d8 d9)
      have m3 := Lib.hid (RR.out.m.two T3.out D1.out D2.out)
      have own3 : Hid (w3.ownsRow w.heap.size 9 1 tv k ((ts.take k).map fun x => .string (tx x))) := own_keep RR.out.o fun g hg hgl => T3.out.block g hgl (by have := (own_inside RR.out.o g hg).1; have := BL.out; omega) (by have := (own_inside RR.out.o g hg).1; have := BL.out; omega)
      have s3 : Hid (Save [bp, lb, vf, vt] w w3) := RR.out.s.trans (Save.of_two T3.out (by simp) (by simp))
      clear x0 x1 x2 x3 m0 T3
      have cf := fv.out.cell
      have zf := fv.out.frozen
      go_upto_region 5 with fail
      clear cf zf
      have b4 := Lib.hid (B3.out.set fv.out (by decide) (Ne.symm d5) (Ne.symm d6) (.bool true))
      have f4 := Lib.hid (fv.out.set (.bool true))
      have t4 := Lib.hid (tv3.out.far vf 0 (.bool true) (Ne.symm d7))
      have m4 := Lib.hid (m3.out.far vf 0 (.bool true) d3)
      have own4 : Hid ((w3.setCell ⟨vf, 0, none⟩ (.bool true)).ownsRow w.heap.size 9 1 tv k ((ts.take k).map fun x => .string (tx x))) := own_keep own3.out fun g hg hgl => Below.heap_setCell w3 ⟨vf, 0, none⟩ (.bool true) g (by have h1 := (own_inside own3.out g hg).1; have h2 := VL.out; simp; omega)
      have s4 := Lib.hid (s3.out.trans (Save.set (E := [bp, lb, vf, vt]) w3 0 (.bool true) (b := vf) (by simp)))
      clear fv tv3 m3 own3 s3 B3 RR
      generalize w3.setCell ⟨vf, 0, none⟩ (.bool true) = w4 at b4 f4 t4 m4 own4 s4 ⊢
      have ct := t4.out.cell
      go_wp2_with (at_builtin; refine wpList_append1_at rfl _ _ 36 9 9 (.string ByteArray.empty) _ 16 rfl Tryd.underlying36 info_str rfl w.heap.size _ k _ rfl own4.out rfl rfl (by omega) (by omega) s4.out.size ?_; intro v' w5 hown1 hg1 hv1; obtain ⟨tb', tc', rfl, hat⟩ := hv1; have NO : Hid (∀ q, tv.ownBlock = some q → w.heap.size ≤ q) := (fun q hq => (own_inside own4.out q hq).1); have t5 := Lib.hid (t4.out.grown hg1 (fun e => by have h1 := NO.out _ e; have h2 := VL.out; omega)); have f5 := Lib.hid (f4.out.grown hg1 (fun e => by have h1 := NO.out _ e; have h2 := VL.out; omega)); have m5 := Lib.hid (m4.out.grown hg1 (fun e => by have h1 := NO.out _ e; have h2 := VL.out; omega)); have b5 := Lib.hid (b4.out.grown own4.out hg1 BL.out.1 BL.out.2); have s5 := Lib.hid (s4.out.grown hg1 NO.out); have own5 := Lib.hid hown1; clear hown1 hg1 hat ct; have ct5 := t5.out.cell; have zt5 := t5.out.frozen)
      have RN : Hid (RI w vb vf vt bp lb es ts s1 (k + 1) s' (.slice (some ⟨tb', 0, none⟩) (k + 1) tc') (w5.setCell ⟨vt, 0, none⟩ (.slice (some ⟨tb', 0, none⟩) (k + 1) tc'))) := by
        refine ⟨CH.out, b5.out.set t5.out (by decide) (Ne.symm d8) (Ne.symm d9) _, f5.out.far vt 0 _ d7, t5.out.set _, ?_, s5.out.trans (Save.set _ 0 _ (by simp)), m5.out.far vt 0 _ d4⟩
        have ho := own5.out
        rw [show (ts.take k).map (fun x => Value.string (tx x)) ++ [.string (tx t)] = (ts.take (k + 1)).map (fun x => Value.string (tx x)) by rw [TK.out, List.map_append]; rfl] at ho
        exact own_keep ho fun g hg hgl => Below.heap_setCell w5 ⟨vt, 0, none⟩ _ g (by have h1 := (own_inside ho g hg).1; have h2 := VL.out; simp; omega)
      clear ct5 zt5 t5 f5 m5 b5 s5 own5
      go_roundw
      case rel => exact ⟨k + 1, s', _, by omega, by go_num, RN.out⟩
      case measure => simp [intOf]; omega
    · obtain rfl : k = es.length := by omega
      have e1 := RR.out.c.end_ (Nat.le_refl _) HL.out
      subst e1
      go_wp2_with fail
      refine bodyPost_end (results_none rfl _ _ _) rfl ?_
      exact ⟨rfl, tv, RR.out⟩
end Go.Proofs.YtleamondilmojaaDoor
