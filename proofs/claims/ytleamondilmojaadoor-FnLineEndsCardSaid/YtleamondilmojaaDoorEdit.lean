/- impl.EditedFrom. -/
import Derived.Test.YtleamondilmojaaDoorRunF
namespace Go.Proofs.YtleamondilmojaaDoor
open Go.RowKit
set_option linter.unusedVariables false
set_option linter.unusedSimpArgs false
set_option linter.unnecessarySimpa false
set_option maxRecDepth 100000

/-- What EditedFrom tells. -/
def EfPost (s1 : St) (ts : List Bs) (w : World) (e : Ending) (w' : World) : Prop :=
  ∃ tv, e = .returned (.tuple #[.agg #[.string (tx s1.l), .int .i64 s1.k], tv, .bool true]) ∧ Old w w' ∧ w'.ownsRow w.heap.size 9 1 tv ts.length (ts.map fun x => .string (tx x))
theorem Script.slice {w : World} {v : Value} {l : List Ed} (h : Script w v l) : ∃ a n c, v = .slice a n c := by obtain ⟨ad, c, e, _⟩ := h; exact ⟨_, _, _, e⟩
/-- Where a script lies. -/
def SIn (w : World) (v : Value) : Prop := ∀ b o n c, v = .slice (some ⟨b, o, none⟩) n c → b < w.heap.size
set_option maxHeartbeats 1000000 in
theorem ef_any (l : Bs) (k : Nat) (sv : Value) (es : List Ed) (ts : List Bs) (s1 : St) (w : World) (hk : k ≤ l.length) (ok : okT l) (hsc : Script w sv es) (hin : SIn w sv) (hc : Chain es ⟨l, k, -1⟩ s1 ts) (hn : es.length ≤ 100000) :
    Calls Tryd.prog 17 #[.agg #[.string (tx l), .int .i64 k], sv] w (EfPost s1 ts w) := by
  have HSC := Lib.hid hsc
  have OK := Lib.hid ok
  have HC := Lib.hid hc
  have HIN := Lib.hid hin
  obtain ⟨sa, sn, sc, rfl⟩ := hsc.slice
  obtain ⟨W0, hW⟩ : ∃ W0, W0 = (w.alloc (.cells #[.string (tx l), .int .i64 k] 34)).alloc (.cells #[.string ⟨#[]⟩, .int .i64 0] 34) := ⟨_, rfl⟩
  have o0 : Old w W0 := by rw [hW]; exact (Old.alloc _ _).then_alloc _
  have z0 : W0.heap.size = w.heap.size + 2 := by rw [hW]; simp
  have h0 : W0.heap[w.heap.size]? = some (.cells #[.string (tx l), .int .i64 k] 34) := by rw [hW]; exact (heap_alloc_old _ _ (by simp)).trans (heap_alloc_new w _)
  have h1 : W0.heap[w.heap.size + 1]? = some (.cells #[.string ⟨#[]⟩, .int .i64 0] 34) := by
    rw [hW]
    have hs : (w.alloc (.cells #[.string (tx l), .int .i64 k] 34)).heap.size = w.heap.size + 1 := by simp
    have := heap_alloc_new (w.alloc (.cells #[.string (tx l), .int .i64 k] 34)) (.cells #[.string ⟨#[]⟩, .int .i64 0] 34)
    rw [hs] at this; exact this
  have HW := Lib.hid hW
  have O0 := Lib.hid o0
  have Z0 := Lib.hid z0
  have H0 := Lib.hid h0
  have H1 := Lib.hid h1
  clear hsc ok hc hin hW o0 z0 h0 h1
  go_enter Tryd.func17, Tryd.ntmps17
  go_upto_region 1 with fail
  rw [← HW.out]
  clear HW
  have c0 : W0.cell? ⟨w.heap.size, 0, none⟩ = some (.string (tx l)) := (bcell H0.out 0).trans rfl
  have c1 : W0.cell? ⟨w.heap.size, 1, none⟩ = some (.int .i64 k) := (bcell H0.out 1).trans rfl
  obtain ⟨d, hd⟩ : ∃ d, d = w.heap.size := ⟨_, rfl⟩
  obtain ⟨g, hg⟩ : ∃ g, g = w.heap.size + 1 := ⟨_, rfl⟩
  have DG : Hid (d = w.heap.size ∧ g = w.heap.size + 1) := ⟨hd, hg⟩
  rw [← hg] at H1
  rw [← hg]
  rw [← hd] at c0 c1 H0
  rw [← hd]
  clear hd hg
  go_upto_region 4 with (go_at_call 32; refine (docD_any l k W0 hk OK.out).mono ?_; rintro e w1 ⟨p, rfl, o1, hp, d1⟩; have O1 := Lib.hid o1; have e0 := (o1.cell (World.block_lt_of_cell? W0 _ c0)).trans c0; have e1 := (o1.cell (World.block_lt_of_cell? W0 _ c0)).trans c1; clear o1 hp d1)
  go_wp2_with (first
    | (go_at_call 34; refine (bufAt_any l k w1).mono ?_; rintro e w2 ⟨bp, lb, dv, rfl, o2, hb2, hl2, b2⟩; have O2 := Lib.hid o2; have HB2 := Lib.hid (And.intro hb2 hl2); have B2 := Lib.hid b2; clear o2 hb2 hl2 b2)
    | (go_at_call 33; refine (run_any bp lb (.slice sa sn sc) es ts ⟨l, k, -1⟩ s1 w2 (((HSC.out.old O0.out).old O1.out).old O2.out) ⟨dv, B2.out⟩ HC.out hn (fun b o n c e => by have h1 := HIN.out b o n c e; have h2 := O0.out.size; have h3 := O1.out.size; have h4 := O2.out.size; have h5 := HB2.out; refine ⟨?_, ?_, ?_⟩ <;> omega) ⟨_, _, _, rfl⟩).mono ?_; rintro e w3 ⟨tv, rfl, t3, own3⟩; have T3 := Lib.hid t3; have OW3 := Lib.hid own3; have hG : Hid (w3.heap[g]? = some (.cells #[.string ⟨#[]⟩, .int .i64 0] 34)) := (t3.block g (by have h1 := (Array.getElem?_eq_some_iff.1 H1.out).1; have h2 := O1.out.size; have h3 := O2.out.size; omega) (by have h1 := (Array.getElem?_eq_some_iff.1 H1.out).1; have h2 := O1.out.size; have h3 := HB2.out; omega) (by have h1 := (Array.getElem?_eq_some_iff.1 H1.out).1; have h2 := O1.out.size; have h3 := HB2.out; omega)).trans ((O2.out.heap (by have h1 := (Array.getElem?_eq_some_iff.1 H1.out).1; have h2 := O1.out.size; omega)).trans ((O1.out.heap (Array.getElem?_eq_some_iff.1 H1.out).1).trans H1.out)); have y0 := bcell hG.out 0; have y1 := bcell hG.out 1; have x0 := bfree hG.out 0; have x1 := bfree hG.out 1; simp at y0 y1; clear t3 own3))
  have hZ : ((w3.setCell ⟨g, 0, none⟩ (.string (tx s1.l))).setCell ⟨g, 1, none⟩ (.int .i64 s1.k)).heap[g]? = some (.cells #[.string (tx s1.l), .int .i64 s1.k] 34) := by
    rw [bset (bset hG.out _) _]; simp
  have u0 := (bcell hZ 0).trans rfl
  have u1 := (bcell hZ 1).trans rfl
  have OZ : Hid (Old w ((w3.setCell ⟨g, 0, none⟩ (.string (tx s1.l))).setCell ⟨g, 1, none⟩ (.int .i64 s1.k))) := by
    have h1 := DG.out
    have h2 := O0.out.size
    have h3 := O1.out.size
    have h4 := HB2.out
    have o3 : Old w w3 := ((O0.out.trans O1.out).trans O2.out).two T3.out (by omega) (by omega)
    exact (o3.stored (p := ⟨g, 0, none⟩) (by simp; omega) _).stored (p := ⟨g, 1, none⟩) (by simp; omega) _
  have WZ : Hid (((w3.setCell ⟨g, 0, none⟩ (.string (tx s1.l))).setCell ⟨g, 1, none⟩ (.int .i64 s1.k)).ownsRow w.heap.size 9 1 tv ts.length (ts.map fun x => .string (tx x))) := by
    have h1 := (Array.getElem?_eq_some_iff.1 H1.out).1
    have h2 := O0.out.size
    have h3 := O1.out.size
    have h4 := O2.out.size
    have ho := OW3.out
    refine own_down (own_keep ho fun q hq hql => (Below.heap_setCell _ ⟨g, 1, none⟩ _ q ?_).trans (Below.heap_setCell w3 ⟨g, 0, none⟩ _ q ?_)) (by omega)
    · have h5 := (own_inside ho q hq).1; simp; omega
    · have h5 := (own_inside ho q hq).1; simp; omega
  clear hZ y0 y1 x0 x1 e0 e1 c0 c1
  generalize (w3.setCell ⟨g, 0, none⟩ (.string (tx s1.l))).setCell ⟨g, 1, none⟩ (.int .i64 s1.k) = wz at u0 u1 OZ WZ ⊢
  refine bodyPost_ret (v := .tuple #[.agg #[.string (tx s1.l), .int .i64 s1.k], tv, .bool true]) ?_ rfl ⟨tv, rfl, OZ.out, WZ.out⟩
  simp [results, Tryd.results17, go_sem, asAddr, u0, u1]
end Go.Proofs.YtleamondilmojaaDoor
