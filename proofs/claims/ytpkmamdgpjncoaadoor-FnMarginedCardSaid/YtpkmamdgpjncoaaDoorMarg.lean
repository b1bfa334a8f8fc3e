/- margin.Writer without a function of its own. -/
import Derived.Test.YtpkmamdgpjncoaaDoorPadZ
import Derived.Test.YtpkmamdgpjncoaaDoorIndW
namespace Go.Proofs.YtpkmamdgpjncoaaDoor
open Go.RowKit
set_option linter.unusedVariables false
set_option linter.unusedSimpArgs false
set_option linter.unnecessarySimpa false
set_option maxRecDepth 100000

set_option maxHeartbeats 4000000 in
theorem bw_none {w : World} {b o : Nat} {T : TypeId} {K : Value → Int → Array Value} {B : Nat} {v : Value} {l : List UInt8} (h : BB w b o T K B v l) (ax : Option Addr) (cx : Nat) :
    Calls Tryd.prog 55 #[.pointer (some ⟨b, o, none⟩), .slice ax 0 cx] w fun e w' => e = .returned (.tuple #[.int .i64 0, .nilIface]) ∧ BB w' b o T K B v l ∧ Fr [some b] w w' := by
  obtain ⟨ao, cap, hv, hlc, hcm⟩ := h.shape
  obtain ⟨lr, c2⟩ := h.c2
  have f2 := h.free (o + 2)
  have d0 := (h.last 0).c0
  have g0 := (h.last 0).free o
  obtain ⟨m, hm⟩ : ∃ m, m = l.length := ⟨_, rfl⟩
  have W1b := fset (j := o) (show (w.setCell ⟨b, o + 2, none⟩ (.int .i8 0)).heap[b]? = some (.cells (K v 0) T) from by
    obtain ⟨lr', hc⟩ := h.cells
    have e := fset (j := o + 2) hc (.int .i8 0)
    rwa [h.ctx.s2] at e) v
  rw [h.ctx.s0] at W1b
  have F2 : Fr [some b] w ((w.setCell ⟨b, o + 2, none⟩ (.int .i8 0)).setCell ⟨b, o, none⟩ v) := (Fr.set w b (o + 2) _ (by simp)).then_set b o _ (by simp)
  have B2 : Hid (BB ((w.setCell ⟨b, o + 2, none⟩ (.int .i8 0)).setCell ⟨b, o, none⟩ v) b o T K B v l) := ⟨h.ctx, ⟨0, W1b⟩, fown_same h.own (fun g hg => F2.block g (fown_lt h.own hg).2 (by simp; rintro rfl; exact h.ne hg)), h.ne⟩
  have FF := Lib.hid F2
  have k0 := (fcell W1b o).trans (h.ctx.c0 _ _)
  have hce : ∀ d dLen dCap W, (Builtin.copy_ #[49, 49] 3 #[.slice d dLen dCap, .slice ax 0 cx]).run Tryd.prog W = .ok (goInt 0) W := fun d dLen dCap W => run_copy_none W 49 49 3 5 d ax dLen dCap 0 cx Tryd.underlying49 info_byteS (by simp)
  rw [← hm] at hv hlc
  subst hv
  have hcm' := hcm
  unfold maxLen at hcm'
  clear h W1b F2 hm
  generalize hX : (w.setCell ⟨b, o + 2, none⟩ (.int .i8 0)).setCell ⟨b, o, none⟩ (.slice ao m cap) = X at k0 B2 FF
  go_enter Tryd.func55, Tryd.ntmps55
  go_wp2_with (go_at_call 68; refine (tgr_any b o ao m cap 0 _ d0 g0 hlc hcm (by omega)).mono ?_; rintro e w2 ⟨rfl, rfl⟩; rw [Nat.add_zero]; (try rw [hX]))
  all_goals
    go_ret2
    first
      | exact ⟨rfl, B2.out, FF.out⟩
      | (have e : cap = m := by first | assumption | omega
         have h2 := B2.out
         rw [e] at h2
         exact ⟨rfl, h2, FF.out⟩)
/-- What a slice of bytes reads, cell by cell. -/
def Srcs (w : World) (sv : Value) (m : List UInt8) : Prop := m = [] ∨ ∃ g c cur, sv = .slice (some ⟨g, 0, none⟩) m.length c ∧ w.heap[g]? = some (.cells cur 5) ∧ cur.toList.take m.length = byV m
theorem byt_src {w : World} {b o B : Nat} {C : Array Value} {T : TypeId} {cv : Value} {m : List UInt8} (hC : w.heap[b]? = some (.cells C T)) (h0 : C[o]? = some cv) (h1 : C[o + 1]? = some (.int .i64 0)) (own : w.ownsRow B 5 1 cv m.length (byV m)) :
    Calls Tryd.prog 61 #[.pointer (some ⟨b, o, none⟩)] w fun e w' => ∃ sv, e = .returned sv ∧ Old w w' ∧ Reads w' sv m ∧ Srcs w' sv m := by
  by_cases hm : m = []
  · refine (byt_any hC h0 h1 own).mono ?_
    rintro e w' ⟨sv, rfl, o1, r1⟩
    exact ⟨sv, rfl, o1, r1, .inl hm⟩
  · have R := reads_own own
    rcases own_two own with ⟨e1, e2, e3⟩ | ⟨g, cap, cur, hv, _, h2, h3, h4, _, h6⟩
    · exact absurd (List.eq_nil_of_length_eq_zero e3) hm
    · subst hv
      have hpos : 0 < m.length := List.length_pos_iff.2 hm
      refine (byt_row b o g m.length cap C T w hC h0 h1 h3 h4 (by omega)).mono ?_
      rintro e w' ⟨rfl, o1, _⟩
      exact ⟨_, rfl, o1, R.old o1, .inr ⟨g, cap, cur, rfl, (o1.heap (flt h2)).trans h2, h6⟩⟩
theorem bytsS_any {w : World} {p B : Nat} {m : List UInt8} (h : Cache w p B m) : Calls Tryd.prog 56 #[.pointer (some ⟨p, 0, none⟩)] w fun e w' => ∃ sv, e = .returned sv ∧ Old w w' ∧ Reads w' sv m ∧ Srcs w' sv m := by
  obtain ⟨C, cv, h1, h2, h3, h4⟩ := h
  go_enter Tryd.func56, Tryd.ntmps56
  go_wp2_with (go_at_call 61; refine (byt_src h1 h2 h3 h4).mono ?_; rintro e w1 ⟨sv, rfl, o1, r1, s1⟩)
  go_ret
  exact ⟨sv, rfl, o1, r1, s1⟩
theorem iby_any {w : World} {p q B n : Nat} {pf v : Value} {sk : Bool} {m : List UInt8} (h : BB w p 3 87 (inC n pf q sk) B v m) : Calls Tryd.prog 54 #[.pointer (some ⟨p, 0, none⟩)] w fun e w' => ∃ sv, e = .returned sv ∧ Old w w' ∧ Reads w' sv m := by
  obtain ⟨lr, hC⟩ := h.cells
  have own := h.own
  go_enter Tryd.func54, Tryd.ntmps54
  go_wp2_with (go_at_call 61; refine (byt_any hC rfl rfl own).mono ?_; rintro e w1 ⟨sv, rfl, o1, r1⟩)
  go_ret
  exact ⟨sv, rfl, o1, r1⟩
/-- Write of a slice that is read cell by cell into a buffer in a block of another type. -/
theorem bw_src {w : World} {b o : Nat} {T : TypeId} {K : Value → Int → Array Value} {B : Nat} {v : Value} {l m : List UInt8} (h : BB w b o T K B v l) (hT : T ≠ 5) (ao : Option Addr) (c : Nat) (s : Srcs w (.slice ao m.length c) m) (hlim : l.length + m.length ≤ 1000000) (hB : B ≤ w.heap.size) :
    Calls Tryd.prog 55 #[.pointer (some ⟨b, o, none⟩), .slice ao m.length c] w fun e w' => e = .returned (.tuple #[.int .i64 m.length, .nilIface]) ∧ ∃ v', BB w' b o T K B v' (l ++ m) ∧ Nx w v v' ∧ Fr [some b, v.ownBlock] w w' := by
  by_cases hm : m = []
  · subst hm
    refine (bw_none h ao c).mono ?_
    rintro e w' ⟨rfl, h1, h2⟩
    exact ⟨rfl, v, by rwa [List.append_nil], .inl rfl, h2.mono (fun i _ e => by simp at e; simp [e])⟩
  · rcases s with s | ⟨g, c', cur, e, h2, h3⟩
    · exact absurd s hm
    · injection e with e1 e2 e3
      subst e1 e3
      have hpos : 0 < m.length := List.length_pos_iff.2 hm
      refine bw_any h m _ rfl ⟨g, 0, none⟩ c ?_ ?_ hpos hlim hB
      · rintro rfl
        obtain ⟨lr, hc⟩ := h.cells
        rw [h2] at hc
        injection hc with hc
        injection hc with _ hc _
        exact hT hc.symm
      · intro j hj
        have hadd : (⟨g, 0, none⟩ : Addr).add j = ⟨g, j, none⟩ := by unfold Addr.add; split <;> simp_all
        rw [hadd, fcell h2 j]
        have e := congrArg (fun x => x[j]?) h3
        simp only [List.getElem?_take] at e
        rw [if_pos hj] at e
        rw [← Array.getElem?_toList, e]
        unfold byV
        rw [List.getElem?_map, List.getElem?_eq_getElem hj]
        rfl
theorem clo_any {w : World} {q p B width F k : Nat} {pf v rb : Value} {l : List UInt8} (f : Nat → List UInt8) (h : AW w q p 3 71 (pdC width pf q (.slice none 0 0) 0 k) B v rb l) (hp : PadBy f pf q p B width F (.slice none 0 0) 0) (hk : k ≤ 1000000) (hl : l.length + F ≤ 1000000) (hF : (f (width - k)).length ≤ F) :
    Calls Tryd.prog 28 #[.pointer (some ⟨p, 0, none⟩)] w fun e w' => e = .returned .nilIface ∧ Cache w' p B (padEG f width (l, k)) ∧ Below B w w' ∧ Fr [some p, some q, v.ownBlock, rb.ownBlock] w w' := by
  go_enter Tryd.func28, Tryd.ntmps28
  go_wp2_with (go_at_call 51; refine (fl_anyF f h hp hk hl hF).mono ?_; rintro e w1 ⟨rfl, h1, h2, h3⟩)
  go_ret
  exact ⟨rfl, h1, h2, h3⟩
/-- The cells of a writer of margins. -/
def mgC (p1 p2 : Nat) (v : Value) (lr : Int) : Array Value := #[v, .int .i64 0, .int .i8 lr, .pointer (some ⟨p1, 0, none⟩), .pointer (some ⟨p2, 0, none⟩)]
theorem mgC_ctx (p1 p2 : Nat) : Ctx (mgC p1 p2) 0 := ⟨fun _ _ => rfl, fun _ _ => rfl, fun _ _ => rfl, fun _ _ _ => rfl, fun _ _ => rfl, fun _ _ _ => rfl⟩
theorem AW.weak {w : World} {q b o : Nat} {T : TypeId} {K : Value → Int → Array Value} {B B' : Nat} (h : AW w q b o T K B (.slice none 0 0) (.slice none 0 0) []) (hB : B' ≤ B) : AW w q b o T K B' (.slice none 0 0) (.slice none 0 0) [] :=
  ⟨⟨h.buf.ctx, h.buf.cells, World.ownsRow_nil _ _ _ _, h.buf.ne⟩, h.cells, h.row, h.qb, h.vq, h.rq, h.rb_, h.vr, Nat.le_trans hB h.lowb, Nat.le_trans hB h.lowq, fun g hg => Nat.le_trans hB (h.lowr g hg)⟩
/-- Blocks p1, q1 (filling up), p2, q2 (setting in) and mp (both) of a writer of margins. -/
structure MG (w : World) (B mp p1 q1 p2 q2 width n : Nat) : Prop where
  p : AW w q1 p1 3 71 (pdC width .nilFunc q1 (.slice none 0 0) 0 0) B (.slice none 0 0) (.slice none 0 0) []
  i : AW w q2 p2 3 87 (inC n .nilFunc q2 false) B (.slice none 0 0) (.slice none 0 0) []
  m : BB w mp 0 76 (mgC p1 p2) B (.slice none 0 0) []
  d1 : p1 ≠ p2 ∧ p1 ≠ q2 ∧ q1 ≠ p2 ∧ q1 ≠ q2
  d2 : mp ≠ p1 ∧ mp ≠ q1 ∧ mp ≠ p2 ∧ mp ≠ q2
  b : B ≤ mp
theorem mnw_any (width n : Nat) (w : World) : Calls Tryd.prog 33 #[.int .u64 width, .int .u64 n, .nilFunc] w fun e w' => ∃ mp p1 q1 p2 q2, e = .returned (.pointer (some ⟨mp, 0, none⟩)) ∧ MG w' w.heap.size mp p1 q1 p2 q2 width n ∧ Old w w' := by
  go_enter Tryd.func33, Tryd.ntmps33
  go_wp2_with (first
    | (go_at_call 25; refine (new_any width w).mono ?_; rintro e w1 ⟨rfl, h1, o1⟩; have H1 := Lib.hid h1; have O1 := Lib.hid o1; clear h1 o1)
    | (go_at_call 52; refine (inw_any n w1).mono ?_; rintro e w2 ⟨rfl, h2, o2⟩; have H2 := Lib.hid h2; have O2 := Lib.hid o2; clear h2 o2))
  go_ret
  have s1 := flt H1.out.cells
  have s2 := flt H2.out.cells
  have hz := heap_alloc_new w2 (.cells (mgC w.heap.size w1.heap.size (.slice none 0 0) 0) 76)
  have oa : Old w2 (w2.alloc (.cells (mgC w.heap.size w1.heap.size (.slice none 0 0) 0) 76)) := Old.alloc _ _
  refine ⟨w2.heap.size, w.heap.size, w.heap.size + 1, w1.heap.size, w1.heap.size + 1, rfl, ⟨(H1.out.old O2.out).old oa, (H2.out.old oa).weak O1.out.size, ⟨mgC_ctx _ _, ⟨0, hz⟩, World.ownsRow_nil _ _ _ _, by simp [Value.ownBlock]⟩, ?_, ?_, ?_⟩, (O1.out.trans O2.out).trans oa⟩
  · omega
  · omega
  · omega
end Go.Proofs.YtpkmamdgpjncoaaDoor
