/- ansi.Writer.RestoreAnsi where no sequence stands; indent.NewWriter. -/
import Derived.Test.YtpkmamdgpjncoaaDoorPlain
namespace Go.Proofs.YtpkmamdgpjncoaaDoor
open Go.RowKit
set_option linter.unusedVariables false
set_option linter.unusedSimpArgs false
set_option linter.unnecessarySimpa false
set_option maxRecDepth 100000

set_option maxHeartbeats 4000000 in
theorem bw_nil {w : World} {b o : Nat} {T : TypeId} {K : Value → Int → Array Value} {B : Nat} {v : Value} {l : List UInt8} (h : BB w b o T K B v l) :
    Calls Tryd.prog 55 #[.pointer (some ⟨b, o, none⟩), .slice none 0 0] w fun e w' => e = .returned (.tuple #[.int .i64 0, .nilIface]) ∧ BB w' b o T K B v l ∧ Fr [some b] w w' := by
  obtain ⟨ao, cap, hv, hlc, hcm⟩ := h.shape
  obtain ⟨lr, c2⟩ := h.c2
  have f2 := h.free (o + 2)
  have d0 := (h.last 0).c0
  have g0 := (h.last 0).free o
  obtain ⟨m, hm⟩ : ∃ m, m = l.length := ⟨_, rfl⟩
  have W1b := fset (j := o) (show (w.setCell ⟨b, o + 2, none⟩ (.int .i8 0)).heap[b]? = some (.cells (K v 0) T) from by
    obtain ⟨lr', hc⟩ := h.cells
    have e := fset (j := o + 2) hc (.int .i8 0)
    rwa [h.ctx.s2] at e) v
  rw [h.ctx.s0] at W1b
  have F2 : Fr [some b] w ((w.setCell ⟨b, o + 2, none⟩ (.int .i8 0)).setCell ⟨b, o, none⟩ v) := (Fr.set w b (o + 2) _ (by simp)).then_set b o _ (by simp)
  have B2 : Hid (BB ((w.setCell ⟨b, o + 2, none⟩ (.int .i8 0)).setCell ⟨b, o, none⟩ v) b o T K B v l) := ⟨h.ctx, ⟨0, W1b⟩, fown_same h.own (fun g hg => F2.block g (fown_lt h.own hg).2 (by simp; rintro rfl; exact h.ne hg)), h.ne⟩
  have FF := Lib.hid F2
  have k0 := (fcell W1b o).trans (h.ctx.c0 _ _)
  have hce : ∀ d dLen dCap W, (Builtin.copy_ #[49, 49] 3 #[.slice d dLen dCap, .slice none 0 0]).run Tryd.prog W = .ok (goInt 0) W := fun d dLen dCap W => run_copy_none W 49 49 3 5 d none dLen dCap 0 0 Tryd.underlying49 info_byteS (by simp)
  rw [← hm] at hv hlc
  subst hv
  have hcm' := hcm
  unfold maxLen at hcm'
  clear h W1b F2 hm
  generalize hX : (w.setCell ⟨b, o + 2, none⟩ (.int .i8 0)).setCell ⟨b, o, none⟩ (.slice ao m cap) = X at k0 B2 FF
  go_enter Tryd.func55, Tryd.ntmps55
  go_wp2_with (go_at_call 68; refine (tgr_any b o ao m cap 0 _ d0 g0 hlc hcm (by omega)).mono ?_; rintro e w2 ⟨rfl, rfl⟩; rw [Nat.add_zero]; (try rw [hX]))
  all_goals
    go_ret2
    first
      | exact ⟨rfl, B2.out, FF.out⟩
      | (have e : cap = m := by first | assumption | omega
         have h2 := B2.out
         rw [e] at h2
         exact ⟨rfl, h2, FF.out⟩)
set_option maxHeartbeats 4000000 in
theorem ro_any {w : World} {q b o : Nat} {T : TypeId} {K : Value → Int → Array Value} {B : Nat} {v rb : Value} {l : List UInt8} (h : AW w q b o T K B v rb l) :
    Calls Tryd.prog 40 #[.pointer (some ⟨q, 0, none⟩)] w fun e w' => e = .returned (.tuple #[]) ∧ AW w' q b o T K B v rb l ∧ Mv w w' q b v rb v rb := by
  have H := Lib.hid h
  have c0 := h.c0
  have HC : Hid (w.drew.heap[q]? = some (.cells (awC b o rb) 67)) := h.cells
  have hq := Lib.hid (flt h.cells)
  have hme := fun W => meth_bw b o W
  have hnb := fun W => nil_bw b o W
  clear h
  go_enter Tryd.func40, Tryd.ntmps40
  go_wp2_with fail
  go_region_with (first
    | (go_at_call 61
       refine (byt_nil q 5 _ _ w.drew HC.out rfl rfl).mono ?_
       rintro e w1 ⟨rfl, o1, s1⟩
       have O1 := Lib.hid ((Old.drew w).trans o1)
       have d0 := (((Old.drew w).trans o1).cell (o := 0) hq.out).trans c0
       clear o1 s1)
    | (show Calls Tryd.prog 55 #[.pointer (some ⟨b, o, none⟩), .slice none 0 0] _ _
       refine (bw_nil (H.out.buf.old O1.out)).mono ?_
       rintro e w2 ⟨rfl, r1, r2⟩
       have R1 := Lib.hid ((H.out.old O1.out).wrote r1 (.inl rfl) (r2.mono (fun i _ e => by simp at e; simp [e])))
       have R2 : Hid (Mv w w2 q b v rb v rb) := ⟨(Fr.after_old O1.out r2).mono (fun i _ e => by simp at e; simp [e]), .inl rfl, .inl rfl⟩
       clear r1 r2))
  all_goals
    go_wp2_with fail
    go_end0
    exact ⟨rfl, R1.out, R2.out⟩
/-- The cells of a writer that sets in. -/
def inC (n : Nat) (pf : Value) (q : Nat) (sk : Bool) (v : Value) (lr : Int) : Array Value := #[.int .u64 n, pf, .pointer (some ⟨q, 0, none⟩), v, .int .i64 0, .int .i8 lr, .bool sk, .bool false]
theorem inC_ctx (n : Nat) (pf : Value) (q : Nat) (sk : Bool) : Ctx (inC n pf q sk) 3 := ⟨fun _ _ => rfl, fun _ _ => rfl, fun _ _ => rfl, fun _ _ _ => rfl, fun _ _ => rfl, fun _ _ _ => rfl⟩
section
variable {w : World} {q p B n : Nat} {pf v rb : Value} {sk : Bool} {l : List UInt8}
theorem AW.i0 (h : AW w q p 3 87 (inC n pf q sk) B v rb l) : w.cell? ⟨p, 0, none⟩ = some (.int .u64 n) := by obtain ⟨lr, hc⟩ := h.buf.cells; exact (fcell hc 0).trans rfl
theorem AW.i1 (h : AW w q p 3 87 (inC n pf q sk) B v rb l) : w.cell? ⟨p, 1, none⟩ = some pf := by obtain ⟨lr, hc⟩ := h.buf.cells; exact (fcell hc 1).trans rfl
theorem AW.i2 (h : AW w q p 3 87 (inC n pf q sk) B v rb l) : w.cell? ⟨p, 2, none⟩ = some (.pointer (some ⟨q, 0, none⟩)) := by obtain ⟨lr, hc⟩ := h.buf.cells; exact (fcell hc 2).trans rfl
theorem AW.i6 (h : AW w q p 3 87 (inC n pf q sk) B v rb l) : w.cell? ⟨p, 6, none⟩ = some (.bool sk) := by obtain ⟨lr, hc⟩ := h.buf.cells; exact (fcell hc 6).trans rfl
theorem AW.i7 (h : AW w q p 3 87 (inC n pf q sk) B v rb l) : w.cell? ⟨p, 7, none⟩ = some (.bool false) := by obtain ⟨lr, hc⟩ := h.buf.cells; exact (fcell hc 7).trans rfl
theorem AW.setS (h : AW w q p 3 87 (inC n pf q sk) B v rb l) (x : Bool) : AW (w.setCell ⟨p, 6, none⟩ (.bool x)) q p 3 87 (inC n pf q x) B v rb l ∧ Mv w (w.setCell ⟨p, 6, none⟩ (.bool x)) q p v rb v rb :=
  h.setK 6 _ (inC_ctx _ _ _ _) (fun _ _ => rfl)
end
theorem inw_any (n : Nat) (w : World) : Calls Tryd.prog 52 #[.int .u64 n, .nilFunc] w fun e w' => e = .returned (.pointer (some ⟨w.heap.size, 0, none⟩)) ∧ AW w' (w.heap.size + 1) w.heap.size 3 87 (inC n .nilFunc (w.heap.size + 1) false) w.heap.size (.slice none 0 0) (.slice none 0 0) [] ∧ Old w w' := by
  go_enter Tryd.func52, Tryd.ntmps52
  go_wp2_with fail
  go_ret
  exact ⟨rfl, AW.fresh w 87 (inC n .nilFunc (w.heap.size + 1) false) 3 (inC_ctx _ _ _ _), (Old.alloc _ _).then_alloc _⟩
end Go.Proofs.YtpkmamdgpjncoaaDoor
