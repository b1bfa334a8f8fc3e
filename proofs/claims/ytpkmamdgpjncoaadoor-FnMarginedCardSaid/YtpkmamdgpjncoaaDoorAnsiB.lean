/- ansi.Writer of plain text: writeRune. -/
import Derived.Test.YtpkmamdgpjncoaaDoorAnsiA
namespace Go.Proofs.YtpkmamdgpjncoaaDoor
open Go.RowKit
set_option linter.unusedVariables false
set_option linter.unusedSimpArgs false
set_option linter.unnecessarySimpa false
set_option maxRecDepth 100000

theorem AW.c0 {w : World} {q b o : Nat} {T : TypeId} {K : Value → Int → Array Value} {B : Nat} {v rb : Value} {l : List UInt8} (h : AW w q b o T K B v rb l) : w.cell? ⟨q, 0, none⟩ = some (.iface 63 (.pointer (some ⟨b, o, none⟩))) := (fcell h.cells 0).trans rfl
theorem AW.c9 {w : World} {q b o : Nat} {T : TypeId} {K : Value → Int → Array Value} {B : Nat} {v rb : Value} {l : List UInt8} (h : AW w q b o T K B v rb l) : w.cell? ⟨q, 9, none⟩ = some rb := (fcell h.cells 9).trans rfl
theorem meth_bw (b o : Nat) (w : World) : (method 235 63 (.pointer (some ⟨b, o, none⟩)) "Write").run Tryd.prog w = .ok (55, .pointer (some ⟨b, o, none⟩)) w := by kernel_rfl
/-- A sign is laid where signs are encoded. -/
theorem AW.enc {w : World} {q b o : Nat} {T : TypeId} {K : Value → Int → Array Value} {B r : Nat} {v : Value} {l : List UInt8} (h : AW w q b o T K B v (.slice (some ⟨r, 0, none⟩) 4 4) l) (x : Value) :
    AW (w.setCell ⟨r, 0, none⟩ x) q b o T K B v (.slice (some ⟨r, 0, none⟩) 4 4) l ∧ Mv w (w.setCell ⟨r, 0, none⟩ x) q b v (.slice (some ⟨r, 0, none⟩) 4 4) v (.slice (some ⟨r, 0, none⟩) 4 4) ∧ (w.setCell ⟨r, 0, none⟩ x).cell? ⟨r, 0, none⟩ = some x := by
  obtain ⟨r', x0, x1, x2, x3, hr, h2⟩ : ∃ r' x0 x1 x2 x3, (.slice (some ⟨r, 0, none⟩) 4 4 : Value) = .slice (some ⟨r', 0, none⟩) 4 4 ∧ w.heap[r']? = some (.cells #[x0, x1, x2, x3] 5) := by
    rcases h.row with hr | hr
    · cases hr
    · exact hr
  injection hr with hr
  injection hr with hr
  injection hr with hr
  subst hr
  have f : Fr [some r] w (w.setCell ⟨r, 0, none⟩ x) := Fr.set w r 0 x (by simp)
  have hrb : (.slice (some ⟨r, 0, none⟩) 4 4 : Value).ownBlock = some r := rfl
  have e2 := fset (j := 0) h2 x
  refine ⟨⟨h.buf.fr f ?_ ?_, (f.block q (flt h.cells) ?_).trans h.cells, .inr ⟨r, x, x1, x2, x3, rfl, by simpa using e2⟩, h.qb, h.vq, h.rq, h.rb_, h.vr, h.lowb, h.lowq, h.lowr⟩, ⟨f.mono (fun i _ e => by simp at e; simp [hrb, e]), .inl rfl, .inl rfl⟩, ?_⟩
  · simp; intro e; exact h.rb_ (by rw [hrb, e])
  · intro g hg; simp; intro e; exact h.vr g hg (by rw [hrb, e])
  · simp; intro e; exact h.rq (by rw [hrb, e])
  · rw [fcell e2]; simp
theorem wrote_drew {X w3 : World} {q b o : Nat} {T : TypeId} {K : Value → Int → Array Value} {B : Nat} {v v' rb : Value} {l m : List UInt8} (h : AW X q b o T K B v rb l) (k1 : BB w3 b o T K B v' m) (k2 : Nx X.drew v v') (k3 : Fr [some b, v.ownBlock] X.drew w3) :
    AW w3 q b o T K B v' rb m ∧ Mv X w3 q b v rb v' rb :=
  ⟨h.wrote k1 (k2.old (u := X) (Nat.le_refl _)) (Fr.after_old (Old.drew X) k3), (Fr.after_old (Old.drew X) k3).mono (fun i _ e => by simp at e; rcases e with e | e <;> simp [e]), k2.old (u := X) (Nat.le_refl _), .inl rfl⟩
set_option maxHeartbeats 4000000 in
theorem wrr_any {w : World} {q b o : Nat} {T : TypeId} {K : Value → Int → Array Value} {B r : Nat} {v : Value} {l : List UInt8} (h : AW w q b o T K B v (.slice (some ⟨r, 0, none⟩) 4 4) l) (c : UInt8) (hc : c.toNat < 128) (hlim : l.length + 1 ≤ 1000000) :
    Calls Tryd.prog 63 #[.pointer (some ⟨q, 0, none⟩), .int .i32 c.toNat] w fun e w' => e = .returned (.tuple #[.int .i64 1, .nilIface]) ∧ ∃ v', AW w' q b o T K B v' (.slice (some ⟨r, 0, none⟩) 4 4) (l ++ [c]) ∧ Mv w w' q b v (.slice (some ⟨r, 0, none⟩) 4 4) v' (.slice (some ⟨r, 0, none⟩) 4 4) := by
  have c9 := h.c9
  obtain ⟨h1, m1, s1⟩ := h.enc (.int .u8 c.toNat)
  obtain ⟨r', x0, x1, x2, x3, hr, h2⟩ : ∃ r' x0 x1 x2 x3, (.slice (some ⟨r, 0, none⟩) 4 4 : Value) = .slice (some ⟨r', 0, none⟩) 4 4 ∧ w.heap[r']? = some (.cells #[x0, x1, x2, x3] 5) := by
    rcases h.row with hr | hr
    · cases hr
    · exact hr
  injection hr with hr
  injection hr with hr
  injection hr with hr
  subst hr
  have H1 := Lib.hid h1
  have M1 := Lib.hid m1
  have S1 := Lib.hid s1
  have R2 := Lib.hid h2
  have RB : Hid (r ≠ b) := fun e => h.rb_ (by rw [e]; rfl)
  have hBl : Hid (B ≤ w.heap.size) := by have := h.lowq; have := flt h.cells; unfold Hid; omega
  have d0 := h1.c0
  have d9 := h1.c9
  have hnil : ∀ W, (binOp .eql 49 (.slice (some ⟨r, 0, none⟩) 4 4) (.slice none 0 0)).run Tryd.prog W = .ok (.bool false) W := fun W => Lib.run_eql_slice_some_nil W _ _ _ Tryd.underlying49
  have hme := fun W => meth_bw b o W
  clear h h1 m1 s1 h2
  go_enter Tryd.func63, Tryd.ntmps63
  go_wp2_with (go_at_call 73; refine (er_any r x0 x1 x2 x3 c w R2.out hc).mono ?_; rintro e w1 ⟨rfl, rfl⟩)
  generalize hX : w.setCell ⟨r, 0, none⟩ (.int .u8 c.toNat) = X at d0 d9 H1 M1 S1 ⊢
  clear hX c9
  have SRC : Hid (∀ j (hj : j < [c].length), X.drew.cell? ((⟨r, 0, none⟩ : Addr).add j) = some (.int .u8 ([c][j].toNat : Int))) := fun j hj => by
    obtain rfl : j = 0 := by simpa using hj
    exact S1.out
  have LB : Hid (B ≤ X.drew.heap.size) := Nat.le_trans hBl.out M1.out.fr.size
  have HD : Hid (BB X.drew b o T K B v l) := H1.out.buf.old (Old.drew X)
  go_region_with (
    show Calls Tryd.prog 55 #[.pointer (some ⟨b, o, none⟩), .slice (some ⟨r, 0, none⟩) 1 4] _ _
    refine (bw_any HD.out [c] 1 rfl ⟨r, 0, none⟩ 4 RB.out SRC.out (by omega) hlim LB.out).mono ?_
    rintro e w3 ⟨rfl, v', k1, k2, k3⟩
    have K1 := Lib.hid (wrote_drew H1.out k1 k2 k3)
    clear k1 k2 k3)
  all_goals (
    go_wp2
    go_ret2
    exact ⟨rfl, v', K1.out.1, M1.out.trans K1.out.2⟩)
theorem mk4 (W : World) : (Instr.makeSlice 49 (.int .i64 4) (.int .i64 4)).run Tryd.prog W = .ok (.slice (some ⟨W.heap.size, 0, none⟩) 4 4) (W.alloc (.cells #[.int .u8 0, .int .u8 0, .int .u8 0, .int .u8 0] 5)) := by kernel_rfl
theorem awC_set (b o : Nat) (rb x : Value) : (awC b o rb).setIfInBounds 9 x = awC b o x := rfl
/-- Where signs are encoded is made. -/
theorem AW.made {w : World} {q b o : Nat} {T : TypeId} {K : Value → Int → Array Value} {B : Nat} {v : Value} {l : List UInt8} (h : AW w q b o T K B v (.slice none 0 0) l) (x0 x1 x2 x3 : Value) :
    AW ((w.setCell ⟨q, 9, none⟩ (.slice (some ⟨w.heap.size, 0, none⟩) 4 4)).alloc (.cells #[x0, x1, x2, x3] 5)) q b o T K B v (.slice (some ⟨w.heap.size, 0, none⟩) 4 4) l ∧
      Mv w ((w.setCell ⟨q, 9, none⟩ (.slice (some ⟨w.heap.size, 0, none⟩) 4 4)).alloc (.cells #[x0, x1, x2, x3] 5)) q b v (.slice none 0 0) v (.slice (some ⟨w.heap.size, 0, none⟩) 4 4) ∧
      ((w.setCell ⟨q, 9, none⟩ (.slice (some ⟨w.heap.size, 0, none⟩) 4 4)).alloc (.cells #[x0, x1, x2, x3] 5)).heap[w.heap.size]? = some (.cells #[x0, x1, x2, x3] 5) := by
  have hq := flt h.cells
  have hne : w.heap.size ≠ q := by omega
  have hsz : (w.setCell ⟨q, 9, none⟩ (.slice (some ⟨w.heap.size, 0, none⟩) 4 4)).heap.size = w.heap.size := by simp [World.setCell]
  have a2 := heap_alloc_new (w.setCell ⟨q, 9, none⟩ (.slice (some ⟨w.heap.size, 0, none⟩) 4 4)) (.cells #[x0, x1, x2, x3] 5)
  rw [hsz] at a2
  have q1 := fset (j := 9) h.cells (.slice (some ⟨w.heap.size, 0, none⟩) 4 4)
  rw [awC_set] at q1
  have q2 := (heap_alloc_old (w.setCell ⟨q, 9, none⟩ (.slice (some ⟨w.heap.size, 0, none⟩) 4 4)) (.cells #[x0, x1, x2, x3] 5) (by rw [hsz]; exact hq)).trans q1
  have f : Fr [some q] w ((w.setCell ⟨q, 9, none⟩ (.slice (some ⟨w.heap.size, 0, none⟩) 4 4)).alloc (.cells #[x0, x1, x2, x3] 5)) := (Fr.set w q 9 _ (by simp)).then_old (Old.alloc _ _)
  have hl := h.lowq
  refine ⟨⟨h.buf.fr f ?_ ?_, q2, .inr ⟨_, x0, x1, x2, x3, rfl, a2⟩, h.qb, h.vq, ?_, ?_, ?_, h.lowb, h.lowq, ?_⟩, ⟨f.mono (fun i _ e => by simp at e; simp [e]), .inl rfl, .inr ⟨_, Nat.le_refl _, rfl⟩⟩, a2⟩
  · simp; exact fun e => h.qb e.symm
  · intro g hg; simp; intro e; exact h.vq (by rw [hg, e])
  · simp [Value.ownBlock]; omega
  · have := h.buf.lt; simp [Value.ownBlock]; omega
  · intro g hg; have := h.vlt hg; simp [Value.ownBlock]; omega
  · intro g hg; simp [Value.ownBlock] at hg; omega
set_option maxHeartbeats 4000000 in
theorem wrn_any {w : World} {q b o : Nat} {T : TypeId} {K : Value → Int → Array Value} {B : Nat} {v : Value} {l : List UInt8} (h : AW w q b o T K B v (.slice none 0 0) l) (c : UInt8) (hc : c.toNat < 128) (hlim : l.length + 1 ≤ 1000000) :
    Calls Tryd.prog 63 #[.pointer (some ⟨q, 0, none⟩), .int .i32 c.toNat] w fun e w' => e = .returned (.tuple #[.int .i64 1, .nilIface]) ∧ ∃ v' rb', AW w' q b o T K B v' rb' (l ++ [c]) ∧ Mv w w' q b v (.slice none 0 0) v' rb' := by
  have c9 := h.c9
  have f9 := ffree h.cells 9
  have hq := flt h.cells
  have c9a : ∀ O, (w.alloc O).cell? ⟨q, 9, none⟩ = some (.slice none 0 0) := fun O => ((Old.alloc w O).cell hq).trans c9
  have f9a : ∀ O, (w.alloc O).frozen? ⟨q, 9, none⟩ = false := fun O => ((Old.alloc w O).frozen hq).trans f9
  obtain ⟨h0, m0, r0⟩ := h.made (.int .u8 0) (.int .u8 0) (.int .u8 0) (.int .u8 0)
  obtain ⟨h1, m1, r1⟩ := h.made (.int .u8 c.toNat) (.int .u8 0) (.int .u8 0) (.int .u8 0)
  have s1 := (fcell r1 0).trans (rfl : _ = some (Value.int .u8 c.toNat))
  have H1 := Lib.hid h1
  have M1 := Lib.hid m1
  have S1 := Lib.hid s1
  have R2 := Lib.hid r0
  have RB : Hid (w.heap.size ≠ b) := by have := h.buf.lt; unfold Hid; omega
  have hBl : Hid (B ≤ w.heap.size) := by have := h.lowq; unfold Hid; omega
  have b9 := h0.c9
  have d0 := h1.c0
  have d9 := h1.c9
  have hnil : ∀ W, (binOp .eql 49 (.slice none 0 0) (.slice none 0 0)).run Tryd.prog W = .ok (.bool true) W := fun W => Lib.run_eql_slice_nil_nil W _ _ Tryd.underlying49
  have hme := fun W => meth_bw b o W
  have hmk := fun W => mk4 W
  clear h h0 m0 r0 h1 m1 s1 r1
  go_enter Tryd.func63, Tryd.ntmps63
  go_wp2_with (go_at_call 73; refine (er_any w.heap.size (.int .u8 0) (.int .u8 0) (.int .u8 0) (.int .u8 0) c _ R2.out hc).mono ?_; rintro e w1 ⟨rfl, rfl⟩)
  obtain ⟨r, hr⟩ : ∃ r, r = w.heap.size := ⟨_, rfl⟩
  rw [← hr] at d0 d9 H1 M1 S1 RB ⊢
  generalize hX : ((w.setCell ⟨q, 9, none⟩ (.slice (some ⟨r, 0, none⟩) 4 4)).alloc (.cells #[.int .u8 c.toNat, .int .u8 0, .int .u8 0, .int .u8 0] 5)) = X at d0 d9 H1 M1 S1 ⊢
  clear hX c9 c9a f9a f9 b9 hr
  have SRC : Hid (∀ j (hj : j < [c].length), X.drew.cell? ((⟨r, 0, none⟩ : Addr).add j) = some (.int .u8 ([c][j].toNat : Int))) := fun j hj => by
    obtain rfl : j = 0 := by simpa using hj
    exact S1.out
  have LB : Hid (B ≤ X.drew.heap.size) := Nat.le_trans hBl.out M1.out.fr.size
  have HD : Hid (BB X.drew b o T K B v l) := H1.out.buf.old (Old.drew X)
  go_region_with (
    show Calls Tryd.prog 55 #[.pointer (some ⟨b, o, none⟩), .slice (some ⟨r, 0, none⟩) 1 4] _ _
    refine (bw_any HD.out [c] 1 rfl ⟨r, 0, none⟩ 4 RB.out SRC.out (by omega) hlim LB.out).mono ?_
    rintro e w3 ⟨rfl, v', k1, k2, k3⟩
    have K1 := Lib.hid (wrote_drew H1.out k1 k2 k3)
    clear k1 k2 k3)
  all_goals (
    go_wp2
    go_ret2
    exact ⟨rfl, v', _, K1.out.1, M1.out.trans K1.out.2⟩)
end Go.Proofs.YtpkmamdgpjncoaaDoor
