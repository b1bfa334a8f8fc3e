/- truncate.Writer on a plain line: PrintableRuneWidth, NewWriter, Write, Bytes; truncate.StringWithTail, impl.Truncated. -/
import Derived.Test.YtpkmamdgpjncoaaDoorPlain
import Derived.Test.YtpkmamdgpjncoaaDoorBufS
namespace Go.Proofs.YtpkmamdgpjncoaaDoor
open Go.RowKit
set_option linter.unusedVariables false
set_option linter.unusedSimpArgs false
set_option linter.unnecessarySimpa false
set_option maxRecDepth 100000

/-- Printable signs alone. -/
def prS (d : List UInt8) : Prop := ∀ c ∈ d, 32 ≤ c.toNat ∧ c.toNat ≤ 126
theorem prw_any (d : List UInt8) (w : World) (hd : prS d) (hl : d.length ≤ 1000000) : Calls Tryd.prog 87 #[.string ⟨d.toArray⟩] w fun e w' => e = .returned (.int .i64 d.length) ∧ Old w w' := by
  have HD := Lib.hid hd
  have HS : Hid ((⟨d.toArray⟩ : ByteArray).size = d.length) := by unfold Hid; simp [ByteArray.size]
  clear hd
  generalize hs : (⟨d.toArray⟩ : ByteArray) = s at HS
  have HX := Lib.hid hs
  clear hs
  go_enter Tryd.func87, Tryd.ntmps87
  go_wp2
  go_loopw [3, 4] (fun n a wr => ∃ q : Nat, q ≤ d.length ∧ n = .int .i64 q ∧ a = .bool false ∧ wr = w.iter s q) (fun _ _ wr => d.length - wr.iterPos w.heap.size)
  case atStart => exact ⟨0, Nat.zero_le _, rfl, rfl, rfl⟩
  case round =>
    obtain ⟨q, hk, rfl, rfl, rfl⟩ := hrel
    by_cases hq : q < d.length
    · have hq2 : q < s.size := by rw [HS.out]; exact hq
      have hg : s[q]'hq2 = d[q]'hq := by
        have e := HX.out
        subst e
        rfl
      obtain ⟨b1, b2⟩ := HD.out _ (List.getElem_mem hq)
      have hn := run_next_ascii (P := Tryd.prog) w s q 0 hq2 (by rw [hg]; omega)
      rw [hg] at hn
      generalize d[q] = b at hn b1 b2
      have e1 : ((b.toNat : Int) == 27) = false := by rw [beq_eq_false_iff_ne]; omega
      have p1 : (32 : Int) ≤ b.toNat := by omega
      have p2 : (b.toNat : Int) ≤ 126 := by omega
      clear hg hq2
      go_wp2_with (go_at_call 49; refine (rwd_pr _ _ p1 p2).mono ?_; rintro e w1 ⟨rfl, rfl⟩)
      refine ⟨⟨q + 1, by omega, by go_num, rfl, rfl⟩, ?_⟩
      simp only [World.iterPos_iter]; omega
    · obtain rfl : q = d.length := by omega
      have hq2 : ¬ d.length < s.size := by rw [HS.out]; omega
      have hn := run_next_end (P := Tryd.prog) w s d.length 0 hq2
      clear hq2
      go_wp2
      go_ret
      exact ⟨rfl, Old.alloc _ _⟩
theorem bst_nil (b o : Nat) (w : World) (c0 : w.cell? ⟨b, o, none⟩ = some (.slice none 0 0)) (c1 : w.cell? ⟨b, o + 1, none⟩ = some (.int .i64 0)) :
    Calls Tryd.prog 41 #[.pointer (some ⟨b, o, none⟩)] w fun e w' => e = .returned (.string ⟨#[]⟩) ∧ Old w w' := by
  have hconv : ∀ W : World, (convert 49 9 (.slice none 0 0)).run Tryd.prog W = .ok (.string ⟨#[]⟩) W := fun W => Lib.run_convert_nil_bytes (P := Tryd.prog) W 49 9 5 0 (by kernel_rfl) (by kernel_rfl) (by kernel_rfl)
  go_enter Tryd.func41, Tryd.ntmps41
  go_wp2_with fail
  go_quiet (fail)
  go_wp2_with fail
  go_ret
  exact ⟨rfl, Old.drewN _ _⟩
theorem lsq_any {w : World} {q b o : Nat} {T : TypeId} {K : Value → Int → Array Value} {B : Nat} {v rb : Value} {l : List UInt8} (h : AW w q b o T K B v rb l) :
    Calls Tryd.prog 42 #[.pointer (some ⟨q, 0, none⟩)] w fun e w' => e = .returned (.string ⟨#[]⟩) ∧ Old w w' := by
  have c5 : w.cell? ⟨q, 5, none⟩ = some (.slice none 0 0) := (fcell h.cells 5).trans rfl
  have c6 : w.cell? ⟨q, 5 + 1, none⟩ = some (.int .i64 0) := (fcell h.cells 6).trans rfl
  clear h
  go_enter Tryd.func42, Tryd.ntmps42
  go_wp2_with (go_at_call 41; refine (bst_nil q 5 w c5 c6).mono ?_; rintro e w1 ⟨rfl, o1⟩)
  go_ret
  exact ⟨rfl, o1⟩
/-- The cells of a writer that cuts. -/
def trC (width : Nat) (tail : ByteArray) (q : Nat) (v : Value) (lr : Int) : Array Value := #[.int .u64 width, .string tail, .pointer (some ⟨q, 0, none⟩), v, .int .i64 0, .int .i8 lr, .bool false]
theorem trC_ctx (width : Nat) (tail : ByteArray) (q : Nat) : Ctx (trC width tail q) 3 := ⟨fun _ _ => rfl, fun _ _ => rfl, fun _ _ => rfl, fun _ _ _ => rfl, fun _ _ => rfl, fun _ _ _ => rfl⟩
section
variable {w : World} {q p B width : Nat} {tail : ByteArray} {v rb : Value} {l : List UInt8}
theorem AW.t0 (h : AW w q p 3 108 (trC width tail q) B v rb l) : w.cell? ⟨p, 0, none⟩ = some (.int .u64 width) := by obtain ⟨lr, hc⟩ := h.buf.cells; exact (fcell hc 0).trans rfl
theorem AW.t1 (h : AW w q p 3 108 (trC width tail q) B v rb l) : w.cell? ⟨p, 1, none⟩ = some (.string tail) := by obtain ⟨lr, hc⟩ := h.buf.cells; exact (fcell hc 1).trans rfl
theorem AW.t2 (h : AW w q p 3 108 (trC width tail q) B v rb l) : w.cell? ⟨p, 2, none⟩ = some (.pointer (some ⟨q, 0, none⟩)) := by obtain ⟨lr, hc⟩ := h.buf.cells; exact (fcell hc 2).trans rfl
theorem AW.t6 (h : AW w q p 3 108 (trC width tail q) B v rb l) : w.cell? ⟨p, 6, none⟩ = some (.bool false) := by obtain ⟨lr, hc⟩ := h.buf.cells; exact (fcell hc 6).trans rfl
theorem AW.setW (h : AW w q p 3 108 (trC width tail q) B v rb l) (x : Nat) : AW (w.setCell ⟨p, 0, none⟩ (.int .u64 x)) q p 3 108 (trC x tail q) B v rb l ∧ Mv w (w.setCell ⟨p, 0, none⟩ (.int .u64 x)) q p v rb v rb :=
  h.setK 0 _ (trC_ctx _ _ _) (fun _ _ => rfl)
end
theorem tnw_any (width : Nat) (tail : ByteArray) (w : World) : Calls Tryd.prog 74 #[.int .u64 width, .string tail] w fun e w' => e = .returned (.pointer (some ⟨w.heap.size, 0, none⟩)) ∧ AW w' (w.heap.size + 1) w.heap.size 3 108 (trC width tail (w.heap.size + 1)) w.heap.size (.slice none 0 0) (.slice none 0 0) [] ∧ Old w w' := by
  go_enter Tryd.func74, Tryd.ntmps74
  go_wp2_with fail
  go_ret
  exact ⟨rfl, AW.fresh w 108 (trC width tail (w.heap.size + 1)) 3 (trC_ctx _ _ _), (Old.alloc _ _).then_alloc _⟩
theorem Old.below2 {w w' : World} {B : Nat} (o : Old w w') (h : B ≤ w.heap.size) : Below B w w' := Below.mono (B := w.heap.size) o h
/-- What cutting leaves. -/
def trM (width : Nat) (d t : List UInt8) : List UInt8 := if width < t.length then t else if d.length ≤ width - t.length then d else d.take (width - t.length) ++ t
set_option maxHeartbeats 4000000 in
theorem trs_any {w : World} {q p B width : Nat} {v rb : Value} {t : List UInt8} (h : AW w q p 3 108 (trC width ⟨t.toArray⟩ q) B v rb []) (ht : prS t) (hl : t.length ≤ 100000) (hw : width < t.length) (sv : Value) :
    Calls Tryd.prog 75 #[.pointer (some ⟨p, 0, none⟩), sv] w fun e w' => ∃ x v' wd, e = .returned (.tuple #[x, .nilIface]) ∧ BB w' p 3 108 (trC wd ⟨t.toArray⟩ q) B v' t ∧ Below B w w' := by
  have H := Lib.hid h
  have HT := Lib.hid ht
  have c1 := h.t1
  have wt : IntKind.u64.wrap (t.length : Int) = t.length := by have := IntKind.wrap_u64 (t.length : Int); rw [this]; omega
  have d1 : decide ((width : Int) < (t.length : Int)) = true := by simp; omega
  clear h ht
  go_enter Tryd.func75, Tryd.ntmps75
  go_wp2_with (go_at_call 87; refine (prw_any t w HT.out (by omega)).mono ?_; rintro e w1 ⟨rfl, o1⟩; have H1 := Lib.hid (H.out.old o1); have O1 := Lib.hid o1; have c0 := (H.out.old o1).t0; have e1 := (H.out.old o1).t1; clear o1)
  have HD : Hid (BB w1.drew p 3 108 (trC width ⟨t.toArray⟩ q) B v []) := H1.out.buf.old (Old.drew w1)
  have BS : Hid (B ≤ w1.drew.heap.size) := H1.out.bsz
  go_region_with (
    go_at_call 88
    refine (wst_any HD.out t (by simp; omega) BS.out).mono ?_
    rintro e w2 ⟨rfl, v2, r1, r2, r3⟩
    have R1 := Lib.hid (wrote_drew H1.out r1 r2 r3)
    clear r1 r2 r3)
  all_goals
    go_wp2
    go_ret2
    exact ⟨_, v2, width, rfl, by simpa using R1.out.1.buf, (Old.below2 O1.out H.out.bsz).trans (H1.out.below R1.out.2)⟩
end Go.Proofs.YtpkmamdgpjncoaaDoor
