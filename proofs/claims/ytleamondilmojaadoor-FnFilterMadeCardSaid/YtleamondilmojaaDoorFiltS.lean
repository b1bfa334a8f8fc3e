/- goprompt.filterSuggestions of one suggestion that passes. -/
import Derived.Test.YtleamondilmojaaDoorFiltF
import Derived.Test.YtleamondilmojaaDoorUpper
import Derived.Test.YtleamondilmojaaDoorAppNew
import Derived.Test.YtleamondilmojaaDoorRows4
import Derived.OwnWalk
import Derived.Deep.Cut
namespace Go.Proofs.YtleamondilmojaaDoor
open Go.RowKit
set_option linter.unusedVariables false
set_option linter.unusedSimpArgs false
set_option linter.unnecessarySimpa false
set_option maxRecDepth 100000

/-- A row of one element of two texts. -/
def Two (w : World) (v : Value) (s : Bs) (d : ByteArray) : Prop :=
  ∃ b c, v = .slice (some ⟨b, 0, none⟩) 1 c ∧ 1 ≤ c ∧ c ≤ maxLen ∧ b < w.heap.size ∧ w.cell? ⟨b, 0, none⟩ = some (.string (tx s)) ∧ w.cell? ⟨b, 1, none⟩ = some (.string d)
theorem Two.old {w w' : World} {v : Value} {s : Bs} {d : ByteArray} (h : Two w v s d) (o : Old w w') : Two w' v s d := by
  obtain ⟨b, c, h0, h1, h2, h3, h4, h5⟩ := h
  exact ⟨b, c, h0, h1, h2, Nat.lt_of_lt_of_le h3 o.size, (o.cell h3).trans h4, (o.cell h3).trans h5⟩
theorem Two.of_own {w : World} {base : Nat} {e : TypeId} {v : Value} {s : Bs} {d : ByteArray} (h : w.ownsRow base e 2 v 1 [.string (tx s), .string d]) : Two w v s d := by
  obtain ⟨-, h | ⟨g, cap, cur, rfl, h1, h2, h3, h4, h5, h6⟩⟩ := h
  · exact absurd h.2 (by decide)
  · have k0 : cur[0]? = some (.string (tx s)) := by
      have := congrArg (fun l => l[0]?) h6
      simpa [List.getElem?_take] using this
    have k1 : cur[1]? = some (.string d) := by
      have := congrArg (fun l => l[1]?) h6
      simpa [List.getElem?_take] using this
    exact ⟨g, cap, rfl, h3, h4, (Array.getElem?_eq_some_iff.1 h2).1, (bcell4 h2 0).trans k0, (bcell4 h2 1).trans k1⟩

def upIf (ic : Bool) (l : Bs) : Bs := if ic then upB l else l
theorem info_sug : (Tryd.prog.info? 55).map (fun i => (i.zero, i.size, i.bytes)) = some (some (.agg #[.string ByteArray.empty, .string ByteArray.empty]), 2, 32) := by kernel_rfl
theorem fil_empty (F : Value) (v : Value) (s : Bs) (d : ByteArray) (ic : Bool) (w : World) (h : Two w v s d) : Calls Tryd.prog 53 #[v, .string (tx []), .bool ic, F] w fun e w' => e = .returned v ∧ Old w w' := by
  have e1 : (tx []).toList = [] := by rw [toList_bs]; rfl
  obtain ⟨b, c, rfl, -⟩ := h
  go_enter Tryd.func53, Tryd.ntmps53
  go_wp2_with fail
  go_ret
  exact ⟨rfl, Old.refl _⟩
theorem tx_some {p : Bs} (h : 0 < p.length) : ((tx p).toList == []) = false := by
  cases p with
  | nil => simp at h
  | cons a l => rw [toList_bs, bs_tx]; rfl

set_option maxHeartbeats 1000000 in
theorem fil_any (F : FuncId) (hk : ∀ (args : Array Value) (W : World), (callFunc F args).run Tryd.prog W = .ok (.enter F args) W) (v : Value) (s p : Bs) (d : ByteArray) (w : World) (h : Two w v s d) (oks : okT s) (okp : okT p) (hp : 0 < p.length)
    (hF : ∀ w', Calls Tryd.prog F #[.string (tx s), .string (tx p)] w' fun e w2 => e = .returned (.bool true) ∧ Old w' w2) :
    Calls Tryd.prog 53 #[v, .string (tx p), .bool false, .func (.func F) #[] #[]] w fun e w' => ∃ v', e = .returned v' ∧ Old w w' ∧ Two w' v' s d := by
  have e1 := tx_some hp
  have OKS := Lib.hid oks
  have OKP := Lib.hid okp
  have HF := Lib.hid hF
  have TW := Lib.hid h
  obtain ⟨b, c, rfl, h1, h2, h3, h4, h5⟩ := h
  have HB := Lib.hid h3
  have HC := Lib.hid (And.intro h4 h5)
  clear oks okp hF h3 h4 h5
  obtain ⟨i, hi, hz0, hz1, hz2⟩ := info_parts1 info_sug
  have HI : Hid (Tryd.prog.info? 55 = some i ∧ i.zero = some (.agg #[.string ByteArray.empty, .string ByteArray.empty]) ∧ i.size = 2 ∧ i.bytes = 32) := ⟨hi, hz0, hz1, hz2⟩
  clear hi hz0 hz1 hz2
  go_enter Tryd.func53, Tryd.ntmps53
  go_wp2_with (at_make; refine wpList_make_own _ rfl _ _ 54 rfl _ 55 i _ 2 Tryd.underlying54 HI.out.1 HI.out.2.1 HI.out.2.2.1 _ _ _ 1 rfl rfl rfl (by rw [HI.out.2.2.2]; omega) (by unfold maxLen; omega) (Nat.le_refl _) ?_; intro w2 r2 g2; have R2 := Lib.hid r2; have O2 := Lib.hid ((Old.refl w).grown g2 (by simp)); clear r2 g2)
  go_loopw [9, 23] (fun ret i wr => (i = .int .i64 0 ∧ ret = .slice (some ⟨w.heap.size, 0, none⟩) 0 1 ∧ wr = w2) ∨ (i = .int .i64 1 ∧ Old w wr ∧ Two wr ret s d)) (fun _ i _ => 1 - (intOf i).toNat)
  case atStart => exact .inl ⟨rfl, rfl, rfl⟩
  case round =>
    rcases hrel with ⟨rfl, rfl, rfl⟩ | ⟨rfl, ho, ht⟩
    · have c0 := (O2.out.cell HB.out).trans HC.out.1
      have R3 : Hid (True) := trivial
      go_wp2_with (first
        | (with_reducible refine (HF.out _).mono ?_; rintro e w3 ⟨rfl, o3⟩; have O3 := Lib.hid (O2.out.trans o3); have R3 := Lib.hid (own_old R2.out o3); have d0 := (O3.out.cell HB.out).trans HC.out.1; have d1 := (O3.out.cell HB.out).trans HC.out.2; clear o3)
        | (at_builtin; refine wpList_append_new rfl _ _ 54 55 _ (.agg #[.string ByteArray.empty, .string ByteArray.empty]) 2 32 rfl Tryd.underlying54 info_sug rfl (by decide) w.heap.size _ 0 _ rfl R3.out 1 #[.string (tx s), .string d] rfl (by decide) rfl (by intro y hy; simp at hy; rcases hy with rfl | rfl <;> rfl) (by omega) (by omega) O3.out.size ?_; intro v' w5 hown1 hg1 hv1; obtain ⟨tb', tc', rfl, hat⟩ := hv1; have OW5 := Lib.hid hown1; have O5 := Lib.hid (O3.out.own (Nat.le_refl _) R3.out hg1); clear hown1 hg1 hat))
      go_roundw
      case rel => exact .inr ⟨by go_num, O5.out, Two.of_own OW5.out⟩
      case measure => simp [intOf]
    · obtain ⟨q, cq, rfl, j1, j2, j3, j4, j5⟩ := ht
      have TT := Lib.hid (⟨q, cq, rfl, j1, j2, j3, j4, j5⟩ : Two wr (.slice (some ⟨q, 0, none⟩) 1 cq) s d)
      clear j3 j4 j5
      go_wp2_with fail
      go_ret
      exact ⟨_, rfl, ho, TT.out⟩
set_option maxHeartbeats 1000000 in
theorem filU_any (F : FuncId) (hk : ∀ (args : Array Value) (W : World), (callFunc F args).run Tryd.prog W = .ok (.enter F args) W) (v : Value) (s p : Bs) (d : ByteArray) (w : World) (h : Two w v s d) (oks : okT s) (okp : okT p) (hp : 0 < p.length)
    (hF : ∀ w', Calls Tryd.prog F #[.string (tx (upB s)), .string (tx (upB p))] w' fun e w2 => e = .returned (.bool true) ∧ Old w' w2) :
    Calls Tryd.prog 53 #[v, .string (tx p), .bool true, .func (.func F) #[] #[]] w fun e w' => ∃ v', e = .returned v' ∧ Old w w' ∧ Two w' v' s d := by
  have e1 := tx_some hp
  have OKS := Lib.hid oks
  have OKP := Lib.hid okp
  have HF := Lib.hid hF
  have TW := Lib.hid h
  obtain ⟨b, c, rfl, h1, h2, h3, h4, h5⟩ := h
  have HB := Lib.hid h3
  have HC := Lib.hid (And.intro h4 h5)
  clear oks okp hF h3 h4 h5
  obtain ⟨i, hi, hz0, hz1, hz2⟩ := info_parts1 info_sug
  have HI : Hid (Tryd.prog.info? 55 = some i ∧ i.zero = some (.agg #[.string ByteArray.empty, .string ByteArray.empty]) ∧ i.size = 2 ∧ i.bytes = 32) := ⟨hi, hz0, hz1, hz2⟩
  clear hi hz0 hz1 hz2
  go_enter Tryd.func53, Tryd.ntmps53
  go_wp2_with (first
    | (go_at_call 76; with_reducible refine (up_any p _ OKP.out).mono ?_; rintro e w1 ⟨rfl, o1⟩; have O1 := Lib.hid o1; clear o1)
    | (at_make; refine wpList_make_own _ rfl _ _ 54 rfl _ 55 i _ 2 Tryd.underlying54 HI.out.1 HI.out.2.1 HI.out.2.2.1 _ _ _ 1 rfl rfl rfl (by rw [HI.out.2.2.2]; omega) (by unfold maxLen; omega) (Nat.le_refl _) ?_; intro w2 r2 g2; have R2 := Lib.hid r2; have O2 := Lib.hid (O1.out.trans ((Old.refl w1).grown g2 (by simp))); have O2s := Lib.hid (((Old.refl w1).grown g2 (by simp)).size); clear r2 g2))
  go_loopw [9, 23] (fun ret i wr => (i = .int .i64 0 ∧ ret = .slice (some ⟨w1.heap.size, 0, none⟩) 0 1 ∧ wr = w2) ∨ (i = .int .i64 1 ∧ Old w wr ∧ Two wr ret s d)) (fun _ i _ => 1 - (intOf i).toNat)
  case atStart => exact .inl ⟨rfl, rfl, rfl⟩
  case round =>
    rcases hrel with ⟨rfl, rfl, rfl⟩ | ⟨rfl, ho, ht⟩
    · have c0 := (O2.out.cell HB.out).trans HC.out.1
      have R3 : Hid (True) := trivial
      go_wp2_with (first
        | (go_at_call 76; with_reducible refine (up_any s _ OKS.out).mono ?_; rintro e w4 ⟨rfl, o4⟩; have O4 := Lib.hid o4; clear o4)
        | (with_reducible refine (HF.out _).mono ?_; rintro e w3 ⟨rfl, o3⟩; have o43 := O4.out.trans o3; have O3 := Lib.hid (O2.out.trans o43); have R3 := Lib.hid (own_old R2.out o43); have d0 := (O3.out.cell HB.out).trans HC.out.1; have d1 := (O3.out.cell HB.out).trans HC.out.2; have O3s := Lib.hid o43.size; clear o3 o43)
        | (at_builtin; refine wpList_append_new rfl _ _ 54 55 _ (.agg #[.string ByteArray.empty, .string ByteArray.empty]) 2 32 rfl Tryd.underlying54 info_sug rfl (by decide) w1.heap.size _ 0 _ rfl R3.out 1 #[.string (tx s), .string d] rfl (by decide) rfl (by intro y hy; simp at hy; rcases hy with rfl | rfl <;> rfl) (by omega) (by omega) (Nat.le_trans O2s.out O3s.out) ?_; intro v' w5 hown1 hg1 hv1; obtain ⟨tb', tc', rfl, hat⟩ := hv1; have OW5 := Lib.hid hown1; have O5 := Lib.hid (O3.out.own O1.out.size R3.out hg1); clear hown1 hg1 hat))
      go_roundw
      case rel => exact .inr ⟨by go_num, O5.out, Two.of_own OW5.out⟩
      case measure => simp [intOf]
    · obtain ⟨q, cq, rfl, j1, j2, j3, j4, j5⟩ := ht
      have TT := Lib.hid (⟨q, cq, rfl, j1, j2, j3, j4, j5⟩ : Two wr (.slice (some ⟨q, 0, none⟩) 1 cq) s d)
      clear j3 j4 j5
      go_wp2_with fail
      go_ret
      exact ⟨_, rfl, ho, TT.out⟩
end Go.Proofs.YtleamondilmojaaDoor
