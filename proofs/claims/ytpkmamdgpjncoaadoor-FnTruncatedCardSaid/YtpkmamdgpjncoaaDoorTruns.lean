/- truncate.StringWithTail, impl.Truncated, spec.Truncated. -/
import Derived.Test.YtpkmamdgpjncoaaDoorTrunw
namespace Go.Proofs.YtpkmamdgpjncoaaDoor
open Go.RowKit
set_option linter.unusedVariables false
set_option linter.unusedSimpArgs false
set_option linter.unnecessarySimpa false
set_option maxRecDepth 100000

theorem trw_any {w : World} {q p B width : Nat} {v rb : Value} {t : List UInt8} (h : AW w q p 3 108 (trC width ⟨t.toArray⟩ q) B v rb []) (ht : prS t) (hl : t.length ≤ 100000) (hwd : width ≤ 1000) (d : List UInt8) (n : Nat) (hn : n = d.length) (ao : Option Addr) (c : Nat)
    (hconv : ∀ W, Below B w W → (convert 49 9 (.slice ao n c)).run Tryd.prog W = .ok (.string ⟨d.toArray⟩) W) (hd : prS d) (hdl : d.length ≤ 100000) :
    Calls Tryd.prog 75 #[.pointer (some ⟨p, 0, none⟩), .slice ao n c] w fun e w' => ∃ x v' wd, e = .returned (.tuple #[x, .nilIface]) ∧ BB w' p 3 108 (trC wd ⟨t.toArray⟩ q) B v' (trM width d t) ∧ Below B w w' := by
  by_cases hw : width < t.length
  · have e : trM width d t = t := by unfold trM; rw [if_pos hw]
    rw [e]
    exact trs_any h ht hl hw _
  · exact trl_any h ht hl (by omega) hwd d n hn ao c hconv hd hdl
theorem tby_any {w : World} {p q B wd : Nat} {t : ByteArray} {v : Value} {m : List UInt8} (h : BB w p 3 108 (trC wd t q) B v m) : Calls Tryd.prog 76 #[.pointer (some ⟨p, 0, none⟩)] w fun e w' => ∃ sv, e = .returned sv ∧ Old w w' ∧ Reads w' sv m := by
  obtain ⟨lr, hC⟩ := h.cells
  have own := h.own
  go_enter Tryd.func76, Tryd.ntmps76
  go_wp2_with (go_at_call 61; refine (byt_any hC rfl rfl own).mono ?_; rintro e w1 ⟨sv, rfl, o1, r1⟩)
  go_ret
  exact ⟨sv, rfl, o1, r1⟩
set_option maxHeartbeats 4000000 in
theorem tbt_any (width : Nat) (d t : List UInt8) (ao ao2 : Option Addr) (n c n2 c2 : Nat) (w : World) (hn : n = d.length) (hr : Reads w (.slice ao n c) d) (hr2 : Reads w (.slice ao2 n2 c2) t) (hd : prS d) (ht : prS t) (hdl : d.length ≤ 100000) (htl : t.length ≤ 100000) (hw : width ≤ 1000) :
    Calls Tryd.prog 64 #[.slice ao n c, .int .u64 width, .slice ao2 n2 c2] w fun e w' => ∃ sv, e = .returned sv ∧ Old w w' ∧ Reads w' sv (trM width d t) := by
  have HR := Lib.hid hr
  have hcv := hr2.2 w (Old.refl _)
  have HD := Lib.hid hd
  have HT := Lib.hid ht
  have HN := Lib.hid hn
  clear hr hr2 hd ht hn
  go_enter Tryd.func64, Tryd.ntmps64
  go_wp2_with (first
    | (go_at_call 74; refine (tnw_any width ⟨t.toArray⟩ w).mono ?_; rintro e w1 ⟨rfl, h1, o1⟩; have H1 := Lib.hid h1; have O1 := Lib.hid o1; clear h1 o1)
    | (go_at_call 75
       refine (trw_any H1.out HT.out htl hw d n HN.out ao c (fun W b => HR.out.2 W (O1.out.trans2 b (Below.refl _ _))) HD.out hdl).mono ?_
       rintro e w2 ⟨x, v2, wd, rfl, h2, b2⟩
       have H2 := Lib.hid h2
       have O2 : Hid (Old w w2) := O1.out.trans2 b2 (Below.refl _ _)
       clear h2 b2)
    | (go_at_call 76
       refine (tby_any H2.out).mono ?_
       rintro e w3 ⟨sv, rfl, o3, r3⟩
       have O3 := Lib.hid (O2.out.trans o3)
       have R3 := Lib.hid r3
       clear o3 r3))
  go_ret
  exact ⟨sv, rfl, O3.out, R3.out⟩
theorem tst_any (width : Nat) (d t : List UInt8) (w : World) (hd : prS d) (ht : prS t) (hdl : d.length ≤ 100000) (htl : t.length ≤ 100000) (hw : width ≤ 1000) :
    Calls Tryd.prog 44 #[.string ⟨d.toArray⟩, .int .u64 width, .string ⟨t.toArray⟩] w fun e w' => e = .returned (.string ⟨(trM width d t).toArray⟩) ∧ Old w w' := by
  obtain ⟨cc, w1, hcv, o1, hback⟩ := conv_text w d (by omega)
  obtain ⟨cd, w2, hcv2, o2, hback2⟩ := conv_text w1 t (by omega)
  have O2 := Lib.hid (o1.trans o2)
  have RD : Hid (Reads w2 (.slice (some ⟨w.heap.size, 0, none⟩) d.length cc) d) := ⟨⟨_, _, rfl⟩, fun W o => hback W (o2.trans o)⟩
  have RT : Hid (Reads w2 (.slice (some ⟨w1.heap.size, 0, none⟩) t.length cd) t) := ⟨⟨_, _, rfl⟩, hback2⟩
  have HD := Lib.hid hd
  have HT := Lib.hid ht
  clear o1 o2 hback hback2 hd ht
  go_enter Tryd.func44, Tryd.ntmps44
  go_wp2_with (go_at_call 64
               refine (tbt_any width d t _ _ _ cc _ cd w2 rfl RD.out RT.out HD.out HT.out hdl htl hw).mono ?_
               rintro e w3 ⟨sv, rfl, o3, r3⟩
               have hcv3 := r3.2 w3 (Old.refl _)
               have O3 := Lib.hid (O2.out.trans o3)
               clear o3 r3)
  go_ret
  exact ⟨rfl, O3.out⟩
theorem itr_any (width : Nat) (d t : List UInt8) (w : World) (hd : prS d) (ht : prS t) (hdl : d.length ≤ 100000) (htl : t.length ≤ 100000) (hw : width ≤ 1000) :
    Calls Tryd.prog 19 #[.string ⟨d.toArray⟩, .int .u64 width, .string ⟨t.toArray⟩] w fun e w' => e = .returned (.string ⟨(trM width d t).toArray⟩) ∧ Old w w' := by
  go_enter Tryd.func19, Tryd.ntmps19
  go_wp2_with (go_at_call 44; refine (tst_any width d t w hd ht hdl htl hw).mono ?_; rintro e w1 ⟨rfl, o1⟩)
  go_ret
  exact ⟨rfl, o1⟩
theorem ext_take (d : List UInt8) (k : Nat) : (⟨d.toArray⟩ : ByteArray).extract 0 k = ⟨(d.take k).toArray⟩ := by
  have := extract_eq (⟨d.toArray⟩ : ByteArray) 0 k
  rw [this]
  simp [tx, bs]
theorem str_any (width : Nat) (d t : List UInt8) (w : World) (hdl : d.length ≤ 100000) (htl : t.length ≤ 100000) (hw : width ≤ 1000) :
    Calls Tryd.prog 20 #[.string ⟨d.toArray⟩, .int .i64 width, .string ⟨t.toArray⟩] w fun e w' => e = .returned (.string ⟨(trM width d t).toArray⟩) ∧ w' = w := by
  have s1 : (⟨d.toArray⟩ : ByteArray).size = d.length := by simp [ByteArray.size]
  have s2 : (⟨t.toArray⟩ : ByteArray).size = t.length := by simp [ByteArray.size]
  by_cases h1 : width < t.length
  · have e : trM width d t = t := by unfold trM; rw [if_pos h1]
    rw [e]
    go_enter Tryd.func20, Tryd.ntmps20
    go_wp2_with fail
    go_ret
    exact ⟨rfl, rfl⟩
  · obtain ⟨room, hroom⟩ : ∃ room, room = width - t.length := ⟨_, rfl⟩
    have hsub : (width : Int) - (t.length : Int) = (room : Nat) := by omega
    by_cases h2 : d.length ≤ room
    · have e : trM width d t = d := by unfold trM; rw [if_neg h1, if_pos (by omega)]
      rw [e]
      go_enter Tryd.func20, Tryd.ntmps20
      go_wp2_with fail
      go_ret
      exact ⟨rfl, rfl⟩
    · have e : trM width d t = d.take room ++ t := by unfold trM; rw [if_neg h1, if_neg (by omega), hroom]
      have e1 := ext_take d room
      have e2 : (⟨(d.take room).toArray⟩ : ByteArray) ++ ⟨t.toArray⟩ = ⟨(d.take room ++ t).toArray⟩ := by
        have := tx_append (d.take room) t
        exact this
      have e3 : ¬ 9223372036854775807 < (⟨(d.take room).toArray⟩ : ByteArray).size + (⟨t.toArray⟩ : ByteArray).size := by
        have : (⟨(d.take room).toArray⟩ : ByteArray).size = (d.take room).length := by simp [ByteArray.size]
        rw [this, s2]; simp; omega
      rw [e]
      clear hroom e
      go_enter Tryd.func20, Tryd.ntmps20
      go_wp2_with fail
      go_ret
      exact ⟨rfl, rfl⟩
end Go.Proofs.YtpkmamdgpjncoaaDoor
