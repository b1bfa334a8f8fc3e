/- A document's words, by separators. (Printed by mkdocu.py out of XDocW.) -/
import Derived.Test.YtbkdppfjmfepiaaDoorDocW
import Derived.Test.YtbkdppfjmfepiaaDoorLastNotAny
namespace Go.Proofs.YtbkdppfjmfepiaaDoor
open Go.RowKit
set_option linter.unusedVariables false
set_option linter.unusedSimpArgs false
set_option linter.unnecessarySimpa false
set_option maxRecDepth 100000

theorem tx_ne {S : Bs} (h : 0 < S.length) : ((tx S).toList == []) = false := by
  cases S with
  | nil => simp at h
  | cons c S => rw [Lib.toList_data]; rfl
theorem tx_ne2 {S : Bs} (h : 0 < S.length) : ((tx S).toList.isEmpty) = false := by
  cases S with
  | nil => simp at h
  | cons c S => rw [Lib.toList_data]; rfl
section
variable (p : Nat) (l : Bs) (k : Nat) (S : Bs) (w : World) (h : DP w p l k) (hk : k ≤ l.length) (ok : okT l) (okS : okT S) (h0S : 0 < S.length)
include h hk ok okS h0S
theorem fsu_any : Calls Tryd.prog 48 #[.pointer (some ⟨p, 0, none⟩), .string (tx S)] w fun e w' => e = .returned (.int .i64 (wS (setP S false) (l.take k))) ∧ Old w w' := by
  have H := Lib.hid h
  have OK := Lib.hid ok
  have OKS := Lib.hid okS
  have hse := tx_ne h0S
  have hse2 := tx_ne2 h0S
  clear okS
  have hn := (ok.take k).n
  have hb := lidx_lt (setP S false) (l.take k)
  have R : Hid (((wS (setP S false) (l.take k) : Nat) : Int) = lidx (setP S false) (l.take k) + 1) := by unfold Hid wS; omega
  clear h ok
  generalize hx : lidx (setP S false) (l.take k) = x at hb R
  have HX := Lib.hid hx
  clear hx
  by_cases h0 : x = -1
  · subst h0
    go_enter Tryd.func48, Tryd.ntmps48
    go_wp2_with (first
      | (go_at_call 33; refine (tb_any p l k _ H.out hk OK.out).mono ?_; rintro e w1 ⟨rfl, o1⟩; have O1 := Lib.hid o1; clear o1)
      | (go_at_call 70; refine (lia_any (l.take k) S _ (OK.out.take k) OKS.out).mono ?_; rw [HX.out]; rintro e w2 ⟨rfl, o2⟩; have O1 := Lib.hid (O1.out.trans o2); clear o2))
    go_ret
    exact ⟨ret_int R.out, O1.out⟩
  · have e1 : (x == -1) = false := by rw [beq_eq_false_iff_ne]; exact h0
    go_enter Tryd.func48, Tryd.ntmps48
    go_wp2_with (first
      | (go_at_call 33; refine (tb_any p l k _ H.out hk OK.out).mono ?_; rintro e w1 ⟨rfl, o1⟩; have O1 := Lib.hid o1; clear o1)
      | (go_at_call 70; refine (lia_any (l.take k) S _ (OK.out.take k) OKS.out).mono ?_; rw [HX.out]; rintro e w2 ⟨rfl, o2⟩; have O1 := Lib.hid (O1.out.trans o2); clear o2))
    go_ret
    exact ⟨ret_int R.out, O1.out⟩
theorem feu_any : Calls Tryd.prog 49 #[.pointer (some ⟨p, 0, none⟩), .string (tx S)] w fun e w' => e = .returned (.int .i64 (wE (setP S false) (l.drop k))) ∧ Old w w' := by
  have H := Lib.hid h
  have OK := Lib.hid ok
  have OKS := Lib.hid okS
  have hse := tx_ne h0S
  have hse2 := tx_ne2 h0S
  clear okS
  have hn := (ok.drop k).n
  have hb := fidx_lt (setP S false) (l.drop k)
  have hs : (tx (l.drop k)).size = (l.drop k).length := tx_size _
  by_cases h0 : 0 ≤ fidx (setP S false) (l.drop k)
  · have R : Hid (fidx (setP S false) (l.drop k) = (wE (setP S false) (l.drop k) : Nat)) := (fidx_flen h0).1
    have e1 : (((wE (setP S false) (l.drop k) : Nat) : Int) == -1) = false := by rw [beq_eq_false_iff_ne]; omega
    clear h ok hb h0
    generalize wE (setP S false) (l.drop k) = x at R e1 ⊢
    go_enter Tryd.func49, Tryd.ntmps49
    go_wp2_with (first
      | (go_at_call 34; refine (ta_any p l k _ H.out hk OK.out).mono ?_; rintro e w1 ⟨rfl, o1⟩; have O1 := Lib.hid o1; clear o1)
      | (go_at_call 71; refine (ia_any (l.drop k) S _ (OK.out.drop k) OKS.out).mono ?_; rw [R.out]; rintro e w2 ⟨rfl, o2⟩; have O1 := Lib.hid (O1.out.trans o2); clear o2))
    go_ret
    exact ⟨rfl, O1.out⟩
  · have R : Hid (fidx (setP S false) (l.drop k) = -1) := (fidx_neg (by omega)).1
    have R2 : Hid (wE (setP S false) (l.drop k) = (l.drop k).length) := (fidx_neg (p := setP S false) (l := l.drop k) (by omega)).2
    clear h ok hb h0
    go_enter Tryd.func49, Tryd.ntmps49
    go_wp2_with (first
      | (go_at_call 34; refine (ta_any p l k _ H.out hk OK.out).mono ?_; rintro e w1 ⟨rfl, o1⟩; have O1 := Lib.hid o1; clear o1)
      | (go_at_call 71; refine (ia_any (l.drop k) S _ (OK.out.drop k) OKS.out).mono ?_; rw [R.out]; rintro e w2 ⟨rfl, o2⟩; have O1 := Lib.hid (O1.out.trans o2); clear o2))
    go_ret
    exact ⟨ret_int (by rw [R2.out]; simp), O1.out⟩
theorem fssu_any : Calls Tryd.prog 50 #[.pointer (some ⟨p, 0, none⟩), .string (tx S)] w fun e w' => e = .returned (.int .i64 (wSS (setP S false) (setP S true) (l.take k))) ∧ Old w w' := by
  have H := Lib.hid h
  have OK := Lib.hid ok
  have OKS := Lib.hid okS
  have hse := tx_ne h0S
  have hse2 := tx_ne2 h0S
  clear okS
  have hn := (ok.take k).n
  have hb := lidx_lt (setP S true) (l.take k)
  have hs : (tx (l.take k)).size = (l.take k).length := tx_size _
  have R : Hid (((wSS (setP S false) (setP S true) (l.take k) : Nat) : Int) = if lidx (setP S true) (l.take k) < 0 then (0 : Int) else lidx (setP S false) ((l.take k).take (lidx (setP S true) (l.take k)).toNat) + 1) := by
    have h2 := lidx_lt (setP S false) ((l.take k).take (lidx (setP S true) (l.take k)).toNat)
    unfold Hid wSS; split <;> omega
  clear h ok
  generalize hx : lidx (setP S true) (l.take k) = x at hb R
  have HX := Lib.hid hx
  clear hx
  by_cases h0 : x = -1
  · subst h0
    go_enter Tryd.func50, Tryd.ntmps50
    go_wp2_with (first
      | (go_at_call 33; refine (tb_any p l k _ H.out hk OK.out).mono ?_; rintro e w1 ⟨rfl, o1⟩; have O1 := Lib.hid o1; clear o1)
      | (go_at_call 72; refine (lna_any (l.take k) S _ (OK.out.take k) OKS.out h0S).mono ?_; rw [HX.out]; rintro e w2 ⟨rfl, o2⟩; have O1 := Lib.hid (O1.out.trans o2); clear o2))
    go_ret
    exact ⟨ret_int (by have := R.out; simp at this; simpa using this), O1.out⟩
  · obtain ⟨m, rfl⟩ : ∃ m : Nat, x = m := ⟨x.toNat, by omega⟩
    have e1 : ((m : Int) == -1) = false := by rw [beq_eq_false_iff_ne]; exact h0
    have hm : m ≤ (l.take k).length := by omega
    have e2 : (tx (l.take k)).extract 0 m = tx ((l.take k).take m) := ext_pre
    have i0 : (0 : Int) ≤ m := by omega
    have i1 : (m : Int) ≤ (l.take k).length := by omega
    have hn2 : ((l.take k).take m).length ≤ 1000000 := by have := List.length_take_le m (l.take k); omega
    have R2 : Hid (((wSS (setP S false) (setP S true) (l.take k) : Nat) : Int) = lidx (setP S false) ((l.take k).take m) + 1) := by
      unfold Hid; have := R.out; rw [if_neg (by omega)] at this; simpa using this
    have hb2 := lidx_lt (setP S false) ((l.take k).take m)
    generalize hy : lidx (setP S false) ((l.take k).take m) = y at R2 hb2
    have HY := Lib.hid hy
    clear hy hb R h0 hm
    by_cases h1 : y = -1
    · subst h1
      go_enter Tryd.func50, Tryd.ntmps50
      go_wp2_with (first
        | (go_at_call 33; refine (tb_any p l k _ H.out hk OK.out).mono ?_; rintro e w1 ⟨rfl, o1⟩; have O1 := Lib.hid o1; clear o1)
        | (go_at_call 72; refine (lna_any (l.take k) S _ (OK.out.take k) OKS.out h0S).mono ?_; rw [HX.out]; rintro e w2 ⟨rfl, o2⟩; have O1 := Lib.hid (O1.out.trans o2); clear o2)
        | (go_at_call 70; refine (lia_any ((l.take k).take m) S _ ((OK.out.take k).take m) OKS.out).mono ?_; rw [HY.out]; rintro e w2 ⟨rfl, o2⟩; have O1 := Lib.hid (O1.out.trans o2); clear o2))
      go_ret
      exact ⟨ret_int R2.out, O1.out⟩
    · have e4 : (y == -1) = false := by rw [beq_eq_false_iff_ne]; exact h1
      go_enter Tryd.func50, Tryd.ntmps50
      go_wp2_with (first
        | (go_at_call 33; refine (tb_any p l k _ H.out hk OK.out).mono ?_; rintro e w1 ⟨rfl, o1⟩; have O1 := Lib.hid o1; clear o1)
        | (go_at_call 72; refine (lna_any (l.take k) S _ (OK.out.take k) OKS.out h0S).mono ?_; rw [HX.out]; rintro e w2 ⟨rfl, o2⟩; have O1 := Lib.hid (O1.out.trans o2); clear o2)
        | (go_at_call 70; refine (lia_any ((l.take k).take m) S _ ((OK.out.take k).take m) OKS.out).mono ?_; rw [HY.out]; rintro e w2 ⟨rfl, o2⟩; have O1 := Lib.hid (O1.out.trans o2); clear o2))
      go_ret
      exact ⟨ret_int R2.out, O1.out⟩
theorem fesu_any : Calls Tryd.prog 51 #[.pointer (some ⟨p, 0, none⟩), .string (tx S)] w fun e w' => e = .returned (.int .i64 (wES (setP S false) (setP S true) (l.drop k))) ∧ Old w w' := by
  have H := Lib.hid h
  have OK := Lib.hid ok
  have OKS := Lib.hid okS
  have hse := tx_ne h0S
  have hse2 := tx_ne2 h0S
  clear okS
  have hn := (ok.drop k).n
  have hb := fidx_lt (setP S true) (l.drop k)
  have hs : (tx (l.drop k)).size = (l.drop k).length := tx_size _
  obtain ⟨t, ht⟩ : ∃ t, t = l.drop k := ⟨_, rfl⟩
  have TAA := ta_any p l k w h hk ok
  have OKT := Lib.hid (OK.out.drop k)
  rw [← ht] at hn hb hs TAA OKT ⊢
  have TA := Lib.hid TAA
  clear TAA
  have R : Hid (wES (setP S false) (setP S true) t = if fidx (setP S true) t < 0 then t.length else (fidx (setP S true) t).toNat + flen (setP S false) (t.drop (fidx (setP S true) t).toNat)) := rfl
  clear h ok ht
  generalize hx : fidx (setP S true) t = x at hb R
  have HX := Lib.hid hx
  clear hx
  by_cases h0 : x = -1
  · subst h0
    go_enter Tryd.func51, Tryd.ntmps51
    go_wp2_with (first
      | (go_at_call 34; refine TA.out.mono ?_; rintro e w1 ⟨rfl, o1⟩; have O1 := Lib.hid o1; clear o1)
      | (go_at_call 73; refine (ina_any t S _ OKT.out OKS.out h0S).mono ?_; rw [HX.out]; rintro e w2 ⟨rfl, o2⟩; have O1 := Lib.hid (O1.out.trans o2); clear o2))
    go_ret
    exact ⟨ret_int (by rw [R.out]; rfl), O1.out⟩
  · obtain ⟨m, rfl⟩ : ∃ m : Nat, x = m := ⟨x.toNat, by omega⟩
    have e1 : ((m : Int) == -1) = false := by rw [beq_eq_false_iff_ne]; exact h0
    have e2 : (tx t).extract m t.length = tx (t.drop m) := ext_post
    have i0 : (0 : Int) ≤ m := by omega
    have i1 : (m : Int) ≤ t.length := by omega
    have R2 : Hid (wES (setP S false) (setP S true) t = m + flen (setP S false) (t.drop m)) := by
      unfold Hid; have := R.out; rw [if_neg (by omega)] at this; simpa using this
    have hb2 := fidx_lt (setP S false) (t.drop m)
    have hfl := flen_le (setP S false) (t.drop m)
    have hdl : (t.drop m).length = t.length - m := by simp
    by_cases h1 : 0 ≤ fidx (setP S false) (t.drop m)
    · have RY : Hid (fidx (setP S false) (t.drop m) = (flen (setP S false) (t.drop m) : Nat)) := (fidx_flen h1).1
      have e3 : (((flen (setP S false) (t.drop m) : Nat) : Int) == -1) = false := by rw [beq_eq_false_iff_ne]; omega
      generalize flen (setP S false) (t.drop m) = y at RY e3 R2 hfl
      clear hb hb2 h1 h0
      go_enter Tryd.func51, Tryd.ntmps51
      go_wp2_with (first
        | (go_at_call 34; refine TA.out.mono ?_; rintro e w1 ⟨rfl, o1⟩; have O1 := Lib.hid o1; clear o1)
        | (go_at_call 73; refine (ina_any t S _ OKT.out OKS.out h0S).mono ?_; rw [HX.out]; rintro e w2 ⟨rfl, o2⟩; have O1 := Lib.hid (O1.out.trans o2); clear o2)
        | (go_at_call 71; refine (ia_any (t.drop m) S _ (OKT.out.drop m) OKS.out).mono ?_; rw [RY.out]; rintro e w2 ⟨rfl, o2⟩; have O1 := Lib.hid (O1.out.trans o2); clear o2))
      go_ret
      exact ⟨ret_int (by rw [R2.out]; omega), O1.out⟩
    · have RY : Hid (fidx (setP S false) (t.drop m) = -1) := (fidx_neg (by omega)).1
      have R3 : Hid (wES (setP S false) (setP S true) t = t.length) := by
        unfold Hid
        have := (fidx_neg (p := setP S false) (l := t.drop m) (by omega)).2
        rw [R2.out, this]; omega
      clear hb hb2 h1 h0
      go_enter Tryd.func51, Tryd.ntmps51
      go_wp2_with (first
        | (go_at_call 34; refine TA.out.mono ?_; rintro e w1 ⟨rfl, o1⟩; have O1 := Lib.hid o1; clear o1)
        | (go_at_call 73; refine (ina_any t S _ OKT.out OKS.out h0S).mono ?_; rw [HX.out]; rintro e w2 ⟨rfl, o2⟩; have O1 := Lib.hid (O1.out.trans o2); clear o2)
        | (go_at_call 71; refine (ia_any (t.drop m) S _ (OKT.out.drop m) OKS.out).mono ?_; rw [RY.out]; rintro e w2 ⟨rfl, o2⟩; have O1 := Lib.hid (O1.out.trans o2); clear o2))
      go_ret
      exact ⟨ret_int (by rw [R3.out]), O1.out⟩
end
end Go.Proofs.YtbkdppfjmfepiaaDoor
