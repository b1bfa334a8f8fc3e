/- A document's words, by blanks. -/
import Derived.Test.YtleamondilmojaaDoorBytesW
import Derived.Test.YtleamondilmojaaDoorDocP
namespace Go.Proofs.YtleamondilmojaaDoor
open Go.RowKit
set_option linter.unusedVariables false
set_option linter.unusedSimpArgs false
set_option linter.unnecessarySimpa false
set_option maxRecDepth 100000

/-- Where a word begins, or ends: by one kind of bytes; behind (ahead of) those of the other kind. -/
def wS (p : UInt8 → Bool) (m : Bs) : Nat := (lidx p m + 1).toNat
def wSS (p q : UInt8 → Bool) (m : Bs) : Nat := if lidx q m < 0 then 0 else (lidx p (m.take (lidx q m).toNat) + 1).toNat
def wE (p : UInt8 → Bool) (m : Bs) : Nat := flen p m
def wES (p q : UInt8 → Bool) (m : Bs) : Nat := if fidx q m < 0 then m.length else (fidx q m).toNat + flen p (m.drop (fidx q m).toNat)
theorem wS_le (p : UInt8 → Bool) (m : Bs) : wS p m ≤ m.length := by have := lidx_lt p m; unfold wS; omega
theorem wSS_le (p q : UInt8 → Bool) (m : Bs) : wSS p q m ≤ m.length := by
  have h1 := lidx_lt q m
  have h2 := lidx_lt p (m.take (lidx q m).toNat)
  simp at h2
  unfold wSS; split <;> omega
theorem wE_le (p : UInt8 → Bool) (m : Bs) : wE p m ≤ m.length := flen_le p m
theorem wES_le (p q : UInt8 → Bool) (m : Bs) : wES p q m ≤ m.length := by
  have h1 := fidx_lt q m
  have h2 := flen_le p (m.drop (fidx q m).toNat)
  simp at h2
  unfold wES; split <;> omega
theorem ext_pre {l : Bs} {k : Nat} : (tx l).extract 0 k = tx (l.take k) := by rw [extract_eq, bs_tx]; rfl
theorem ext_post {l : Bs} {k : Nat} : (tx l).extract k l.length = tx (l.drop k) := by
  rw [extract_eq, bs_tx]; congr 1
  rw [List.take_of_length_le (by simp)]

section
variable (p : Nat) (l : Bs) (k : Nat) (w : World) (h : DP w p l k) (hk : k ≤ l.length) (ok : okT l)
include h hk ok
theorem fs_any : Calls Tryd.prog 70 #[.pointer (some ⟨p, 0, none⟩)] w fun e w' => e = .returned (.int .i64 (wS (isB 32) (l.take k))) ∧ Old w w' := by
  have H := Lib.hid h
  have OK := Lib.hid ok
  have hn := (ok.take k).n
  have hb := lidx_lt (isB 32) (l.take k)
  have R : Hid (((wS (isB 32) (l.take k) : Nat) : Int) = lidx (isB 32) (l.take k) + 1) := by unfold Hid wS; omega
  clear h ok
  generalize hx : lidx (isB 32) (l.take k) = x at hb R
  have HX := Lib.hid hx
  clear hx
  by_cases h0 : x = -1
  · subst h0
    go_enter Tryd.func70, Tryd.ntmps70
    go_wp2_with (first
      | (go_at_call 36; refine (tb_any p l k _ H.out hk OK.out).mono ?_; rintro e w1 ⟨rfl, o1⟩; have O1 := Lib.hid o1; clear o1)
      | (go_at_call 96; refine (lib_any (l.take k) 32 _ hn).mono ?_; rw [HX.out]; rintro e w2 ⟨rfl, rfl⟩))
    go_ret
    exact ⟨ret_int R.out, O1.out⟩
  · have e1 : (x == -1) = false := by rw [beq_eq_false_iff_ne]; exact h0
    go_enter Tryd.func70, Tryd.ntmps70
    go_wp2_with (first
      | (go_at_call 36; refine (tb_any p l k _ H.out hk OK.out).mono ?_; rintro e w1 ⟨rfl, o1⟩; have O1 := Lib.hid o1; clear o1)
      | (go_at_call 96; refine (lib_any (l.take k) 32 _ hn).mono ?_; rw [HX.out]; rintro e w2 ⟨rfl, rfl⟩))
    go_ret
    exact ⟨ret_int R.out, O1.out⟩
theorem fe_any : Calls Tryd.prog 71 #[.pointer (some ⟨p, 0, none⟩)] w fun e w' => e = .returned (.int .i64 (wE (isB 32) (l.drop k))) ∧ Old w w' := by
  have H := Lib.hid h
  have OK := Lib.hid ok
  have hn := (ok.drop k).n
  have hb := fidx_lt (isB 32) (l.drop k)
  have hs : (tx (l.drop k)).size = (l.drop k).length := tx_size _
  by_cases h0 : 0 ≤ fidx (isB 32) (l.drop k)
  · have R : Hid (fidx (isB 32) (l.drop k) = (wE (isB 32) (l.drop k) : Nat)) := (fidx_flen h0).1
    have e1 : (((wE (isB 32) (l.drop k) : Nat) : Int) == -1) = false := by rw [beq_eq_false_iff_ne]; omega
    clear h ok hb h0
    generalize wE (isB 32) (l.drop k) = x at R e1 ⊢
    go_enter Tryd.func71, Tryd.ntmps71
    go_wp2_with (first
      | (go_at_call 37; refine (ta_any p l k _ H.out hk OK.out).mono ?_; rintro e w1 ⟨rfl, o1⟩; have O1 := Lib.hid o1; clear o1)
      | (go_at_call 97; refine (ib_any (l.drop k) _).mono ?_; rw [R.out]; rintro e w2 ⟨rfl, rfl⟩))
    go_ret
    exact ⟨rfl, O1.out⟩
  · have R : Hid (fidx (isB 32) (l.drop k) = -1) := (fidx_neg (by omega)).1
    have R2 : Hid (wE (isB 32) (l.drop k) = (l.drop k).length) := (fidx_neg (p := isB 32) (l := l.drop k) (by omega)).2
    clear h ok hb h0
    go_enter Tryd.func71, Tryd.ntmps71
    go_wp2_with (first
      | (go_at_call 37; refine (ta_any p l k _ H.out hk OK.out).mono ?_; rintro e w1 ⟨rfl, o1⟩; have O1 := Lib.hid o1; clear o1)
      | (go_at_call 97; refine (ib_any (l.drop k) _).mono ?_; rw [R.out]; rintro e w2 ⟨rfl, rfl⟩))
    go_ret
    exact ⟨ret_int (by rw [R2.out]; simp), O1.out⟩
theorem fss_any : Calls Tryd.prog 72 #[.pointer (some ⟨p, 0, none⟩)] w fun e w' => e = .returned (.int .i64 (wSS (isB 32) (noB 32) (l.take k))) ∧ Old w w' := by
  have H := Lib.hid h
  have OK := Lib.hid ok
  have hn := (ok.take k).n
  have hb := lidx_lt (noB 32) (l.take k)
  have hs : (tx (l.take k)).size = (l.take k).length := tx_size _
  have R : Hid (((wSS (isB 32) (noB 32) (l.take k) : Nat) : Int) = if lidx (noB 32) (l.take k) < 0 then (0 : Int) else lidx (isB 32) ((l.take k).take (lidx (noB 32) (l.take k)).toNat) + 1) := by
    have h2 := lidx_lt (isB 32) ((l.take k).take (lidx (noB 32) (l.take k)).toNat)
    unfold Hid wSS; split <;> omega
  clear h ok
  generalize hx : lidx (noB 32) (l.take k) = x at hb R
  have HX := Lib.hid hx
  clear hx
  by_cases h0 : x = -1
  · subst h0
    go_enter Tryd.func72, Tryd.ntmps72
    go_wp2_with (first
      | (go_at_call 36; refine (tb_any p l k _ H.out hk OK.out).mono ?_; rintro e w1 ⟨rfl, o1⟩; have O1 := Lib.hid o1; clear o1)
      | (go_at_call 25; refine (lnb_any (l.take k) 32 _ hn).mono ?_; rw [HX.out]; rintro e w2 ⟨rfl, rfl⟩))
    go_ret
    exact ⟨ret_int (by have := R.out; simp at this; simpa using this), O1.out⟩
  · obtain ⟨m, rfl⟩ : ∃ m : Nat, x = m := ⟨x.toNat, by omega⟩
    have e1 : ((m : Int) == -1) = false := by rw [beq_eq_false_iff_ne]; exact h0
    have hm : m ≤ (l.take k).length := by omega
    have e2 : (tx (l.take k)).extract 0 m = tx ((l.take k).take m) := ext_pre
    have i0 : (0 : Int) ≤ m := by omega
    have i1 : (m : Int) ≤ (l.take k).length := by omega
    have hn2 : ((l.take k).take m).length ≤ 1000000 := by have := List.length_take_le m (l.take k); omega
    have R2 : Hid (((wSS (isB 32) (noB 32) (l.take k) : Nat) : Int) = lidx (isB 32) ((l.take k).take m) + 1) := by
      unfold Hid; have := R.out; rw [if_neg (by omega)] at this; simpa using this
    have hb2 := lidx_lt (isB 32) ((l.take k).take m)
    generalize hy : lidx (isB 32) ((l.take k).take m) = y at R2 hb2
    have HY := Lib.hid hy
    clear hy hb R h0 hm
    by_cases h1 : y = -1
    · subst h1
      go_enter Tryd.func72, Tryd.ntmps72
      go_wp2_with (first
        | (go_at_call 36; refine (tb_any p l k _ H.out hk OK.out).mono ?_; rintro e w1 ⟨rfl, o1⟩; have O1 := Lib.hid o1; clear o1)
        | (go_at_call 25; refine (lnb_any (l.take k) 32 _ hn).mono ?_; rw [HX.out]; rintro e w2 ⟨rfl, rfl⟩)
        | (go_at_call 96; refine (lib_any ((l.take k).take m) 32 _ hn2).mono ?_; rw [HY.out]; rintro e w2 ⟨rfl, rfl⟩))
      go_ret
      exact ⟨ret_int R2.out, O1.out⟩
    · have e4 : (y == -1) = false := by rw [beq_eq_false_iff_ne]; exact h1
      go_enter Tryd.func72, Tryd.ntmps72
      go_wp2_with (first
        | (go_at_call 36; refine (tb_any p l k _ H.out hk OK.out).mono ?_; rintro e w1 ⟨rfl, o1⟩; have O1 := Lib.hid o1; clear o1)
        | (go_at_call 25; refine (lnb_any (l.take k) 32 _ hn).mono ?_; rw [HX.out]; rintro e w2 ⟨rfl, rfl⟩)
        | (go_at_call 96; refine (lib_any ((l.take k).take m) 32 _ hn2).mono ?_; rw [HY.out]; rintro e w2 ⟨rfl, rfl⟩))
      go_ret
      exact ⟨ret_int R2.out, O1.out⟩
theorem fes_any : Calls Tryd.prog 73 #[.pointer (some ⟨p, 0, none⟩)] w fun e w' => e = .returned (.int .i64 (wES (isB 32) (noB 32) (l.drop k))) ∧ Old w w' := by
  have H := Lib.hid h
  have OK := Lib.hid ok
  have hn := (ok.drop k).n
  have hb := fidx_lt (noB 32) (l.drop k)
  have hs : (tx (l.drop k)).size = (l.drop k).length := tx_size _
  obtain ⟨t, ht⟩ : ∃ t, t = l.drop k := ⟨_, rfl⟩
  have TAA := ta_any p l k w h hk ok
  rw [← ht] at hn hb hs TAA ⊢
  have TA := Lib.hid TAA
  clear TAA
  have R : Hid (wES (isB 32) (noB 32) t = if fidx (noB 32) t < 0 then t.length else (fidx (noB 32) t).toNat + flen (isB 32) (t.drop (fidx (noB 32) t).toNat)) := rfl
  clear h ok ht
  generalize hx : fidx (noB 32) t = x at hb R
  have HX := Lib.hid hx
  clear hx
  by_cases h0 : x = -1
  · subst h0
    go_enter Tryd.func73, Tryd.ntmps73
    go_wp2_with (first
      | (go_at_call 37; refine TA.out.mono ?_; rintro e w1 ⟨rfl, o1⟩; have O1 := Lib.hid o1; clear o1)
      | (go_at_call 24; refine (inb_any t 32 _ hn).mono ?_; rw [HX.out]; rintro e w2 ⟨rfl, rfl⟩))
    go_ret
    exact ⟨ret_int (by rw [R.out]; rfl), O1.out⟩
  · obtain ⟨m, rfl⟩ : ∃ m : Nat, x = m := ⟨x.toNat, by omega⟩
    have e1 : ((m : Int) == -1) = false := by rw [beq_eq_false_iff_ne]; exact h0
    have e2 : (tx t).extract m t.length = tx (t.drop m) := ext_post
    have i0 : (0 : Int) ≤ m := by omega
    have i1 : (m : Int) ≤ t.length := by omega
    have R2 : Hid (wES (isB 32) (noB 32) t = m + flen (isB 32) (t.drop m)) := by
      unfold Hid; have := R.out; rw [if_neg (by omega)] at this; simpa using this
    have hb2 := fidx_lt (isB 32) (t.drop m)
    have hfl := flen_le (isB 32) (t.drop m)
    have hdl : (t.drop m).length = t.length - m := by simp
    by_cases h1 : 0 ≤ fidx (isB 32) (t.drop m)
    · have RY : Hid (fidx (isB 32) (t.drop m) = (flen (isB 32) (t.drop m) : Nat)) := (fidx_flen h1).1
      have e3 : (((flen (isB 32) (t.drop m) : Nat) : Int) == -1) = false := by rw [beq_eq_false_iff_ne]; omega
      generalize flen (isB 32) (t.drop m) = y at RY e3 R2 hfl
      clear hb hb2 h1 h0
      go_enter Tryd.func73, Tryd.ntmps73
      go_wp2_with (first
        | (go_at_call 37; refine TA.out.mono ?_; rintro e w1 ⟨rfl, o1⟩; have O1 := Lib.hid o1; clear o1)
        | (go_at_call 24; refine (inb_any t 32 _ hn).mono ?_; rw [HX.out]; rintro e w2 ⟨rfl, rfl⟩)
        | (go_at_call 97; refine (ib_any (t.drop m) _).mono ?_; rw [RY.out]; rintro e w2 ⟨rfl, rfl⟩))
      go_ret
      exact ⟨ret_int (by rw [R2.out]; omega), O1.out⟩
    · have RY : Hid (fidx (isB 32) (t.drop m) = -1) := (fidx_neg (by omega)).1
      have R3 : Hid (wES (isB 32) (noB 32) t = t.length) := by
        unfold Hid
        have := (fidx_neg (p := isB 32) (l := t.drop m) (by omega)).2
        rw [R2.out, this]; omega
      clear hb hb2 h1 h0
      go_enter Tryd.func73, Tryd.ntmps73
      go_wp2_with (first
        | (go_at_call 37; refine TA.out.mono ?_; rintro e w1 ⟨rfl, o1⟩; have O1 := Lib.hid o1; clear o1)
        | (go_at_call 24; refine (inb_any t 32 _ hn).mono ?_; rw [HX.out]; rintro e w2 ⟨rfl, rfl⟩)
        | (go_at_call 97; refine (ib_any (t.drop m) _).mono ?_; rw [RY.out]; rintro e w2 ⟨rfl, rfl⟩))
      go_ret
      exact ⟨ret_int (by rw [R3.out]), O1.out⟩
end
end Go.Proofs.YtleamondilmojaaDoor
