/- FnNotByte: the first and the last place of a byte that is another one, or of a sign that is none of some. (Printed by mklawnb.py.) -/
import Derived.Test.YtleamondilmojaaDoorLastNotAny
import Derived.Test.YtleamondilmojaaDoorAscii
import Derived.Test.YtleamondilmojaaDoorTextN
import Derived.Deep.Cut
import Derived.LoopTactic
namespace Go.Proofs.YtleamondilmojaaDoor
open Go.RowKit
set_option linter.unusedVariables false
set_option linter.unusedSimpArgs false
set_option linter.unnecessarySimpa false
set_option maxRecDepth 100000

theorem u8_smallN {x : Int} (h : (Lit.int .u8 x).wf = true) : 0 ≤ x ∧ x ≤ 255 := by
  have h2 := h
  simp [Lit.wf, IntKind.min, IntKind.max, IntKind.signed, IntKind.bits] at h2
  omega
theorem empty_baN {s : ByteArray} (h : s.size = 0) : s = ⟨#[]⟩ := by
  have : bs s = [] := List.eq_nil_of_length_eq_zero (by rw [← h, ← tx_size (bs s), tx_bs])
  rw [← tx_bs s, this]; rfl
theorem toListN (s : ByteArray) : s.toList = bs s := ByteArray.toList_eq s
theorem ba_neN {s : ByteArray} (h : 0 < s.size) : (s.toList == []) = false := by
  rw [beq_eq_false_iff_ne, toListN]
  intro e
  have := bs_len s
  rw [e] at this; simp at this; omega
theorem ba_neN2 {s : ByteArray} (h : 0 < s.size) : s.toList.isEmpty = false := by
  rw [toListN]
  cases hb : bs s with
  | nil => have := bs_len s; rw [hb] at this; simp at this; omega
  | cons a b => rfl
theorem nb2_any (l : Bs) (c : Int) (w : World) (hn : l.length ≤ 1000000) : Calls Tryd.prog 11 #[.string (tx l), .int .u8 c] w fun e w' => e = .returned (.tuple #[.int .i64 (fidx (noB c) l), .int .i64 (lidx (noB c) l)]) ∧ w' = w := by
  go_enter Tryd.func11, Tryd.ntmps11
  go_wp2_with (first
    | (go_at_call 24; refine (inb_any l c w hn).mono ?_; rintro e w1 ⟨rfl, rfl⟩)
    | (go_at_call 25; refine (lnb_any l c _ hn).mono ?_; rintro e w2 ⟨rfl, rfl⟩))
  go_ret2
  exact ⟨rfl, rfl⟩
theorem na2_any (l S : Bs) (w : World) (ok : okT l) (okS : okT S) (h0 : 0 < S.length) : Calls Tryd.prog 12 #[.string (tx l), .string (tx S)] w fun e w' => e = .returned (.tuple #[.int .i64 (fidx (setP S true) l), .int .i64 (lidx (setP S true) l)]) ∧ Old w w' := by
  have OK := Lib.hid ok
  have OS := Lib.hid okS
  clear ok okS
  go_enter Tryd.func12, Tryd.ntmps12
  go_wp2_with (first
    | (go_at_call 26; refine (ina_any l S w OK.out OS.out h0).mono ?_; rintro e w1 ⟨rfl, o1⟩; have O1 := Lib.hid o1; clear o1)
    | (go_at_call 27; refine (lna_any l S w1 OK.out OS.out h0).mono ?_; rintro e w2 ⟨rfl, o2⟩; have O2 := Lib.hid (O1.out.trans o2); clear o2))
  go_ret2
  exact ⟨rfl, O2.out⟩
theorem hasb_take_succ {S : Bs} {j : Nat} {c : UInt8} (h : j < S.length) : hasb (S.take (j + 1)) c = (hasb (S.take j) c || (S[j] == c)) := by
  rw [List.take_succ_eq_append_getElem h]
  unfold hasb
  have e : (c == S[j]) = (S[j] == c) := by rw [Bool.eq_iff_iff]; simp; exact eq_comm
  rw [List.contains_append, List.contains_cons, List.contains_nil, Bool.or_false, e]
theorem lf_ok {f : Int} (h : -1 ≤ f) : (if 0 ≤ f then f else -1) = f := by split <;> omega
/-- What holds ahead of round k. -/
structure NR (l S : Bs) (c : Int) (k : Nat) (f n x y : Int) : Prop where
  f : f = fidx (noB c) (l.take k)
  n : n = lidx (noB c) (l.take k)
  x : x = fidx (setP S true) (l.take k)
  y : y = lidx (setP S true) (l.take k)
theorem NR.next {l S : Bs} {c : Int} {k : Nat} {f n x y : Int} (h : NR l S c k f n x y) (hk : k < l.length) : NR l S c (k + 1) (if 0 ≤ f then f else if noB c l[k] then (k : Int) else -1) (if noB c l[k] then (k : Int) else n) (if 0 ≤ x then x else if setP S true l[k] then (k : Int) else -1) (if setP S true l[k] then (k : Int) else y) := by
  obtain ⟨rfl, rfl, rfl, rfl⟩ := h
  exact ⟨(fidx_take_succ _ hk).symm, (lidx_take_succ _ hk).symm, (fidx_take_succ _ hk).symm, (lidx_take_succ _ hk).symm⟩
theorem NR.low {l S : Bs} {c : Int} {k : Nat} {f n x y : Int} (h : NR l S c k f n x y) : -1 ≤ f ∧ -1 ≤ x := by
  obtain ⟨rfl, rfl, rfl, rfl⟩ := h
  exact ⟨(fidx_lt _ _).1, (fidx_lt _ _).1⟩
set_option maxHeartbeats 8000000 in
theorem lawNB_any (s : ByteArray) (c : Int) (q : ByteArray) (w : World) (hs : s.size ≤ 140737488351232) (hc8 : (Lit.int .u8 c).wf = true) (hq : q.size ≤ 140737488351232) :
    Calls Tryd.prog 3 #[.string s, .int .u8 c, .string q] w fun e w' => e = .returned (.bool true) ∧ Below w.heap.size w w' := by
  obtain ⟨c0, c255⟩ := u8_smallN hc8
  clear hc8
  show Calls Tryd.prog 3 #[.string s, .int .u8 c, .string q] w fun e w' => e = .returned (.bool true) ∧ Old w w'
  go_enter Tryd.func3, Tryd.ntmps3
  by_cases g1 : 2147483647 < s.size
  · have d1 : decide ((s.size : Int) > 2147483647) = true := by simp; omega
    go_wp2_with fail
    go_ret
    exact ⟨rfl, Old.refl _⟩
  · have d1 : decide ((s.size : Int) > 2147483647) = false := by simp; omega
    by_cases g2 : 2147483647 < q.size
    · have d2 : decide ((q.size : Int) > 2147483647) = true := by simp; omega
      go_wp2_with fail
      go_ret
      exact ⟨rfl, Old.refl _⟩
    · have d2 : decide ((q.size : Int) > 2147483647) = false := by simp; omega
      by_cases g3 : asc10 s = true ∧ asc10 q = true ∧ 0 < q.size ∧ q.size ≤ 20 ∧ c < 128
      · obtain ⟨e1, e2, h0, h20, hc⟩ := g3
        have H1 := Lib.hid e1
        have H2 := Lib.hid e2
        obtain ⟨l, rfl⟩ : ∃ l, s = tx l := ⟨bs s, (tx_bs s).symm⟩
        obtain ⟨S, rfl⟩ : ∃ S, q = tx S := ⟨bs q, (tx_bs q).symm⟩
        have a1 := asc10_iff.1 e1
        have a2 := asc10_iff.1 e2
        have ok : okT l := ⟨asc_tx a1.1, by have := a1.2; rw [tx_size] at this; omega⟩
        have okS : okT S := ⟨asc_tx a2.1, by have := a2.2; rw [tx_size] at this; omega⟩
        have hsl : (tx l).size = l.length := tx_size l
        have hsS : (tx S).size = S.length := tx_size S
        have h0S : 0 < S.length := by omega
        have n1 := ba_neN h0
        have n2 := ba_neN2 h0
        have hln : l.length ≤ 1000 := by have := a1.2; omega
        have hSn : S.length ≤ 20 := by omega
        have OK := Lib.hid ok
        have OS := Lib.hid okS
        clear e1 e2 a1 a2 ok okS g1 g2 d1 d2
        go_upto_region 9 with (first
          | (go_at_call 10; (with_reducible refine (ascii_any (tx l) w (by omega)).mono ?_); rw [H1.out]; rintro e w1 ⟨rfl, h⟩; obtain rfl : w = w1 := h)
          | (go_at_call 10; (with_reducible refine (ascii_any (tx S) w (by omega)).mono ?_); rw [H2.out]; rintro e w2 ⟨rfl, h⟩; obtain rfl : w = w2 := h)
          | (go_at_call 11; refine (nb2_any l c w (by omega)).mono ?_; rintro e w3 ⟨rfl, rfl⟩)
          | (go_at_call 12; refine (na2_any l S _ OK.out OS.out h0S).mono ?_; rintro e w4 ⟨rfl, o4⟩; have O4 := Lib.hid o4; clear o4))
        go_loopw [11, 12, 13, 14, 15] (fun fv nv xv yv iv wr => ∃ (k : Nat) (f n x y : Int), k ≤ l.length ∧ iv = .int .i64 k ∧ fv = .int .i64 f ∧ nv = .int .i64 n ∧ xv = .int .i64 x ∧ yv = .int .i64 y ∧ NR l S c k f n x y ∧ Old w4 wr) (fun _ _ _ _ iv _ => l.length - (intOf iv).toNat)
        case atStart => exact ⟨0, -1, -1, -1, -1, Nat.zero_le _, rfl, rfl, rfl, rfl, rfl, ⟨rfl, rfl, rfl, rfl⟩, Old.refl _⟩
        case round =>
          obtain ⟨k, f, n, x, y, hk, rfl, rfl, rfl, rfl, rfl, hnr, hold⟩ := hrel
          have NR0 := Lib.hid hnr
          have OO := Lib.hid hold
          obtain ⟨lf, lx⟩ := hnr.low
          clear hnr hold
          by_cases hkn : k < l.length
          · have nx := NR0.out.next hkn
            obtain ⟨b, hb⟩ : ∃ b, b = l[k] := ⟨_, rfl⟩
            have hg : (tx l)[k]'(by omega) = b := (get_tx hkn (by omega)).trans hb.symm
            rw [← hb] at nx
            have NX := Lib.hid nx
            clear nx hb
            cases hp : noB c b with
            | false =>
              have d5 : ((b.toNat : Int) != c) = false := hp
              have d6 : ((b.toNat : Int) == c) = true := by simpa using noB_false hp
              have PB := Lib.hid hp
              clear hp
              go_wp2_with fail
              go_loopw [16, 17] (fun av jv wz => ∃ j : Nat, j ≤ S.length ∧ jv = .int .i64 j ∧ av = .bool (hasb (S.take j) b) ∧ Old wr wz) (fun _ jv _ => S.length - (intOf jv).toNat)
              case atStart => exact ⟨0, Nat.zero_le _, rfl, rfl, Old.refl _⟩
              case round =>
                obtain ⟨j, hj, rfl, rfl, hold2⟩ := hrel
                have O2 := Lib.hid hold2
                clear hold2
                by_cases hjn : j < S.length
                · obtain ⟨e, he⟩ : ∃ e, e = S[j] := ⟨_, rfl⟩
                  have hg2 : (tx S)[j]'(by omega) = e := (get_tx hjn (by omega)).trans he.symm
                  have HS1 := Lib.hid (hasb_take_succ (c := b) hjn)
                  rw [← he] at HS1
                  clear he
                  cases hav : hasb (S.take j) b with
                  | true =>
                    have HA := Lib.hid hav
                    clear hav
                    go_wp2_with fail
                    go_quiet (fail)
                    go_wp2_with fail
                    go_roundw
                    case rel => exact ⟨j + 1, by omega, by go_num, by rw [HS1.out, HA.out]; rfl, O2.out.then_drewN _⟩
                    case measure => simp [intOf]; omega
                  | false =>
                    have HA := Lib.hid hav
                    clear hav
                    by_cases hec : e = b
                    · have d1 : ((e.toNat : Int) == (b.toNat : Int)) = true := beq_same hec
                      have HE := Lib.hid hec
                      clear hec
                      go_wp2_with fail
                      go_quiet (fail)
                      go_wp2_with fail
                      go_roundw
                      case rel => exact ⟨j + 1, by omega, by go_num, by rw [HS1.out, HA.out, HE.out]; simp, O2.out.then_drewN _⟩
                      case measure => simp [intOf]; omega
                    · have d1 : ((e.toNat : Int) == (b.toNat : Int)) = false := beq_diff hec
                      have HE := Lib.hid hec
                      clear hec
                      go_wp2_with fail
                      go_quiet (fail)
                      go_wp2_with fail
                      go_roundw
                      case rel => exact ⟨j + 1, by omega, by go_num, by rw [HS1.out, HA.out]; simp [HE.out], O2.out.then_drewN _⟩
                      case measure => simp [intOf]; omega
                · obtain rfl : j = S.length := by omega
                  rw [List.take_length]
                  cases hsb : hasb S b with
                  | true =>
                    have SP := Lib.hid (show setP S true b = false by unfold setP; rw [hsb]; rfl)
                    clear hsb
                    go_wp2_with fail
                    go_roundw
                    case rel =>
                      have hx := NX.out
                      rw [SP.out, PB.out] at hx
                      refine ⟨k + 1, _, _, _, _, by omega, by go_num, rfl, rfl, rfl, rfl, ?_, OO.out.trans O2.out⟩
                      simpa [lf_ok lf, lf_ok lx] using hx
                    case measure => simp [intOf]; omega
                  | false =>
                    have SP := Lib.hid (show setP S true b = true by unfold setP; rw [hsb]; rfl)
                    clear hsb
                    by_cases hx0 : x < 0
                    · go_wp2_with fail
                      go_roundw
                      case rel =>
                        have hx := NX.out
                        rw [SP.out, PB.out] at hx
                        refine ⟨k + 1, _, _, _, _, by omega, by go_num, rfl, rfl, rfl, rfl, ?_, OO.out.trans O2.out⟩
                        have hx1 : ¬ 0 ≤ x := by omega
                        simpa [hx1, lf_ok lf] using hx
                      case measure => simp [intOf]; omega
                    · go_wp2_with fail
                      go_roundw
                      case rel =>
                        have hx := NX.out
                        rw [SP.out, PB.out] at hx
                        refine ⟨k + 1, _, _, _, _, by omega, by go_num, rfl, rfl, rfl, rfl, ?_, OO.out.trans O2.out⟩
                        have hx1 : 0 ≤ x := by omega
                        simpa [hx1, lf_ok lf] using hx
                      case measure => simp [intOf]; omega
            | true =>
              have d5 : ((b.toNat : Int) != c) = true := hp
              have d6 : ((b.toNat : Int) == c) = false := noB_true hp
              have PB := Lib.hid hp
              clear hp
              by_cases hf0 : f < 0
              · have hf1 : ¬ 0 ≤ f := by omega
                have HF := Lib.hid hf1
                clear hf1
                go_wp2_with fail
                go_loopw [16, 17] (fun av jv wz => ∃ j : Nat, j ≤ S.length ∧ jv = .int .i64 j ∧ av = .bool (hasb (S.take j) b) ∧ Old wr wz) (fun _ jv _ => S.length - (intOf jv).toNat)
                case atStart => exact ⟨0, Nat.zero_le _, rfl, rfl, Old.refl _⟩
                case round =>
                  obtain ⟨j, hj, rfl, rfl, hold2⟩ := hrel
                  have O2 := Lib.hid hold2
                  clear hold2
                  by_cases hjn : j < S.length
                  · obtain ⟨e, he⟩ : ∃ e, e = S[j] := ⟨_, rfl⟩
                    have hg2 : (tx S)[j]'(by omega) = e := (get_tx hjn (by omega)).trans he.symm
                    have HS1 := Lib.hid (hasb_take_succ (c := b) hjn)
                    rw [← he] at HS1
                    clear he
                    cases hav : hasb (S.take j) b with
                    | true =>
                      have HA := Lib.hid hav
                      clear hav
                      go_wp2_with fail
                      go_quiet (fail)
                      go_wp2_with fail
                      go_roundw
                      case rel => exact ⟨j + 1, by omega, by go_num, by rw [HS1.out, HA.out]; rfl, O2.out.then_drewN _⟩
                      case measure => simp [intOf]; omega
                    | false =>
                      have HA := Lib.hid hav
                      clear hav
                      by_cases hec : e = b
                      · have d1 : ((e.toNat : Int) == (b.toNat : Int)) = true := beq_same hec
                        have HE := Lib.hid hec
                        clear hec
                        go_wp2_with fail
                        go_quiet (fail)
                        go_wp2_with fail
                        go_roundw
                        case rel => exact ⟨j + 1, by omega, by go_num, by rw [HS1.out, HA.out, HE.out]; simp, O2.out.then_drewN _⟩
                        case measure => simp [intOf]; omega
                      · have d1 : ((e.toNat : Int) == (b.toNat : Int)) = false := beq_diff hec
                        have HE := Lib.hid hec
                        clear hec
                        go_wp2_with fail
                        go_quiet (fail)
                        go_wp2_with fail
                        go_roundw
                        case rel => exact ⟨j + 1, by omega, by go_num, by rw [HS1.out, HA.out]; simp [HE.out], O2.out.then_drewN _⟩
                        case measure => simp [intOf]; omega
                  · obtain rfl : j = S.length := by omega
                    rw [List.take_length]
                    cases hsb : hasb S b with
                    | true =>
                      have SP := Lib.hid (show setP S true b = false by unfold setP; rw [hsb]; rfl)
                      clear hsb
                      go_wp2_with fail
                      go_roundw
                      case rel =>
                        have hx := NX.out
                        rw [SP.out, PB.out] at hx
                        refine ⟨k + 1, _, _, _, _, by omega, by go_num, rfl, rfl, rfl, rfl, ?_, OO.out.trans O2.out⟩
                        simpa [if_neg (show ¬ (0 : Int) ≤ f by omega), lf_ok lx] using hx
                      case measure => simp [intOf]; omega
                    | false =>
                      have SP := Lib.hid (show setP S true b = true by unfold setP; rw [hsb]; rfl)
                      clear hsb
                      by_cases hx0 : x < 0
                      · go_wp2_with fail
                        go_roundw
                        case rel =>
                          have hx := NX.out
                          rw [SP.out, PB.out] at hx
                          refine ⟨k + 1, _, _, _, _, by omega, by go_num, rfl, rfl, rfl, rfl, ?_, OO.out.trans O2.out⟩
                          have hx1 : ¬ 0 ≤ x := by omega
                          simpa [hx1, if_neg (show ¬ (0 : Int) ≤ f by omega)] using hx
                        case measure => simp [intOf]; omega
                      · go_wp2_with fail
                        go_roundw
                        case rel =>
                          have hx := NX.out
                          rw [SP.out, PB.out] at hx
                          refine ⟨k + 1, _, _, _, _, by omega, by go_num, rfl, rfl, rfl, rfl, ?_, OO.out.trans O2.out⟩
                          have hx1 : 0 ≤ x := by omega
                          simpa [hx1, if_neg (show ¬ (0 : Int) ≤ f by omega)] using hx
                        case measure => simp [intOf]; omega
              · have hf1 : 0 ≤ f := by omega
                have HF := Lib.hid hf1
                clear hf1
                go_wp2_with fail
                go_loopw [16, 17] (fun av jv wz => ∃ j : Nat, j ≤ S.length ∧ jv = .int .i64 j ∧ av = .bool (hasb (S.take j) b) ∧ Old wr wz) (fun _ jv _ => S.length - (intOf jv).toNat)
                case atStart => exact ⟨0, Nat.zero_le _, rfl, rfl, Old.refl _⟩
                case round =>
                  obtain ⟨j, hj, rfl, rfl, hold2⟩ := hrel
                  have O2 := Lib.hid hold2
                  clear hold2
                  by_cases hjn : j < S.length
                  · obtain ⟨e, he⟩ : ∃ e, e = S[j] := ⟨_, rfl⟩
                    have hg2 : (tx S)[j]'(by omega) = e := (get_tx hjn (by omega)).trans he.symm
                    have HS1 := Lib.hid (hasb_take_succ (c := b) hjn)
                    rw [← he] at HS1
                    clear he
                    cases hav : hasb (S.take j) b with
                    | true =>
                      have HA := Lib.hid hav
                      clear hav
                      go_wp2_with fail
                      go_quiet (fail)
                      go_wp2_with fail
                      go_roundw
                      case rel => exact ⟨j + 1, by omega, by go_num, by rw [HS1.out, HA.out]; rfl, O2.out.then_drewN _⟩
                      case measure => simp [intOf]; omega
                    | false =>
                      have HA := Lib.hid hav
                      clear hav
                      by_cases hec : e = b
                      · have d1 : ((e.toNat : Int) == (b.toNat : Int)) = true := beq_same hec
                        have HE := Lib.hid hec
                        clear hec
                        go_wp2_with fail
                        go_quiet (fail)
                        go_wp2_with fail
                        go_roundw
                        case rel => exact ⟨j + 1, by omega, by go_num, by rw [HS1.out, HA.out, HE.out]; simp, O2.out.then_drewN _⟩
                        case measure => simp [intOf]; omega
                      · have d1 : ((e.toNat : Int) == (b.toNat : Int)) = false := beq_diff hec
                        have HE := Lib.hid hec
                        clear hec
                        go_wp2_with fail
                        go_quiet (fail)
                        go_wp2_with fail
                        go_roundw
                        case rel => exact ⟨j + 1, by omega, by go_num, by rw [HS1.out, HA.out]; simp [HE.out], O2.out.then_drewN _⟩
                        case measure => simp [intOf]; omega
                  · obtain rfl : j = S.length := by omega
                    rw [List.take_length]
                    cases hsb : hasb S b with
                    | true =>
                      have SP := Lib.hid (show setP S true b = false by unfold setP; rw [hsb]; rfl)
                      clear hsb
                      go_wp2_with fail
                      go_roundw
                      case rel =>
                        have hx := NX.out
                        rw [SP.out, PB.out] at hx
                        refine ⟨k + 1, _, _, _, _, by omega, by go_num, rfl, rfl, rfl, rfl, ?_, OO.out.trans O2.out⟩
                        simpa [HF.out, lf_ok lx] using hx
                      case measure => simp [intOf]; omega
                    | false =>
                      have SP := Lib.hid (show setP S true b = true by unfold setP; rw [hsb]; rfl)
                      clear hsb
                      by_cases hx0 : x < 0
                      · go_wp2_with fail
                        go_roundw
                        case rel =>
                          have hx := NX.out
                          rw [SP.out, PB.out] at hx
                          refine ⟨k + 1, _, _, _, _, by omega, by go_num, rfl, rfl, rfl, rfl, ?_, OO.out.trans O2.out⟩
                          have hx1 : ¬ 0 ≤ x := by omega
                          simpa [hx1, HF.out] using hx
                        case measure => simp [intOf]; omega
                      · go_wp2_with fail
                        go_roundw
                        case rel =>
                          have hx := NX.out
                          rw [SP.out, PB.out] at hx
                          refine ⟨k + 1, _, _, _, _, by omega, by go_num, rfl, rfl, rfl, rfl, ?_, OO.out.trans O2.out⟩
                          have hx1 : 0 ≤ x := by omega
                          simpa [hx1, HF.out] using hx
                        case measure => simp [intOf]; omega
          · obtain rfl : k = l.length := by omega
            have hz := NR0.out
            rw [show NR l S c l.length f n x y ↔ NR l S c l.length f n x y from Iff.rfl] at hz
            obtain ⟨r1, r2, r3, r4⟩ := hz
            rw [List.take_length] at r1 r2 r3 r4
            subst r1 r2 r3 r4
            go_wp2_with fail
            go_ret
            exact ⟨rfl, O4.out.trans OO.out⟩
      · cases e1 : asc10 s with
        | false =>
          have H1 := Lib.hid e1
          have H2 : Hid (asc10 q = asc10 q) := rfl
          clear e1 g3
          go_wp2_with (first
          | (go_at_call 10; (with_reducible refine (ascii_any s w (by omega)).mono ?_); rw [H1.out]; rintro e w1 ⟨rfl, h⟩; obtain rfl : w = w1 := h)
          | (go_at_call 10; (with_reducible refine (ascii_any q w (by omega)).mono ?_); rw [H2.out]; rintro e w2 ⟨rfl, h⟩; obtain rfl : w = w2 := h))
          go_ret
          exact ⟨rfl, Old.refl _⟩
        | true =>
          have H1 := Lib.hid e1
          cases e2 : asc10 q with
          | false =>
            have H2 := Lib.hid e2
            clear e1 e2 g3
            go_wp2_with (first
            | (go_at_call 10; (with_reducible refine (ascii_any s w (by omega)).mono ?_); rw [H1.out]; rintro e w1 ⟨rfl, h⟩; obtain rfl : w = w1 := h)
            | (go_at_call 10; (with_reducible refine (ascii_any q w (by omega)).mono ?_); rw [H2.out]; rintro e w2 ⟨rfl, h⟩; obtain rfl : w = w2 := h))
            go_ret
            exact ⟨rfl, Old.refl _⟩
          | true =>
            have H2 := Lib.hid e2
            by_cases h0 : q.size = 0
            · obtain rfl : q = ⟨#[]⟩ := empty_baN h0
              clear e1 e2 g3 h0
              go_wp2_with (first
              | (go_at_call 10; (with_reducible refine (ascii_any s w (by omega)).mono ?_); rw [H1.out]; rintro e w1 ⟨rfl, h⟩; obtain rfl : w = w1 := h)
              | (go_at_call 10; (with_reducible refine (ascii_any ⟨#[]⟩ w (by omega)).mono ?_); rw [H2.out]; rintro e w2 ⟨rfl, h⟩; obtain rfl : w = w2 := h))
              go_ret
              exact ⟨rfl, Old.refl _⟩
            · have n1 := ba_neN (s := q) (by omega)
              have n2 := ba_neN2 (s := q) (by omega)
              by_cases h20 : 20 < q.size
              · have d3 : decide ((q.size : Int) > 20) = true := by simp; omega
                clear e1 e2 g3
                go_wp2_with (first
                | (go_at_call 10; (with_reducible refine (ascii_any s w (by omega)).mono ?_); rw [H1.out]; rintro e w1 ⟨rfl, h⟩; obtain rfl : w = w1 := h)
                | (go_at_call 10; (with_reducible refine (ascii_any q w (by omega)).mono ?_); rw [H2.out]; rintro e w2 ⟨rfl, h⟩; obtain rfl : w = w2 := h))
                go_ret
                exact ⟨rfl, Old.refl _⟩
              · have d3 : decide ((q.size : Int) > 20) = false := by simp; omega
                have hc : 128 ≤ c := by
                  rcases Int.lt_or_le c 128 with h | h
                  · exact absurd ⟨e1, e2, by omega, by omega, h⟩ g3
                  · exact h
                have d4 : decide (c ≥ 128) = true := by simp; omega
                clear e1 e2 g3
                go_wp2_with (first
                | (go_at_call 10; (with_reducible refine (ascii_any s w (by omega)).mono ?_); rw [H1.out]; rintro e w1 ⟨rfl, h⟩; obtain rfl : w = w1 := h)
                | (go_at_call 10; (with_reducible refine (ascii_any q w (by omega)).mono ?_); rw [H2.out]; rintro e w2 ⟨rfl, h⟩; obtain rfl : w = w2 := h))
                go_ret
                exact ⟨rfl, Old.refl _⟩
end Go.Proofs.YtleamondilmojaaDoor
