/- readline's RuneBuffer: DeleteWord, its two loops. -/
import Derived.Test.YtlfmmmbafkelhaaDoorDw
import Derived.StillTailTactics
namespace Go.Proofs.YtlfmmmbafkelhaaDoor
open Go.RowKit
set_option linter.unusedVariables false
set_option linter.unusedSimpArgs false
set_option maxRecDepth 100000

/-- What DeleteWord reads. -/
structure DK (w : World) (v p b : Nat) (st : St) (c : Nat) : Prop where
  rb : RB w p b st
  var : Var w v p b
  c0 : w.cell? ⟨p, 0, none⟩ = some (.slice (some ⟨b, 0, none⟩) st.l.length c)
  c1 : w.cell? ⟨p, 1, none⟩ = some (.int .i64 st.at_)
  lb : LB w b c st.l
theorem DK.old {w w' : World} {v p b : Nat} {st : St} {c : Nat} (h : DK w v p b st c) (o : Old w w') : DK w' v p b st c :=
  ⟨h.rb.old o, h.var.old o, (o.cell h.rb.lt.1).trans h.c0, (o.cell h.rb.lt.1).trans h.c1, h.lb.old o⟩
theorem RB.dk {w : World} {v p b : Nat} {st : St} (h : RB w p b st) (hv : Var w v p b) : ∃ c, DK w v p b st c ∧ st.l.length ≤ c ∧ c ≤ maxLen ∧ st.at_ ≤ st.l.length ∧ st.l.length ≤ 1000 := by
  have H := h
  obtain ⟨c, kv, hp, hown, hat, hl, _⟩ := h
  exact ⟨c, ⟨H, hv, hp.c0, hp.c1, hown⟩, hown.cap.1, hown.cap.2, hat, hl⟩

/-- The state behind DeleteWord. -/
def dwSt (st : St) : St := if st.at_ < st.l.length then { st with l := st.l.take st.at_ ++ st.l.drop (cutTo st.l st.at_), kl := (st.l.drop st.at_).take (cutTo st.l st.at_ - st.at_) } else st

theorem brk_is (c : Int) (x : Bool) (w : World) (h : (!ws c) = x) : Calls Tryd.prog 133 #[.int .i32 c] w fun e w' => e = .returned (.bool x) ∧ w' = w := by
  rw [← h]; exact brk_any c w
/-- The number that a pointer's cell holds. -/
def ptrNat (w : World) : Value → Nat
  | .pointer (some a) => match w.cell? a with
    | some (.int _ n) => n.toNat
    | _ => 0
  | _ => 0
theorem heap1_cell_ {w : World} {b : Nat} {x : Value} {t : TypeId} (h : w.heap[b]? = some (.cells #[x] t)) : w.cell? ⟨b, 0, none⟩ = some x := cell_of_heap h 0
theorem at_new_ (w : World) (o : Obj) {k : Nat} (hk : k = w.heap.size) : (w.alloc o).heap[k]? = some o := by rw [hk]; exact heap_alloc_new w o
theorem ptrNat_of {w : World} {X : Nat} {n : Int} (h : w.cell? ⟨X, 0, none⟩ = some (.int .i64 n)) : ptrNat w (.pointer (some ⟨X, 0, none⟩)) = n.toNat := by simp [ptrNat, h]

set_option maxHeartbeats 600000 in
theorem dw_pos (p b : Nat) (st : St) (w : World) (h : RB w p b st) (hlt : st.at_ < st.l.length) :
    Calls Tryd.prog 112 #[.pointer (some ⟨p, 0, none⟩)] w fun e w' => e = .returned (.tuple #[]) ∧ Step p b { st with l := st.l.take st.at_ ++ st.l.drop (cutTo st.l st.at_), kl := (st.l.drop st.at_).take (cutTo st.l st.at_ - st.at_) } w w' := by
  have hmf : ∀ (fn : Fn) (first cap : Array Value) (w : World), (Instr.makeFunc fn first cap).run Tryd.prog w = .ok (.func fn first cap) w := fun _ _ _ _ => rfl
  have O0 := Lib.hid (Old.alloc w (.cells #[.pointer (some ⟨p, 0, none⟩)] 63))
  obtain ⟨c, hdk, hc1, hc2, hat, hl⟩ := (h.old (Old.alloc w (.cells #[.pointer (some ⟨p, 0, none⟩)] 63))).dk h.var
  unfold maxLen at hc2
  have D0 := Lib.hid hdk
  clear h hdk
  have d0 : ((st.at_ : Int) == (st.l.length : Int)) = false := by simp; omega
  go_enter Tryd.func112, Tryd.ntmps112
  go_wp2_with fail
  generalize w.alloc (.cells #[.pointer (some ⟨p, 0, none⟩)] 63) = w0 at O0 D0 ⊢
  have hv0 := D0.out.var.cell
  have c0 := D0.out.c0
  have c1 := D0.out.c1
  go_quiet (fail)
  go_wp2_with fail
  have D1 := Lib.hid (D0.out.old (Old.drewN w0 nq))
  have O1 := Lib.hid (O0.out.trans (Old.drewN w0 nq))
  clear hv0 c0 c1 D0 O0
  generalize w0.drewN nq = w1 at D1 O1 ⊢
  have hv0 := D1.out.var.cell
  have c0 := D1.out.c0
  have c1 := D1.out.c1
  go_wp2_with fail
  go_loopw [2] (fun x wr => ∃ i : Nat, st.at_ ≤ i ∧ i ≤ st.l.length ∧ x = .int .i64 i ∧ skip st.l i = skip st.l st.at_ ∧ wr = w1) (fun x _ => st.l.length - (intOf x).toNat)
  case atStart => exact ⟨st.at_, Nat.le_refl _, hat, rfl, rfl, rfl⟩
  case round =>
    obtain ⟨i, h1, h2, rfl, hsk, rfl⟩ := hrel
    have HS := Lib.hid hsk
    clear hsk
    by_cases hgo : i < st.l.length ∧ ws (gi st.l i) = false
    · obtain ⟨hi, hw⟩ := hgo
      have W1 := Lib.hid hw
      have k0 := D1.out.lb.cell i hi
      have d1 : decide ((i : Int) < (st.l.length : Int)) = true := by rw [decide_eq_true_eq]; omega
      have i1 : (i : Int) < (st.l.length : Int) := by omega
      have e1 : IntKind.i64.wrap ((i : Int) + 1) = (i : Int) + 1 := IntWalk.i64_in _ (by omega)
      clear hw
      go_wp2_with (go_at_call 133; refine (brk_any _ _).mono ?_; rintro e w2 ⟨rfl, rfl⟩; rw [W1.out])
      go_roundw
      case rel => exact ⟨i + 1, by omega, by omega, by go_num, by rw [← skip_step hi W1.out]; exact HS.out, by first | rfl | trivial⟩
      case measure => simp [intOf]; omega
    · have hsi : skip st.l st.at_ = i := by
        rw [← HS.out]
        by_cases hi : i < st.l.length
        · have : ws (gi st.l i) = true := by
            cases hw : ws (gi st.l i)
            · exact absurd ⟨hi, hw⟩ hgo
            · rfl
          exact skip_stop hi this
        · exact skip_end (by omega)
      have hgo2 : (i < st.l.length ∧ ws (gi st.l i) = true) ∨ ¬ i < st.l.length := by
        by_cases hi : i < st.l.length
        · left; refine ⟨hi, ?_⟩
          cases hw : ws (gi st.l i)
          · exact absurd ⟨hi, hw⟩ hgo
          · rfl
        · exact .inr hi
      have SI := Lib.hid hsi
      clear hsi hgo HS
      have e1 : IntKind.i64.wrap ((i : Int) + 1) = (i : Int) + 1 := IntWalk.i64_in _ (by omega)
      rcases hgo2 with hgo3 | hi
      all_goals
        first
          | (obtain ⟨hi, hw⟩ := hgo3
             have W1 := Lib.hid hw
             have k0 := D1.out.lb.cell i hi
             have d1 : decide ((i : Int) < (st.l.length : Int)) = true := (by rw [decide_eq_true_eq]; omega)
             have i1 : (i : Int) < (st.l.length : Int) := (by omega)
             clear hw
             go_wp2_with (go_at_call 133; refine (brk_any _ _).mono ?_; rintro e wr ⟨rfl, rfl⟩; rw [W1.out])
             clear k0 d1 i1 W1)
          | (have d1 : decide ((i : Int) < (st.l.length : Int)) = false := (by rw [decide_eq_false_iff_not]; omega)
             go_wp2_with fail
             clear d1)
        clear hi hv0 c0 c1
        have g1 := at_new_ wr (.cells #[.int .i64 ((i : Int) + 1)] 3) rfl
        go_loopw [3] (fun x w3 => ∃ X j : Nat, x = .pointer (some ⟨X, 0, none⟩) ∧ i + 1 ≤ j ∧ j ≤ st.l.length + 1 ∧ w3.heap[X]? = some (.cells #[.int .i64 j] 3) ∧ wr.heap.size ≤ X ∧ Old wr w3 ∧ find st.l j = find st.l (i + 1)) (fun x w3 => st.l.length + 1 - ptrNat w3 x)
        case atStart => exact ⟨wr.heap.size, i + 1, rfl, Nat.le_refl _, by omega, g1, Nat.le_refl _, Old.alloc _ _, rfl⟩
        case round =>
          obtain ⟨X, j, rfl, hj1, hj2, gX, hX, o3, hfj⟩ := hrel
          have D3 := Lib.hid (D1.out.old o3)
          have O3 := Lib.hid (O1.out.trans o3)
          have O3w := Lib.hid o3
          have HFJ := Lib.hid hfj
          have GX := Lib.hid gX
          have hXp : X ≠ p := by have := D1.out.rb.lt.1; omega
          have hXb : X ≠ b := by have := D1.out.rb.lt.2; omega
          have hv0 := D3.out.var.cell
          have c0 := D3.out.c0
          have c1 := D3.out.c1
          have cX := heap1_cell_ gX
          have fX := free_of_heap gX 0
          have hXl := (Array.getElem?_eq_some_iff.1 gX).1
          have PX := Lib.hid (ptrNat_of cX)
          clear o3 hfj gX g1
          by_cases hjl : j < st.l.length
          · have d2 : decide ((j : Int) < (st.l.length : Int)) = true := by rw [decide_eq_true_eq]; omega
            have i2 : (j : Int) < (st.l.length : Int) := by omega
            obtain ⟨m, rfl⟩ : ∃ m, j = m + 1 := ⟨j - 1, by omega⟩
            have k0 := D3.out.lb.cell (m + 1) hjl
            have k1 := D3.out.lb.cell m (by omega)
            have i3 : (m : Int) < (st.l.length : Int) := by omega
            have i4 : m < st.l.length := by omega
            have e2 : IntKind.i64.wrap (((m + 1 : Nat) : Int) - 1) = (m : Int) := by rw [show ((m + 1 : Nat) : Int) - 1 = (m : Int) by omega]; exact IntWalk.i64_in _ (by omega)
            have e3 : IntKind.i64.wrap (m : Int) = (m : Int) := IntWalk.i64_in _ (by omega)
            have d2' : decide ((m : Int) + 1 < (st.l.length : Int)) = true := d2
            have i2' : (m : Int) + 1 < (st.l.length : Int) := i2
            have i0' : (0 : Int) ≤ (m : Int) + 1 := by omega
            have e4 : ((m : Int) + 1).toNat = m + 1 := by omega
            have e6 : IntKind.i64.wrap ((m : Int) + 1 - 1) = (m : Int) := e2
            have i6 : (st.at_ : Int) ≤ (m : Int) := by omega
            have i7 : (m : Int) ≤ (c : Int) := by omega
            have i8 : st.at_ ≤ m := by omega
            have i9 : m ≤ c := by omega
            have i10 : ¬ c = st.at_ := by omega
            have e5 : IntKind.i64.wrap ((m : Int) + 1 + 1) = (m : Int) + 1 + 1 := IntWalk.i64_in _ (by omega)
            go_wp2_with fail
            go_quiet (fail)
            go_wp2_with fail
            have D4 := Lib.hid (D3.out.old (Old.drewN wr nq))
            have O4 := Lib.hid (O3.out.trans (Old.drewN wr nq))
            have O4w := Lib.hid (O3w.out.trans (Old.drewN wr nq))
            have GX4 : Hid ((World.drewN wr nq).heap[X]? = some (.cells #[.int .i64 ((m + 1 : Nat) : Int)] 3)) := GX.out
            clear hv0 c0 c1 cX fX k0 k1 D3 O3 O3w GX hXl
            generalize World.drewN wr nq = w4 at D4 O4 O4w GX4 ⊢
            have hv0 := D4.out.var.cell
            have c0 := D4.out.c0
            have c1 := D4.out.c1
            have cX := heap1_cell_ GX4.out
            have cX' : w4.cell? ⟨X, 0, none⟩ = some (.int .i64 ((m : Int) + 1)) := cX
            have fX := free_of_heap GX4.out 0
            have k0 := D4.out.lb.cell (m + 1) hjl
            have k1 := D4.out.lb.cell m i4
            clear cX
            obtain ⟨x0, hx0⟩ : ∃ x, x = gi st.l (m + 1) := ⟨_, rfl⟩
            obtain ⟨x1, hx1⟩ : ∃ x, x = gi st.l m := ⟨_, rfl⟩
            rw [← hx0] at k0
            rw [← hx1] at k1
            cases hw1 : ws x0
            · have BG : Hid (bg st.l (m + 1) = false) := bg_no (.inl (by rw [← hx0]; exact hw1))
              have C1 := Lib.hid (fun W => brk_is x0 true W (by rw [hw1]; rfl))
              clear hw1 hx0 hx1
              go_quiet (first | (go_at_call 133; with_reducible refine Calls.quiet_of_same (C1.out _)))
              have D5 := Lib.hid (D4.out.old (Old.drewN w4 nq))
              have O5 := Lib.hid (O4.out.trans (Old.drewN w4 nq))
              have O5w := Lib.hid (O4w.out.trans (Old.drewN w4 nq))
              have GX5 : Hid ((World.drewN w4 nq).heap[X]? = some (.cells #[.int .i64 ((m + 1 : Nat) : Int)] 3)) := GX4.out
              clear hv0 c0 c1 cX' fX k0 k1 D4 O4 O4w GX4
              generalize World.drewN w4 nq = w5 at D5 O5 O5w GX5 ⊢
              have hv0 := D5.out.var.cell
              have c0 := D5.out.c0
              have c1 := D5.out.c1
              have cX' : w5.cell? ⟨X, 0, none⟩ = some (.int .i64 ((m : Int) + 1)) := heap1_cell_ GX5.out
              have fX := free_of_heap GX5.out 0
              go_wp2_with fail
              go_roundw
              case rel => exact ⟨_, m + 2, rfl, by omega, by omega, at_new_ w5 _ rfl, O5w.out.size, O5w.out.trans (Old.alloc _ _), by rw [← find_step hjl BG.out]; exact HFJ.out⟩
              case measure => rw [PX.out, ptrNat_of (heap1_cell_ (at_new_ w5 (.cells #[.int .i64 ((m : Int) + 1 + 1)] 3) rfl))]; omega
            · have C1 := Lib.hid (fun W => brk_is x0 false W (by rw [hw1]; rfl))
              cases hw2 : ws x1
              · have BG : Hid (bg st.l (m + 1) = true) := bg_of (Nat.succ_pos m) hjl (by rw [← hx0]; exact hw1) (by rw [Nat.add_sub_cancel, ← hx1]; exact hw2)
                have C2 := Lib.hid (fun W => brk_is x1 true W (by rw [hw2]; rfl))
                clear hw1 hw2 hx0 hx1
                go_quiet (first | (go_at_call 133; with_reducible refine Calls.quiet_of_same (C1.out _)) | (go_at_call 133; with_reducible refine Calls.quiet_of_same (C2.out _)))
                have D5 := Lib.hid (D4.out.old (Old.drewN w4 nq))
                have O5 := Lib.hid (O4.out.trans (Old.drewN w4 nq))
                have O5w := Lib.hid (O4w.out.trans (Old.drewN w4 nq))
                have GX5 : Hid ((World.drewN w4 nq).heap[X]? = some (.cells #[.int .i64 ((m + 1 : Nat) : Int)] 3)) := GX4.out
                clear hv0 c0 c1 cX' fX k0 k1 D4 O4 O4w GX4
                generalize World.drewN w4 nq = w5 at D5 O5 O5w GX5 ⊢
                have hv0 := D5.out.var.cell
                have c0 := D5.out.c0
                have c1 := D5.out.c1
                have cX' : w5.cell? ⟨X, 0, none⟩ = some (.int .i64 ((m : Int) + 1)) := heap1_cell_ GX5.out
                have fX := free_of_heap GX5.out 0
                go_wp2_with fail
                have HCT : Hid (cutTo st.l st.at_ = m) := by
                  unfold Hid cutTo
                  rw [SI.out, ← HFJ.out, find_stop hjl BG.out, if_pos hjl]
                  rfl
                go_still_tail 12, (by kernel_rfl)
                change wpList _ _ _ _ _ w5.drew
                have D6 := Lib.hid (D5.out.old (Old.drew w5))
                have O6 := Lib.hid (O5.out.trans (Old.drew w5))
                have GX6 : Hid (w5.drew.heap[X]? = some (.cells #[.int .i64 ((m + 1 : Nat) : Int)] 3)) := GX5.out
                clear hv0 c0 c1 cX' fX D5 O5 O5w GX5
                generalize w5.drew = w6 at D6 O6 GX6 ⊢
                go_wp2_with (first
                  | (go_at_call 103; refine (pushKill_any p b b st.at_ (c - st.at_) (m - st.at_) ((st.l.drop st.at_).take (m - st.at_)) st w6 D6.out.rb (by rw [List.length_take, List.length_drop]; omega) (fun q hq => by have hq2 : q < m - st.at_ := (by simp at hq; omega); rw [gi_take hq2, gi_drop]; exact D6.out.lb.cell _ (by omega)) (by rw [List.length_take, List.length_drop]; omega)).mono ?_; rintro e w7 ⟨rfl, h7, m7⟩
                     have H7 := Lib.hid h7
                     have V7 := Lib.hid (D6.out.var.mod m7.weaken)
                     have hv7 := V7.out.cell
                     have CX7 : Hid (w7.cell? ⟨X, 0, none⟩ = some (.int .i64 ((m : Int) + 1))) := (m7.cell (Array.getElem?_eq_some_iff.1 GX6.out).1 hXp hXp).trans (heap1_cell_ GX6.out)
                     have M7 := Lib.hid ((Mod.of_old O6.out).trans (m7.weaken (b := b)) (Or.inl rfl))
                     clear h7 m7 D6 O6 GX6)
                  | (go_at_call 84; refine (refresh_any 136 _ _ _ (Step p b _ w7) (fun _ => by kernel_rfl) (dw1_any _ X p b m _ w7 H7.out V7.out CX7.out hXp hXb i8 i4)).mono ?_; rintro e w8 ⟨rfl, h8⟩; have H8 := Lib.hid h8; clear h8))
                refine bodyPost_ret (results_none rfl _ _ _) rfl ?_
                refine ⟨rfl, ?_⟩
                rw [HCT.out]
                exact H8.out.from_mod M7.out
              · have BG : Hid (bg st.l (m + 1) = false) := bg_no (.inr (by rw [Nat.add_sub_cancel, ← hx1]; exact hw2))
                have C2 := Lib.hid (fun W => brk_is x1 false W (by rw [hw2]; rfl))
                clear hw1 hw2 hx0 hx1
                go_quiet (first | (go_at_call 133; with_reducible refine Calls.quiet_of_same (C1.out _)) | (go_at_call 133; with_reducible refine Calls.quiet_of_same (C2.out _)))
                have D5 := Lib.hid (D4.out.old (Old.drewN w4 nq))
                have O5 := Lib.hid (O4.out.trans (Old.drewN w4 nq))
                have O5w := Lib.hid (O4w.out.trans (Old.drewN w4 nq))
                have GX5 : Hid ((World.drewN w4 nq).heap[X]? = some (.cells #[.int .i64 ((m + 1 : Nat) : Int)] 3)) := GX4.out
                clear hv0 c0 c1 cX' fX k0 k1 D4 O4 O4w GX4
                generalize World.drewN w4 nq = w5 at D5 O5 O5w GX5 ⊢
                have hv0 := D5.out.var.cell
                have c0 := D5.out.c0
                have c1 := D5.out.c1
                have cX' : w5.cell? ⟨X, 0, none⟩ = some (.int .i64 ((m : Int) + 1)) := heap1_cell_ GX5.out
                have fX := free_of_heap GX5.out 0
                go_wp2_with fail
                go_roundw
                case rel => exact ⟨_, m + 2, rfl, by omega, by omega, at_new_ w5 _ rfl, O5w.out.size, O5w.out.trans (Old.alloc _ _), by rw [← find_step hjl BG.out]; exact HFJ.out⟩
                case measure => rw [PX.out, ptrNat_of (heap1_cell_ (at_new_ w5 (.cells #[.int .i64 ((m : Int) + 1 + 1)] 3) rfl))]; omega
          · have d2 : decide ((j : Int) < (st.l.length : Int)) = false := by rw [decide_eq_false_iff_not]; omega
            go_wp2_with fail
            go_quiet (fail)
            have HCT : Hid (cutTo st.l st.at_ = st.l.length) := by
              unfold Hid cutTo
              rw [SI.out, ← HFJ.out, find_end (by omega), if_neg (Nat.lt_irrefl _)]
            have D4 := Lib.hid (D3.out.old (Old.drewN wr nq))
            have O4 := Lib.hid (O3.out.trans (Old.drewN wr nq))
            clear hv0 c0 c1 cX fX D3 O3 O3w GX hXl PX
            generalize World.drewN wr nq = w4 at D4 O4 ⊢
            have hv0 := D4.out.var.cell
            go_wp2_with (go_at_call 114; refine (kill_any p b st _ D4.out.rb).mono ?_; rintro e w5 ⟨rfl, h5⟩; have H5 := Lib.hid h5; clear h5)
            go_end0
            refine ⟨rfl, ?_⟩
            have ed : (st.l.drop st.at_).take (st.l.length - st.at_) = st.l.drop st.at_ := List.take_of_length_le (by rw [List.length_drop]; exact Nat.le_refl _)
            rw [HCT.out, List.drop_length, List.append_nil, ed]
            exact H5.out.from_old O4.out

theorem dw_end (p b : Nat) (st : St) (w : World) (h : RB w p b st) (he : st.at_ = st.l.length) :
    Calls Tryd.prog 112 #[.pointer (some ⟨p, 0, none⟩)] w fun e w' => e = .returned (.tuple #[]) ∧ Step p b st w w' := by
  have H := Lib.hid h
  have O0 := Lib.hid (Old.alloc w (.cells #[.pointer (some ⟨p, 0, none⟩)] 63))
  obtain ⟨c, hdk, _⟩ := (h.old (Old.alloc w (.cells #[.pointer (some ⟨p, 0, none⟩)] 63))).dk h.var
  have D0 := Lib.hid hdk
  clear h hdk
  have d0 : ((st.at_ : Int) == (st.l.length : Int)) = true := by simp [he]
  go_enter Tryd.func112, Tryd.ntmps112
  go_wp2_with fail
  generalize w.alloc (.cells #[.pointer (some ⟨p, 0, none⟩)] 63) = w0 at O0 D0 ⊢
  have hv0 := D0.out.var.cell
  have c0 := D0.out.c0
  have c1 := D0.out.c1
  go_quiet (fail)
  go_wp2_with fail
  refine bodyPost_ret (results_none rfl _ _ _) rfl ?_
  exact ⟨rfl, Step.same H.out (O0.out.trans (Old.drewN w0 _)) rfl⟩
theorem dw_any (p b : Nat) (st : St) (w : World) (h : RB w p b st) :
    Calls Tryd.prog 112 #[.pointer (some ⟨p, 0, none⟩)] w fun e w' => e = .returned (.tuple #[]) ∧ Step p b (dwSt st) w w' := by
  unfold dwSt
  by_cases h0 : st.at_ < st.l.length
  · rw [if_pos h0]; exact dw_pos p b st w h h0
  · rw [if_neg h0]
    have hle : st.at_ ≤ st.l.length := by obtain ⟨_, _, _, _, hat, _⟩ := h; exact hat
    exact dw_end p b st w h (by omega)
end Go.Proofs.YtlfmmmbafkelhaaDoor
