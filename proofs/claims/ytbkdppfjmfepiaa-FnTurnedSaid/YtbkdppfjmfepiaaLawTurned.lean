/- FnTurned: turns over a history tell what the reference tells. -/
import Derived.Test.YtbkdppfjmfepiaaTurned
import Derived.Test.YtbkdppfjmfepiaaSpecTurns
import Derived.Test.YtbkdppfjmfepiaaAscii
import Derived.Test.YtbkdppfjmfepiaaSame7
import Derived.Test.YtbkdppfjmfepiaaFitsT
namespace Go.Proofs.Ytbkdppfjmfepiaa
open Go.RowKit
set_option linter.unusedVariables false
set_option linter.unusedSimpArgs false
set_option linter.unnecessarySimpa false
set_option maxRecDepth 100000

/-- A row of truth values, read. -/
theorem bools_at {w : World} {base : Nat} {e : TypeId} {v : Value} {l : List Bool} {n : Nat} (h : w.ownsRow base e 1 v n (l.map Value.bool)) : ∃ ad c, v = .slice ad l.length c ∧ l.length ≤ c ∧ c ≤ maxLen ∧ ∀ j, j < l.length → ∃ b, ad = some ⟨b, 0, none⟩ ∧ w.cell? ⟨b, j, none⟩ = some (.bool (l.getD j false)) := by
  have hl : l.length = n := by have := h.1; simpa using this
  subst hl
  rcases h.2 with ⟨rfl, h0⟩ | ⟨g, cap, cur, rfl, h1, h2, h3, h4, _⟩
  · exact ⟨none, 0, by rw [h0], by omega, by unfold maxLen; omega, fun j hj => absurd hj (by omega)⟩
  · refine ⟨_, cap, rfl, h3, h4, fun j hj => ⟨g, rfl, ?_⟩⟩
    rw [own_cell h j hj, gv_lt (by simpa using hj)]; simp [List.getD, List.getElem?_eq_getElem hj]

set_option maxHeartbeats 2000000 in
theorem lawTurned_any (v : Value) (l : List Trn) (w : World) (h : Turns w v l) :
    Calls Try.prog 7 #[v] w fun e w' => e = .returned (.bool true) ∧ Below w.heap.size w w' := by
  have HT := Lib.hid h
  obtain ⟨ad, c, rfl, h2, h3, h4, h5⟩ := h
  have H5 := Lib.hid h5
  clear h4 h5
  unfold maxLen at h3
  cases hf : fitT l with
  | false =>
    have HF := Lib.hid hf
    clear hf
    go_enter Try.func7, Try.ntmps7
    go_wp2_with (go_at_call 19; refine (fits7_any _ l w HT.out).mono ?_; rw [HF.out]; rintro e w1 ⟨rfl, o1⟩; have O1 := Lib.hid o1; clear o1)
    go_ret
    exact ⟨rfl, O1.out⟩
  | true =>
    have HF := Lib.hid hf
    clear hf
    by_cases hl : l.length ≤ 40
    · go_enter Try.func7, Try.ntmps7
      go_wp2_with (go_at_call 19; refine (fits7_any _ l w HT.out).mono ?_; rw [HF.out]; rintro e w1 ⟨rfl, o1⟩; have O1 := Lib.hid o1; clear o1)
      have T1 := Lib.hid (HT.out.old O1.out)
      go_loop [3] (fun i => ∃ k : Nat, k ≤ l.length ∧ i = .int .i64 k ∧ ∀ j, j < k → fine (gt l j).2 ∧ 1 ≤ (gt l j).1 ∧ (gt l j).1 ≤ 4) (fun i => l.length - (intOf i).toNat)
      case atStart => exact ⟨0, Nat.zero_le _, rfl, fun j hj => absurd hj (by omega)⟩
      case round =>
        obtain ⟨k, hk, rfl, hall⟩ := hrel
        have AL := Lib.hid hall
        clear hall
        by_cases hlt : k < l.length
        · obtain ⟨b, o, rfl, c1, c2⟩ := T1.out.cells k hlt
          rw [← Nat.add_assoc] at c2
          have hsz := (H5.out k hlt).2
          obtain ⟨op, hop⟩ : ∃ op, op = (gt l k).1 := ⟨_, rfl⟩
          obtain ⟨s, hs⟩ : ∃ s, s = (gt l k).2 := ⟨_, rfl⟩
          have hfs : s.size ≤ 2147483647 := by rw [hs]; exact (of_decide_eq_true HF.out).2 k hlt
          rw [← hop] at c1
          rw [← hs] at c2 hsz
          have HS := Lib.hid hs
          have HOP := Lib.hid hop
          clear hop hs
          have i0 : (0 : Int) ≤ k := by omega
          have i1 : (k : Int) < l.length := by omega
          by_cases hok : asc10 s = true ∧ 1 ≤ op ∧ op ≤ 4
          · have q1 := hok.1
            have q2 : decide (op < 1) = false := by simp; omega
            have q3 : decide (op > 4) = false := by simp; omega
            have OK := Lib.hid hok
            have Q1 := Lib.hid q1
            clear hok q1
            go_wp2_with (go_at_call 17; refine (ascii_any s _ (by omega)).mono ?_; rw [Q1.out]; rintro e w2 ⟨rfl, rfl⟩)
            go_round
            case rel =>
              refine ⟨k + 1, by omega, by go_num, fun j hj => ?_⟩
              by_cases e : j = k
              · subst e; rw [← HS.out, ← HOP.out]
                have a10 := asc10_iff.1 OK.out.1
                exact ⟨⟨a10.1, by omega⟩, OK.out.2⟩
              · exact AL.out j (by omega)
            case measure => simp [intOf]; omega
          · have OK := Lib.hid hok
            clear hok
            cases q1 : asc10 s with
            | false =>
              have Q1 := Lib.hid q1
              clear q1
              go_wp2_with (go_at_call 17; refine (ascii_any s _ (by omega)).mono ?_; rw [Q1.out]; rintro e w2 ⟨rfl, rfl⟩)
              go_ret
              exact ⟨rfl, O1.out⟩
            | true =>
              have Q1 := Lib.hid q1
              clear q1
              by_cases hlo : op < 1
              · have q2 : decide (op < 1) = true := by simpa using hlo
                go_wp2_with (go_at_call 17; refine (ascii_any s _ (by omega)).mono ?_; rw [Q1.out]; rintro e w2 ⟨rfl, rfl⟩)
                go_ret
                exact ⟨rfl, O1.out⟩
              · have q2 : decide (op < 1) = false := by simp; omega
                have q3 : decide (op > 4) = true := by
                  have := OK.out; simp [Q1.out] at this; simp; omega
                go_wp2_with (go_at_call 17; refine (ascii_any s _ (by omega)).mono ?_; rw [Q1.out]; rintro e w2 ⟨rfl, rfl⟩)
                go_ret
                exact ⟨rfl, O1.out⟩
        · have hkn' : k = l.length := by omega
          subst hkn'
          have HFI : Hid (∀ j, j < l.length → fine (gt l j).2) := fun j hj => (AL.out j hj).1
          have HOS : Hid (∀ j, j < l.length → 1 ≤ (gt l j).1 ∧ (gt l j).1 ≤ 4) := fun j hj => (AL.out j hj).2
          obtain ⟨ts, hts⟩ : ∃ ts, ts = (hAll l).2.1 := ⟨_, rfl⟩
          obtain ⟨bs, hbs⟩ : ∃ bs, bs = (hAll l).2.2 := ⟨_, rfl⟩
          have LB : Hid (bs.length ≤ 40) := by unfold Hid; rw [hbs]; have := hAll_len2 l l.length (Nat.le_refl _); rw [List.take_length] at this; omega
          have ST := specTurns_any _ l w1 T1.out (by omega) HFI.out HOS.out
          have IT := fun w2 (o : Old w1 w2) => turned_any _ l w2 (T1.out.old o) (by omega) HFI.out HOS.out
          rw [← hts, ← hbs] at ST IT
          have ST' := Lib.hid ST
          have IT' := Lib.hid IT
          clear ST IT hts hbs
          go_wp2_with (first
            | (go_at_call 20; refine ST'.out.mono ?_; rintro e w2 ⟨tv, cv, rfl, o2, t2, c2⟩; have T2 := Lib.hid (SR.of_own t2); have C2 := Lib.hid c2; have O2 := Lib.hid o2; clear t2 c2 o2)
            | (go_at_call 18; refine (IT'.out w2 O2.out).mono ?_; rintro e w3 ⟨tu, cu, rfl, o3, t3, c3⟩; have T3 := Lib.hid (SR.of_own t3); have C3 := Lib.hid c3; have C23 := Lib.hid (own_old C2.out o3); have T23 := Lib.hid (T2.out.old o3); have O3 := Lib.hid (O1.out.trans (O2.out.trans o3)); clear t3 c3 o3
               obtain ⟨ad2, cc2, rfl, x2, y2, z2⟩ := bools_at C23.out
               obtain ⟨ad3, cc3, rfl, x3, y3, z3⟩ := bools_at C3.out
               unfold maxLen at y2 y3
               have Z2 := Lib.hid z2
               have Z3 := Lib.hid z3
               clear z2 z3)
            | (go_at_call 21; refine (same7_eq _ _ ts w3 T3.out T23.out).mono ?_; rintro e w4 ⟨rfl, n4, rfl⟩))
          have hb40 := LB.out
          go_loopw [8] (fun i wr => ∃ k n : Nat, k ≤ bs.length ∧ i = .int .i64 k ∧ wr = w3.drewN n) (fun i _ => bs.length - (intOf i).toNat)
          case atStart => exact ⟨0, n4, Nat.zero_le _, rfl, rfl⟩
          case round =>
            obtain ⟨k, n, hk, rfl, rfl⟩ := hrel
            by_cases hlt : k < bs.length
            · obtain ⟨b, rfl, e1⟩ := Z2.out k hlt
              obtain ⟨b', rfl, e2⟩ := Z3.out k hlt
              have d1 : ∀ m, (w3.drewN m).cell? ⟨b, k, none⟩ = some (.bool (bs.getD k false)) := fun m => e1
              have d2 : ∀ m, (w3.drewN m).cell? ⟨b', k, none⟩ = some (.bool (bs.getD k false)) := fun m => e2
              have i0 : (0 : Int) ≤ k := by omega
              have i1 : (k : Int) < bs.length := by omega
              clear e1 e2
              generalize bs.getD k false = x at d1 d2
              go_wp2_with fail
              go_quiet (fail)
              go_wp2_with fail
              go_roundw
              case rel => exact ⟨k + 1, n + nq, by omega, by go_num, rfl⟩
              case measure => simp [intOf]; omega
            · have hkn' : k = bs.length := by omega
              subst hkn'
              go_wp2_with fail
              go_ret
              exact ⟨rfl, O3.out.trans (Old.drewN _ _)⟩
    · go_enter Try.func7, Try.ntmps7
      go_wp2_with (go_at_call 19; refine (fits7_any _ l w HT.out).mono ?_; rw [HF.out]; rintro e w1 ⟨rfl, o1⟩; have O1 := Lib.hid o1; clear o1)
      go_ret
      exact ⟨rfl, O1.out⟩
end Go.Proofs.Ytbkdppfjmfepiaa
