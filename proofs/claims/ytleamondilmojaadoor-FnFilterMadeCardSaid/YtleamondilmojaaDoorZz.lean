/- goprompt's searches for bytes of some: zzInSet, zzLastIndexAny, zzIndexAny. -/
import Derived.Test.YtleamondilmojaaDoorSpecF
import Derived.Laws.RangeAny
import Derived.Lib.OthersKept
namespace Go.Proofs.YtleamondilmojaaDoor
open Go.RowKit
set_option linter.unusedVariables false
set_option linter.unusedSimpArgs false
set_option linter.unnecessarySimpa false
set_option maxRecDepth 100000

theorem World.lt_of_heapZ {w : World} {b : Nat} {o : Obj} (h : w.heap[b]? = some o) : b < w.heap.size := (Array.getElem?_eq_some_iff.1 h).1
theorem iterPos_of {w : World} {k : Nat} {s : ByteArray} {q : Nat} (h : w.heap[k]? = some (.stringIter s q)) : w.iterPos k = q := by unfold World.iterPos; rw [h]
theorem old_iterAt {a w : World} (h : Old a w) {k : Nat} (hk : a.heap.size ≤ k) (s : ByteArray) (q : Nat) : Old a (w.iterAt k s q) :=
  ⟨(Below.os h : w.os = a.os), (Below.tape h : w.tape = a.tape), (Below.output h : w.output = a.output), by rw [Lib.iterAt_size]; exact h.size, fun i hi => (Lib.iterAt_other w k i s q (by omega)).trans (Below.block h i hi)⟩
theorem asc_get {l : Bs} (h : okT l) {k : Nat} (hk : k < l.length) : l[k].toNat < 128 := h.a _ (List.getElem_mem hk)
theorem inSet_any (c : UInt8) (S : Bs) (w : World) (ok : okT S) : Calls Tryd.prog 133 #[.int .i32 c.toNat, .string (tx S)] w fun e w' => e = .returned (.bool (hasb S c)) ∧ Old w w' := by
  have OK := Lib.hid ok
  have hn := ok.n
  clear ok
  have hs : (tx S).size = S.length := tx_size S
  have HS := Lib.hid hs
  go_enter Tryd.func133, Tryd.ntmps133
  go_wp2
  go_loopw [6] (fun _ wr => ∃ q : Nat, q ≤ S.length ∧ wr = w.iter (tx S) q ∧ ∀ j (hj : j < S.length), j < q → S[j] ≠ c) (fun _ wr => S.length - wr.iterPos w.heap.size)
  case atStart => exact ⟨0, Nat.zero_le _, rfl, fun j hj h => absurd h (by omega)⟩
  case round =>
    obtain ⟨q, hk, rfl, hall⟩ := hrel
    have AL := Lib.hid hall
    clear hall
    by_cases hq : q < S.length
    · have hq2 : q < (tx S).size := by rw [HS.out]; exact hq
      have hg : (tx S)[q]'hq2 = S[q]'hq := get_tx hq hq2
      have hn := run_next_ascii (P := Tryd.prog) w (tx S) q 0 hq2 (by rw [hg]; exact asc_get OK.out hq)
      rw [hg] at hn
      obtain ⟨b, hb⟩ : ∃ b, b = S[q]'hq := ⟨_, rfl⟩
      rw [← hb] at hn
      have HB := Lib.hid hb
      clear hg hq2 hs hb
      by_cases hc : b = c
      · have e1 : ((c.toNat : Int) == (b.toNat : Int)) = true := beq_same hc.symm
        have R := Lib.hid (contains_at (c := c) hq (by rw [← HB.out]; exact hc))
        clear hc
        go_wp2
        go_ret
        exact ⟨ret_bool R.out, Old.alloc _ _⟩
      · have e1 : ((c.toNat : Int) == (b.toNat : Int)) = false := beq_diff (fun h => hc h.symm)
        have HC := Lib.hid hc
        clear hc
        go_wp2
        refine ⟨⟨q + 1, by omega, rfl, fun j hj h => ?_⟩, ?_⟩
        · by_cases e : j = q
          · subst e; rw [← HB.out]; exact HC.out
          · exact AL.out j hj (by omega)
        · simp only [World.iterPos_iter]; omega
    · obtain rfl : q = S.length := by omega
      have hq2 : ¬ S.length < (tx S).size := by rw [HS.out]; omega
      have hn := run_next_end (P := Tryd.prog) w (tx S) S.length 0 hq2
      have R := Lib.hid (contains_none (c := c) (fun j hj => AL.out j hj hj))
      clear hq2 hs
      go_wp2
      go_ret
      exact ⟨ret_bool R.out, Old.alloc _ _⟩
set_option maxHeartbeats 1000000 in
theorem ia_any (l S : Bs) (w : World) (ok : okT l) (okS : okT S) : Calls Tryd.prog 105 #[.string (tx l), .string (tx S)] w fun e w' => e = .returned (.int .i64 (fidx (setP S false) l)) ∧ Old w w' := by
  have OK := Lib.hid ok
  have OKS := Lib.hid okS
  have hn := ok.n
  clear ok okS
  have HL : Hid ((tx l).size = l.length) := tx_size l
  have HS : Hid ((tx S).size = S.length) := tx_size S
  go_enter Tryd.func105, Tryd.ntmps105
  go_wp2
  go_loopw [6] (fun _ wr => ∃ q : Nat, q ≤ l.length ∧ wr.heap[w.heap.size]? = some (.stringIter (tx l) q) ∧ Old w wr ∧ ∀ j (hj : j < l.length), j < q → setP S false l[j] = false) (fun _ wr => l.length - wr.iterPos w.heap.size)
  case atStart => exact ⟨0, Nat.zero_le _, World.iter_heap _ _ _, Old.alloc _ _, fun j hj h => absurd h (by omega)⟩
  case round =>
    obtain ⟨q, hk, hit, hold, hall⟩ := hrel
    have AL := Lib.hid hall
    have OO := Lib.hid hold
    have IT := Lib.hid hit
    clear hold hall
    by_cases hq : q < l.length
    · have hq2 : q < (tx l).size := by rw [HL.out]; exact hq
      have hg : (tx l)[q]'hq2 = l[q]'hq := get_tx hq hq2
      have hn := Lib.run_next_ascii_at (P := Tryd.prog) wr w.heap.size (tx l) q 0 hit hq2 (by rw [hg]; exact asc_get OK.out hq)
      rw [hg] at hn
      obtain ⟨b, hb⟩ : ∃ b, b = l[q]'hq := ⟨_, rfl⟩
      rw [← hb] at hn
      have HB := Lib.hid hb
      have I2 : Hid ((wr.iterAt w.heap.size (tx l) (q + 1)).heap[w.heap.size]? = some (.stringIter (tx l) (q + 1))) := Lib.iterAt_heap _ _ _ _ _ hit
      have O2 : Hid (Old w (wr.iterAt w.heap.size (tx l) (q + 1))) := old_iterAt OO.out (Nat.le_refl _) _ _
      clear hg hq2 hb hit
      generalize hx : wr.iterAt w.heap.size (tx l) (q + 1) = w2 at hn I2 O2
      clear hx
      go_wp2
      go_loopw [8] (fun _ wr2 => ∃ p : Nat, p ≤ S.length ∧ wr2 = w2.iter (tx S) p ∧ ∀ j (hj : j < S.length), j < p → S[j] ≠ b) (fun _ wr2 => S.length - wr2.iterPos w2.heap.size)
      case atStart => exact ⟨0, Nat.zero_le _, rfl, fun j hj h => absurd h (by omega)⟩
      case round =>
        obtain ⟨p, hp, rfl, hno⟩ := hrel
        have NO := Lib.hid hno
        clear hno hn
        by_cases hpq : p < S.length
        · have hp2 : p < (tx S).size := by rw [HS.out]; exact hpq
          have hg2 : (tx S)[p]'hp2 = S[p]'hpq := get_tx hpq hp2
          have hn2 := run_next_ascii (P := Tryd.prog) w2 (tx S) p 0 hp2 (by rw [hg2]; exact asc_get OKS.out hpq)
          rw [hg2] at hn2
          obtain ⟨d, hd⟩ : ∃ d, d = S[p]'hpq := ⟨_, rfl⟩
          rw [← hd] at hn2
          have HD := Lib.hid hd
          clear hg2 hp2 hd
          by_cases hc : b = d
          · have e1 : ((b.toNat : Int) == (d.toNat : Int)) = true := beq_same hc
            have R : Hid (fidx (setP S false) l = q) := fidx_at hq (fun j hj h => AL.out j hj h) (by
              rw [← HB.out]; unfold setP; rw [contains_at (c := b) hpq (by rw [← HD.out]; exact hc.symm)]; rfl)
            clear hc
            go_wp2
            go_ret
            exact ⟨ret_int R.out, O2.out.then_alloc _⟩
          · have e1 : ((b.toNat : Int) == (d.toNat : Int)) = false := beq_diff hc
            have HC := Lib.hid hc
            clear hc
            go_wp2
            refine ⟨⟨p + 1, by omega, rfl, fun j hj h => ?_⟩, ?_⟩
            · by_cases e : j = p
              · subst e; rw [← HD.out]; exact fun h => HC.out h.symm
              · exact NO.out j hj (by omega)
            · simp only [World.iterPos_iter]; omega
        · obtain rfl : p = S.length := by omega
          have hp2 : ¬ S.length < (tx S).size := by rw [HS.out]; omega
          have hn2 := run_next_end (P := Tryd.prog) w2 (tx S) S.length 0 hp2
          have PN : Hid (setP S false b = false) := by unfold Hid setP; rw [contains_none (c := b) (fun j hj => NO.out j hj hj)]; rfl
          have I3 : Hid ((w2.iter (tx S) S.length).heap[w.heap.size]? = some (.stringIter (tx l) (q + 1))) := ((Old.alloc w2 _).heap (World.lt_of_heapZ I2.out)).trans I2.out
          clear hp2
          go_wp2
          refine ⟨⟨q + 1, by omega, I3.out, O2.out.then_alloc _, fun j hj h => ?_⟩, ?_⟩
          · by_cases e : j = q
            · subst e; rw [← HB.out]; exact PN.out
            · exact AL.out j hj (by omega)
          · simp only [iterPos_of I3.out, iterPos_of IT.out]; omega
    · obtain rfl : q = l.length := by omega
      have hq2 : ¬ l.length < (tx l).size := by rw [HL.out]; omega
      have hn := Lib.run_next_end_at (P := Tryd.prog) wr w.heap.size (tx l) l.length 0 hit hq2
      have R : Hid (fidx (setP S false) l = -1) := fidx_none fun j hj => AL.out j hj hj
      clear hq2 hit
      go_wp2
      go_ret
      exact ⟨ret_int R.out, OO.out⟩
end Go.Proofs.YtleamondilmojaaDoor
