/- The widths of printable texts: zzRuneWidth, zzWidth, zzTruncate, zzFillRight. -/
import Derived.Test.YtalkikljjffpmaaSpecF
import Derived.Laws.RangeAny
import Derived.Lib.OthersKept
namespace Go.Proofs.Ytalkikljjffpmaa
open Go.RowKit
set_option linter.unusedVariables false
set_option linter.unusedSimpArgs false
set_option linter.unnecessarySimpa false
set_option maxRecDepth 100000

/-- A text of printable ASCII that is not too long. -/
structure prT (l : Bs) : Prop where
  a : ∀ c ∈ l, 32 ≤ c.toNat ∧ c.toNat ≤ 126
  n : l.length ≤ 1000000
theorem prT.ok {l : Bs} (h : prT l) : okT l := ⟨fun c hc => by have := h.a c hc; omega, h.n⟩
theorem prT.get {l : Bs} (h : prT l) {k : Nat} (hk : k < l.length) : 32 ≤ l[k].toNat ∧ l[k].toNat ≤ 126 := h.a _ (List.getElem_mem hk)
theorem rw_any (c : Int) (w : World) (h1 : 32 ≤ c) (h2 : c ≤ 126) : Calls Try.prog 24 #[.int .i32 c] w fun e w' => e = .returned (.int .i64 1) ∧ w = w' := by
  have e1 : decide (c < 32) = false := by simp; omega
  have e2 : decide (c ≥ 127) = false := by simp; omega
  have e3 : (c == 173) = false := by simp; omega
  go_enter Try.func24, Try.ntmps24
  go_wp2_with fail
  go_ret
  exact ⟨rfl, rfl⟩
theorem wd_any (l : Bs) (w : World) (ok : prT l) : Calls Try.prog 19 #[.string (tx l)] w fun e w' => e = .returned (.int .i64 l.length) ∧ Old w w' := by
  have OK := Lib.hid ok
  have hn := ok.n
  clear ok
  have HS : Hid ((tx l).size = l.length) := tx_size l
  go_enter Try.func19, Try.ntmps19
  go_wp2
  go_loopw [3] (fun n wr => ∃ q : Nat, q ≤ l.length ∧ n = .int .i64 q ∧ wr = w.iter (tx l) q) (fun _ wr => l.length - wr.iterPos w.heap.size)
  case atStart => exact ⟨0, Nat.zero_le _, rfl, rfl⟩
  case round =>
    obtain ⟨q, hk, rfl, rfl⟩ := hrel
    by_cases hq : q < l.length
    · have hq2 : q < (tx l).size := by rw [HS.out]; exact hq
      have hg : (tx l)[q]'hq2 = l[q]'hq := get_tx hq hq2
      obtain ⟨b1, b2⟩ := OK.out.get hq
      have hn := run_next_ascii (P := Try.prog) w (tx l) q 0 hq2 (by rw [hg]; omega)
      rw [hg] at hn
      generalize l[q] = b at hn b1 b2
      clear hg hq2
      go_wp2_with (go_at_call 24; refine (rw_any _ _ (by omega) (by omega)).mono ?_; rintro e w1 ⟨rfl, rfl⟩)
      refine ⟨⟨q + 1, by omega, by go_num, rfl⟩, ?_⟩
      simp only [World.iterPos_iter]; omega
    · obtain rfl : q = l.length := by omega
      have hq2 : ¬ l.length < (tx l).size := by rw [HS.out]; omega
      have hn := run_next_end (P := Try.prog) w (tx l) l.length 0 hq2
      clear hq2
      go_wp2
      go_ret
      exact ⟨rfl, Old.alloc _ _⟩

theorem fr_any (l : Bs) (n : Nat) (w : World) (ok : prT l) (hn : n ≤ 1000) : Calls Try.prog 23 #[.string (tx l), .int .i64 n] w fun e w' => e = .returned (.string (tx (l ++ List.replicate (n - l.length) 32))) ∧ Old w w' := by
  have OK := Lib.hid ok
  have hl := ok.n
  clear ok
  go_enter Try.func23, Try.ntmps23
  go_wp2_with (go_at_call 19; refine (wd_any l w OK.out).mono ?_; rintro e w1 ⟨rfl, o1⟩; have O1 := Lib.hid o1; clear o1)
  go_loopw [0, 5] (fun s i wr => ∃ k : Nat, i = .int .i64 (l.length + k : Nat) ∧ (k = 0 ∨ l.length + k ≤ n) ∧ s = .string (tx (l ++ List.replicate k 32)) ∧ wr = w1) (fun _ i _ => n - (intOf i).toNat)
  case atStart => exact ⟨0, rfl, .inl rfl, by simp, rfl⟩
  case round =>
    obtain ⟨k, rfl, hk, rfl, rfl⟩ := hrel
    have e1 : ¬ 9223372036854775807 < (tx (l ++ List.replicate k 32)).size + (⟨#[32]⟩ : ByteArray).size := by
      have : (⟨#[32]⟩ : ByteArray).size = 1 := rfl
      rw [tx_size, this]; simp; omega
    have EQ : Hid (tx (l ++ List.replicate k 32) ++ ⟨#[32]⟩ = tx (l ++ List.replicate (k + 1) 32)) := by
      show _ ++ tx [32] = _
      rw [tx_append, List.append_assoc, List.replicate_succ']
    generalize hm : l.length + k = m
    by_cases hlt : m < n
    · go_wp2_with fail
      go_roundw
      case rel => exact ⟨k + 1, by go_num, by omega, by rw [EQ.out], trivial⟩
      case measure => simp [intOf]; omega
    · have hk2 : k = n - l.length := by omega
      go_wp2_with fail
      go_ret
      exact ⟨by rw [← hk2]; rfl, O1.out⟩
set_option maxHeartbeats 1000000 in
theorem tr_any (l t : Bs) (n : Nat) (w : World) (ok : prT l) (okt : prT t) (h1 : t.length ≤ n) (h2 : n < l.length) : Calls Try.prog 22 #[.string (tx l), .int .i64 n, .string (tx t)] w fun e w' => e = .returned (.string (tx (l.take (n - t.length) ++ t))) ∧ Old w w' := by
  have OK := Lib.hid ok
  have OT := Lib.hid okt
  have hl := ok.n
  have ht := okt.n
  clear ok okt
  have HS : Hid ((tx l).size = l.length) := tx_size l
  obtain ⟨m, hm⟩ : ∃ m, m = n - t.length := ⟨_, rfl⟩
  have hi : IntKind.i64.wrap ((n : Int) - (t.length : Int)) = (m : Int) := by rw [IntKind.wrap_i64]; omega
  have hml : m < l.length := by omega
  rw [← hm]
  clear hm
  go_enter Try.func22, Try.ntmps22
  go_wp2_with (first
    | (go_at_call 19; with_reducible refine (wd_any l w OK.out).mono ?_; rintro e w1 ⟨rfl, o1⟩; have O1 := Lib.hid o1; clear o1)
    | (go_at_call 19; with_reducible refine (wd_any t w1 OT.out).mono ?_; rintro e w2 ⟨rfl, o2⟩; have O2 := Lib.hid (O1.out.trans o2); clear o2))
  go_loopw [7] (fun nv wr => ∃ q : Nat, q ≤ m ∧ nv = .int .i64 q ∧ wr = w2.iter (tx l) q) (fun _ wr => l.length - wr.iterPos w2.heap.size)
  case atStart => exact ⟨0, Nat.zero_le _, rfl, rfl⟩
  case round =>
    obtain ⟨q, hk, rfl, rfl⟩ := hrel
    have hq : q < l.length := by omega
    have hq2 : q < (tx l).size := by rw [HS.out]; exact hq
    have hg : (tx l)[q]'hq2 = l[q]'hq := get_tx hq hq2
    obtain ⟨b1, b2⟩ := OK.out.get hq
    have hn := run_next_ascii (P := Try.prog) w2 (tx l) q 0 hq2 (by rw [hg]; omega)
    rw [hg] at hn
    generalize l[q] = b at hn b1 b2
    clear hg hq2
    by_cases hqm : q < m
    · have d1 : decide ((q : Int) + 1 > m) = false := by simp; omega
      go_wp2_with (go_at_call 24; refine (rw_any _ _ (by omega) (by omega)).mono ?_; rintro e w3 ⟨rfl, rfl⟩)
      refine ⟨⟨q + 1, by omega, by go_num, rfl⟩, ?_⟩
      simp only [World.iterPos_iter]; omega
    · obtain rfl : q = m := by omega
      have d1 : decide ((q : Int) + 1 > q) = true := by simp; omega
      have e1 : (tx l).extract 0 q = tx (l.take q) := by rw [extract_eq, bs_tx]; simp
      have e2 : ¬ 9223372036854775807 < (tx (l.take q)).size + (tx t).size := by rw [tx_size, tx_size]; simp; omega
      have hs := HS.out
      go_wp2_with (go_at_call 24; refine (rw_any _ _ (by omega) (by omega)).mono ?_; rintro e w3 ⟨rfl, rfl⟩)
      go_ret
      exact ⟨by rw [← tx_append]; rfl, O2.out.then_alloc _⟩
end Go.Proofs.Ytalkikljjffpmaa
