/- ansi.Writer of plain text: Write, ResetAnsi. -/
import Derived.Test.YtpkmamdgpjncoaaDoorAnsiB
import Derived.Lib.OthersKept
import Derived.LoopTactic
namespace Go.Proofs.YtpkmamdgpjncoaaDoor
open Go.RowKit
set_option linter.unusedVariables false
set_option linter.unusedSimpArgs false
set_option linter.unnecessarySimpa false
set_option maxRecDepth 100000

theorem wr_any {w : World} {q b o : Nat} {T : TypeId} {K : Value → Int → Array Value} {B : Nat} {v rb : Value} {l : List UInt8} (h : AW w q b o T K B v rb l) (c : UInt8) (hc : c.toNat < 128) (hlim : l.length + 1 ≤ 1000000) :
    Calls Tryd.prog 63 #[.pointer (some ⟨q, 0, none⟩), .int .i32 c.toNat] w fun e w' => e = .returned (.tuple #[.int .i64 1, .nilIface]) ∧ ∃ v' rb', AW w' q b o T K B v' rb' (l ++ [c]) ∧ Mv w w' q b v rb v' rb' := by
  rcases h.row with rfl | ⟨r, x0, x1, x2, x3, rfl, h2⟩
  · exact wrn_any h c hc hlim
  · exact (wrr_any h c hc hlim).mono (by rintro e w' ⟨he, v', h1, h2⟩; exact ⟨he, v', _, h1, h2⟩)
/-- Signs that begin no sequence. -/
def noseq (d : List UInt8) : Prop := ∀ c ∈ d, c.toNat < 128 ∧ c.toNat ≠ 27
theorem AW.iter {w : World} {q b o : Nat} {T : TypeId} {K : Value → Int → Array Value} {B : Nat} {v rb : Value} {l : List UInt8} {k : Nat} {s : ByteArray} {i : Nat} (h : AW w q b o T K B v rb l) (hk : w.heap[k]? = some (.stringIter s i)) (j : Nat) :
    AW (w.iterAt k s j) q b o T K B v rb l ∧ k ≠ b ∧ k ≠ q ∧ v.ownBlock ≠ some k ∧ rb.ownBlock ≠ some k := by
  have n1 : k ≠ b := by rintro rfl; obtain ⟨lr, hc⟩ := h.buf.cells; rw [hk] at hc; cases hc
  have n2 : k ≠ q := by rintro rfl; have := h.cells; rw [hk] at this; cases this
  have n3 : v.ownBlock ≠ some k := by
    intro e
    rcases own_two h.buf.own with ⟨h1, h2, h3⟩ | ⟨g, cap', cur, hv', h1, h2, h3⟩
    · rw [h1] at e; simp [Value.ownBlock] at e
    · rw [hv'] at e; simp [Value.ownBlock] at e; subst e; rw [hk] at h2; cases h2
  have n4 : rb.ownBlock ≠ some k := by
    intro e
    rcases h.row with h1 | ⟨r, x0, x1, x2, x3, hr, h2⟩
    · rw [h1] at e; simp [Value.ownBlock] at e
    · rw [hr] at e; simp [Value.ownBlock] at e; subst e; rw [hk] at h2; cases h2
  have f : Fr [some k] w (w.iterAt k s j) := ⟨rfl, rfl, rfl, by rw [Lib.iterAt_size]; exact Nat.le_refl _, fun i hi hn => Lib.iterAt_other w k i s j (by simp at hn; exact hn)⟩
  exact ⟨h.fr f (by simp; exact fun e => n1 e.symm) (by simp; exact fun e => n2 e.symm) (fun g hg => by simp; rintro rfl; exact n3 hg) (fun g hg => by simp; rintro rfl; exact n4 hg), n1, n2, n3, n4⟩
/-- Only the iterator in block k, and what a writer turns, have turned. -/
structure Mk (w w' : World) (k q b : Nat) (v rb v' rb' : Value) : Prop where
  fr : Fr [some k, some b, some q, v.ownBlock, rb.ownBlock] w w'
  v : Nx w v v'
  r : Nx w rb rb'
theorem Mk.refl (w : World) (k q b : Nat) (v rb : Value) : Mk w w k q b v rb v rb := ⟨Fr.refl _ _, .inl rfl, .inl rfl⟩
theorem Mk.step {u w w' : World} {k q b : Nat} {v rb v1 rb1 v2 rb2 : Value} {s : ByteArray} {j : Nat} (h : Mk u w k q b v rb v1 rb1) (m : Mv (w.iterAt k s j) w' q b v1 rb1 v2 rb2) : Mk u w' k q b v rb v2 rb2 := by
  have f : Fr [some k] w (w.iterAt k s j) := ⟨rfl, rfl, rfl, by rw [Lib.iterAt_size]; exact Nat.le_refl _, fun i hi hn => Lib.iterAt_other w k i s j (by simp at hn; exact hn)⟩
  have hs : u.heap.size ≤ (w.iterAt k s j).heap.size := by rw [Lib.iterAt_size]; exact h.fr.size
  refine ⟨(h.fr.trans f (fun i _ e => by simp at e; simp [e])).trans m.fr ?_, h.v.trans m.v hs, h.r.trans m.r hs⟩
  intro i hi e
  simp only [List.mem_cons, List.not_mem_nil, or_false] at e ⊢
  rcases e with e | e | e | e
  · exact .inr (.inl e)
  · exact .inr (.inr (.inl e))
  · exact .inr (.inr (.inr (.inl (h.v.back hi e))))
  · exact .inr (.inr (.inr (.inr (h.r.back hi e))))
/-- The iterator was made on the way. -/
theorem Mk.done {u w w' : World} {k q b : Nat} {v rb v1 rb1 : Value} (o : Old u w) (hk : u.heap.size ≤ k) (h : Mk w w' k q b v rb v1 rb1) : Mv u w' q b v rb v1 rb1 := by
  refine ⟨(Fr.of_old (S := [some b, some q, v.ownBlock, rb.ownBlock]) o).trans h.fr ?_, h.v.old o.size, h.r.old o.size⟩
  intro i hi e
  simp only [List.mem_cons, List.not_mem_nil, or_false] at e ⊢
  rcases e with e | e
  · injection e with e; omega
  · exact e
theorem iterPos_at {w : World} {k : Nat} {s : ByteArray} {p : Nat} (h : w.heap[k]? = some (.stringIter s p)) : w.iterPos k = p := by unfold World.iterPos; rw [h]
set_option maxHeartbeats 4000000 in
theorem aw_any {w : World} {q b o : Nat} {T : TypeId} {K : Value → Int → Array Value} {B : Nat} {v rb : Value} {l : List UInt8} (h : AW w q b o T K B v rb l) (d : List UInt8) (n : Nat) (hn : n = d.length) (ao : Option Addr) (c : Nat) (hconv : (convert 49 9 (.slice ao n c)).run Tryd.prog w = .ok (.string ⟨d.toArray⟩) w) (hd : noseq d) (hlim : l.length + n ≤ 1000000) :
    Calls Tryd.prog 38 #[.pointer (some ⟨q, 0, none⟩), .slice ao n c] w fun e w' => e = .returned (.tuple #[.int .i64 n, .nilIface]) ∧ ∃ v' rb', AW w' q b o T K B v' rb' (l ++ d) ∧ Mv w w' q b v rb v' rb' := by
  have H := Lib.hid h
  have HD := Lib.hid hd
  have HN := Lib.hid hn
  have HS : Hid ((⟨d.toArray⟩ : ByteArray).size = d.length) := by unfold Hid; simp [ByteArray.size]
  clear h hd hn
  generalize hs : (⟨d.toArray⟩ : ByteArray) = s at hconv HS
  have HX := Lib.hid hs
  clear hs
  go_enter Tryd.func38, Tryd.ntmps38
  go_wp2_with fail
  obtain ⟨w1, hw1⟩ : ∃ w1, w1 = w.iter s 0 := ⟨_, rfl⟩
  have IT0 : Hid (w1.heap[w.heap.size]? = some (.stringIter s 0)) := by unfold Hid; rw [hw1]; exact World.iter_heap _ _ _
  have O1 : Hid (Old w w1) := by unfold Hid; rw [hw1]; exact Old.alloc _ _
  go_loopw [7] (fun _ wr => ∃ i v' rb', i ≤ d.length ∧ wr.heap[w.heap.size]? = some (.stringIter s i) ∧ AW wr q b o T K B v' rb' (l ++ d.take i) ∧ Mk w1 wr w.heap.size q b v rb v' rb') (fun _ wr => d.length - wr.iterPos w.heap.size)
  case atStart => exact ⟨0, v, rb, Nat.zero_le _, by rw [← hw1]; exact IT0.out, by rw [← hw1]; simpa using H.out.old O1.out, by rw [← hw1]; exact Mk.refl _ _ _ _ _ _⟩
  case round =>
    obtain ⟨i, v1, rb1, hi, hit, ha, hm⟩ := hrel
    have IT := Lib.hid hit
    have HA := Lib.hid ha
    have HM := Lib.hid hm
    clear ha hm hconv
    by_cases hlt : i < d.length
    · have hq2 : i < s.size := by rw [HS.out]; exact hlt
      have hg : s[i]'hq2 = d[i]'hlt := by
        have e := HX.out
        subst e
        rfl
      obtain ⟨x1, x2⟩ := HD.out _ (List.getElem_mem hlt)
      have hn := Lib.run_next_ascii_at (P := Tryd.prog) wr w.heap.size s i 0 hit hq2 (by rw [hg]; exact x1)
      rw [hg] at hn
      have TK : Hid (l ++ d.take i ++ [d[i]] = l ++ d.take (i + 1)) := by unfold Hid; rw [List.take_succ_eq_append_getElem hlt, List.append_assoc]
      obtain ⟨a2, n1, n2, n3, n4⟩ := HA.out.iter hit (i + 1)
      have I2 : Hid ((wr.iterAt w.heap.size s (i + 1)).heap[w.heap.size]? = some (.stringIter s (i + 1))) := Lib.iterAt_heap _ _ _ _ _ hit
      have hl2 : Hid ((l ++ d.take i).length + 1 ≤ 1000000) := by unfold Hid; rw [List.length_append, List.length_take]; have := HN.out; omega
      obtain ⟨x, hx⟩ : ∃ x, x = d[i] := ⟨_, rfl⟩
      rw [← hx] at hn x1 x2 TK
      have e1 : ((x.toNat : Int) == 27) = false := by rw [beq_eq_false_iff_ne]; omega
      have N1 := Lib.hid n1
      have N2 := Lib.hid n2
      have N3 := Lib.hid n3
      have N4 := Lib.hid n4
      have A2 := Lib.hid a2
      have M2 : Hid (∀ w3 v2 rb2, Mv (wr.iterAt w.heap.size s (i + 1)) w3 q b v1 rb1 v2 rb2 → Mk w1 w3 w.heap.size q b v rb v2 rb2) := fun w3 v2 rb2 m => HM.out.step m
      have X1 := Lib.hid x1
      clear hg hq2 hit a2 n1 n2 n3 n4 hx x2 x1
      generalize hz : wr.iterAt w.heap.size s (i + 1) = w2 at hn I2 A2 M2
      have c1 : w2.cell? ⟨q, 1, none⟩ = some (.bool false) := (fcell A2.out.cells 1).trans rfl
      clear hz
      go_wp2_with (go_at_call 63; refine (wr_any A2.out x X1.out hl2.out).mono ?_; rintro e w3 ⟨rfl, v2, rb2, k1, k2⟩; have K1 := Lib.hid k1; have K2 := Lib.hid k2; clear k1 k2)
      have hk := (K2.out.keep (flt I2.out) N1.out N2.out N3.out N4.out).1.trans I2.out
      refine ⟨⟨i + 1, v2, rb2, hlt, hk, by rw [← TK.out]; exact K1.out, M2.out _ _ _ K2.out⟩, ?_⟩
      rw [iterPos_at hk, iterPos_at IT.out]; omega
    · obtain rfl : i = d.length := by omega
      have hq2 : ¬ d.length < s.size := by rw [HS.out]; omega
      have hn := Lib.run_next_end_at (P := Tryd.prog) wr w.heap.size s d.length 0 hit hq2
      clear hq2 hit
      go_wp2_with fail
      go_ret2
      have ha := HA.out
      rw [List.take_length] at ha
      exact ⟨rfl, v1, rb1, ha, Mk.done O1.out (Nat.le_refl _) HM.out⟩
theorem ra_any {w : World} {q b o : Nat} {T : TypeId} {K : Value → Int → Array Value} {B : Nat} {v rb : Value} {l : List UInt8} (h : AW w q b o T K B v rb l) :
    Calls Tryd.prog 39 #[.pointer (some ⟨q, 0, none⟩)] w fun e w' => e = .returned (.tuple #[]) ∧ w' = w := by
  have c8 : w.cell? ⟨q, 8, none⟩ = some (.bool false) := (fcell h.cells 8).trans rfl
  clear h
  go_enter Tryd.func39, Tryd.ntmps39
  go_wp2_with fail
  refine bodyPost_ret (results_none rfl _ _ _) rfl ?_
  exact ⟨rfl, rfl⟩
end Go.Proofs.YtpkmamdgpjncoaaDoor
