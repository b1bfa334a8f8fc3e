/- FnFilterMade: a text made of a part and others around it passes. (Printed by mklawfm.py.) -/
import Derived.Test.YtleamondilmojaaDoorFiltD
import Derived.Test.YtleamondilmojaaDoorAscii
import Derived.Deep.Cut
import Derived.LoopTactic
namespace Go.Proofs.YtleamondilmojaaDoor
open Go.RowKit
set_option linter.unusedVariables false
set_option linter.unusedSimpArgs false
set_option linter.unnecessarySimpa false
set_option maxRecDepth 100000

theorem two_new (w : World) (s : Bs) : Two (w.alloc (.cells #[.string (tx s), .string ⟨#[]⟩] 30)) (.slice (some ⟨w.heap.size, 0, none⟩) 1 1) s ⟨#[]⟩ :=
  ⟨w.heap.size, 1, rfl, Nat.le_refl _, by unfold maxLen; omega, by simp, (bcell4 (heap_alloc_new w _) 0).trans rfl, (bcell4 (heap_alloc_new w _) 1).trans rfl⟩
theorem pas1_any (s p : Bs) (ic : Bool) (vp vc : Nat) (w : World) (hp : w.cell? ⟨vp, 0, none⟩ = some (.string (tx p))) (hc : w.cell? ⟨vc, 0, none⟩ = some (.bool ic)) (oks : okT s) (okp : okT p) (hl : s.length ≤ 100000) (hm : Made 1 s p) :
    Calls Tryd.prog 13 #[.int .i64 1, .string (tx s), .pointer (some ⟨vp, 0, none⟩), .pointer (some ⟨vc, 0, none⟩)] w fun e w' => e = .returned (.bool true) ∧ Old w w' := by
  have H := fd1_any _ s p ⟨#[]⟩ ic _ (two_new w s) oks okp hl hm
  have o0 : Old w (w.alloc (.cells #[.string (tx s), .string ⟨#[]⟩] 30)) := Old.alloc _ _
  have g0 := (o0.cell (World.block_lt_of_cell? w _ hp)).trans hp
  have g1 := (o0.cell (World.block_lt_of_cell? w _ hc)).trans hc
  have HH := Lib.hid H
  have OO := Lib.hid o0
  clear H oks okp hl hm o0
  generalize tx p = t at HH g0 hp ⊢
  generalize tx s = ts at HH g0 g1 OO ⊢
  go_enter Tryd.func13, Tryd.ntmps13
  go_wp2_with (go_at_call 14; refine HH.out.mono ?_; rintro e w1 ⟨v', rfl, o1, t1⟩; have O1 := Lib.hid (OO.out.trans o1); obtain ⟨q, cq, rfl, -⟩ := t1; clear o1)
  go_ret
  exact ⟨rfl, O1.out⟩
theorem pas2_any (s p : Bs) (ic : Bool) (vp vc : Nat) (w : World) (hp : w.cell? ⟨vp, 0, none⟩ = some (.string (tx p))) (hc : w.cell? ⟨vc, 0, none⟩ = some (.bool ic)) (oks : okT s) (okp : okT p) (hl : s.length ≤ 100000) (hm : Made 2 s p) :
    Calls Tryd.prog 13 #[.int .i64 2, .string (tx s), .pointer (some ⟨vp, 0, none⟩), .pointer (some ⟨vc, 0, none⟩)] w fun e w' => e = .returned (.bool true) ∧ Old w w' := by
  have H := fd2_any _ s p ⟨#[]⟩ ic _ (two_new w s) oks okp hl hm
  have o0 : Old w (w.alloc (.cells #[.string (tx s), .string ⟨#[]⟩] 30)) := Old.alloc _ _
  have g0 := (o0.cell (World.block_lt_of_cell? w _ hp)).trans hp
  have g1 := (o0.cell (World.block_lt_of_cell? w _ hc)).trans hc
  have HH := Lib.hid H
  have OO := Lib.hid o0
  clear H oks okp hl hm o0
  generalize tx p = t at HH g0 hp ⊢
  generalize tx s = ts at HH g0 g1 OO ⊢
  go_enter Tryd.func13, Tryd.ntmps13
  go_wp2_with (go_at_call 14; refine HH.out.mono ?_; rintro e w1 ⟨v', rfl, o1, t1⟩; have O1 := Lib.hid (OO.out.trans o1); obtain ⟨q, cq, rfl, -⟩ := t1; clear o1)
  go_ret
  exact ⟨rfl, O1.out⟩
theorem pas3_any (s p : Bs) (ic : Bool) (vp vc : Nat) (w : World) (hp : w.cell? ⟨vp, 0, none⟩ = some (.string (tx p))) (hc : w.cell? ⟨vc, 0, none⟩ = some (.bool ic)) (oks : okT s) (okp : okT p) (hl : s.length ≤ 100000) (hm : Made 3 s p) :
    Calls Tryd.prog 13 #[.int .i64 3, .string (tx s), .pointer (some ⟨vp, 0, none⟩), .pointer (some ⟨vc, 0, none⟩)] w fun e w' => e = .returned (.bool true) ∧ Old w w' := by
  have H := fd3_any _ s p ⟨#[]⟩ ic _ (two_new w s) oks okp hl hm
  have o0 : Old w (w.alloc (.cells #[.string (tx s), .string ⟨#[]⟩] 30)) := Old.alloc _ _
  have g0 := (o0.cell (World.block_lt_of_cell? w _ hp)).trans hp
  have g1 := (o0.cell (World.block_lt_of_cell? w _ hc)).trans hc
  have HH := Lib.hid H
  have OO := Lib.hid o0
  clear H oks okp hl hm o0
  generalize tx p = t at HH g0 hp ⊢
  generalize tx s = ts at HH g0 g1 OO ⊢
  go_enter Tryd.func13, Tryd.ntmps13
  go_wp2_with (go_at_call 14; refine HH.out.mono ?_; rintro e w1 ⟨v', rfl, o1, t1⟩; have O1 := Lib.hid (OO.out.trans o1); obtain ⟨q, cq, rfl, -⟩ := t1; clear o1)
  go_ret
  exact ⟨rfl, O1.out⟩
theorem pas4_any (s p : Bs) (ic : Bool) (vp vc : Nat) (w : World) (hp : w.cell? ⟨vp, 0, none⟩ = some (.string (tx p))) (hc : w.cell? ⟨vc, 0, none⟩ = some (.bool ic)) (oks : okT s) (okp : okT p) (hl : s.length ≤ 100000) (hm : Made 4 s p) :
    Calls Tryd.prog 13 #[.int .i64 4, .string (tx s), .pointer (some ⟨vp, 0, none⟩), .pointer (some ⟨vc, 0, none⟩)] w fun e w' => e = .returned (.bool true) ∧ Old w w' := by
  have H := fd4_any _ s p ⟨#[]⟩ ic _ (two_new w s) oks okp hl hm
  have o0 : Old w (w.alloc (.cells #[.string (tx s), .string ⟨#[]⟩] 30)) := Old.alloc _ _
  have g0 := (o0.cell (World.block_lt_of_cell? w _ hp)).trans hp
  have g1 := (o0.cell (World.block_lt_of_cell? w _ hc)).trans hc
  have HH := Lib.hid H
  have OO := Lib.hid o0
  clear H oks okp hl hm o0
  generalize tx p = t at HH g0 hp ⊢
  generalize tx s = ts at HH g0 g1 OO ⊢
  go_enter Tryd.func13, Tryd.ntmps13
  go_wp2_with (go_at_call 14; refine HH.out.mono ?_; rintro e w1 ⟨v', rfl, o1, t1⟩; have O1 := Lib.hid (OO.out.trans o1); obtain ⟨q, cq, rfl, -⟩ := t1; clear o1)
  go_ret
  exact ⟨rfl, O1.out⟩
/-- The first k signs of the part, each with b behind it, behind a. -/
def spr (p la lb : Bs) (k : Nat) : Bs := la ++ (p.take k).flatMap fun c => c :: lb
theorem spr_zero (p la lb : Bs) : spr p la lb 0 = la := by simp [spr]
theorem spr_succ {p : Bs} (la lb : Bs) {k : Nat} (h : k < p.length) : spr p la lb (k + 1) = spr p la lb k ++ (p[k] :: lb) := by
  unfold spr; rw [List.take_succ_eq_append_getElem h, List.flatMap_append, List.append_assoc]; simp only [List.flatMap_cons, List.flatMap_nil, List.append_nil]
theorem spr_len (p la lb : Bs) (h1 : la.length ≤ 20) (h2 : lb.length ≤ 20) : ∀ k, k ≤ p.length → (spr p la lb k).length ≤ 20 + 21 * k
  | 0, _ => by rw [spr_zero]; omega
  | k + 1, hk => by
    have := spr_len p la lb h1 h2 k (by omega)
    rw [spr_succ la lb (by omega), List.length_append, List.length_cons]; omega
theorem spr_sub (p la lb : Bs) : p.Sublist (spr p la lb p.length) := by
  unfold spr
  rw [List.take_length]
  have : ∀ q : Bs, q.Sublist (q.flatMap fun c => c :: lb) := fun q => by
    induction q with
    | nil => simp
    | cons c q ih => exact (ih.trans (List.sublist_append_right lb _)).cons_cons c
  exact (this p).trans (List.sublist_append_right la _)
theorem okT.app {a b : Bs} (ha : okT a) (hb : okT b) (h : (a ++ b).length ≤ 1000000) : okT (a ++ b) := ⟨fun c hc => by rcases List.mem_append.1 hc with h | h; exact ha.a c h; exact hb.a c h, h⟩
theorem spr_ok {p la lb : Bs} (hp : okT p) (ha : okT la) (hb : okT lb) (h1 : la.length ≤ 20) (h2 : lb.length ≤ 20) (h3 : p.length ≤ 20) : okT (spr p la lb p.length) := by
  refine ⟨fun c hc => ?_, by have := spr_len p la lb h1 h2 p.length (Nat.le_refl _); omega⟩
  unfold spr at hc
  simp only [List.take_length, List.mem_append, List.mem_flatMap, List.mem_cons] at hc
  rcases hc with h | ⟨d, hd, rfl | h⟩
  · exact ha.a c h
  · exact hp.a c hd
  · exact hb.a c h
theorem okT_parts {p la lb : Bs} (h : asc10 (tx (p ++ la ++ lb)) = true) : okT p ∧ okT la ∧ okT lb := by
  have a1 := asc10_iff.1 h
  have h1 := asc_tx a1.1
  have h2 := a1.2
  rw [tx_size] at h2
  simp only [List.length_append] at h2
  refine ⟨⟨fun c hc => h1 c ?_, by omega⟩, ⟨fun c hc => h1 c ?_, by omega⟩, ⟨fun c hc => h1 c ?_, by omega⟩⟩ <;> simp [hc]

set_option maxHeartbeats 8000000 in
theorem lawFM_any (part a b : ByteArray) (ic : Bool) (w : World) (hsp : part.size ≤ 140737488351232) (hsa : a.size ≤ 140737488351232) (hsb : b.size ≤ 140737488351232) :
    Calls Tryd.prog 4 #[.string part, .string a, .string b, .bool ic] w fun e w' => e = .returned (.bool true) ∧ Below w.heap.size w w' := by
  show Calls Tryd.prog 4 #[.string part, .string a, .string b, .bool ic] w fun e w' => e = .returned (.bool true) ∧ Old w w'
  have hmf : ∀ (fn : Fn) (first cap : Array Value) (w : World), (Instr.makeFunc fn first cap).run Tryd.prog w = .ok (.func fn first cap) w := fun _ _ _ _ => rfl
  go_enter Tryd.func4, Tryd.ntmps4
  go_upto_region 1 with fail
  have o1 : Old w (w.alloc (.cells #[.string part] 9)) := Old.alloc _ _
  have n1 := heap_alloc_new w (.cells #[.string part] 9)
  have z1 : (w.alloc (.cells #[.string part] 9)).heap.size = w.heap.size + 1 := by simp
  generalize w.alloc (.cells #[.string part] 9) = wa at o1 n1 z1 ⊢
  have o2 : Old wa (wa.alloc (.cells #[.bool ic] 4)) := Old.alloc _ _
  have n2 := heap_alloc_new wa (.cells #[.bool ic] 4)
  rw [z1] at n2
  generalize wa.alloc (.cells #[.bool ic] 4) = wb at o2 n2 ⊢
  have c1 := (o2.cell (World.block_lt_of_cell? wa ⟨w.heap.size, 0, none⟩ (bcell4 n1 0))).trans ((bcell4 n1 0).trans rfl)
  have c2 := (bcell4 n2 0).trans rfl
  have O2 := Lib.hid (o1.trans o2)
  clear o1 n1 o2 n2 z1
  generalize w.heap.size = vp at c1 c2 ⊢
  generalize vp + 1 = vc at c2 ⊢
  by_cases g1 : 2147483647 < part.size
  · have d1 : decide ((part.size : Int) > 2147483647) = true := by simp; omega
    go_wp2_with fail
    go_ret
    exact ⟨rfl, O2.out⟩
  have d1 : decide ((part.size : Int) > 2147483647) = false := by simp; omega
  by_cases g2 : 2147483647 < a.size
  · have d2 : decide ((a.size : Int) > 2147483647) = true := by simp; omega
    go_wp2_with fail
    go_ret
    exact ⟨rfl, O2.out⟩
  have d2 : decide ((a.size : Int) > 2147483647) = false := by simp; omega
  by_cases g3 : 2147483647 < b.size
  · have d3 : decide ((b.size : Int) > 2147483647) = true := by simp; omega
    go_wp2_with fail
    go_ret
    exact ⟨rfl, O2.out⟩
  have d3 : decide ((b.size : Int) > 2147483647) = false := by simp; omega
  have b1 : ¬ 9223372036854775807 < part.size + a.size := by omega
  have b2 : ¬ 9223372036854775807 < (part ++ a).size + b.size := by rw [ByteArray.size_append]; omega
  have hbig : ((part ++ a) ++ b).size ≤ 140737488351232 := by rw [ByteArray.size_append, ByteArray.size_append]; omega
  cases hq : asc10 (part ++ a ++ b) with
  | false =>
    have HQ := Lib.hid hq
    clear hq
    go_wp2_with (go_at_call 10; refine (ascii_any (part ++ a ++ b) wb hbig).mono ?_; rw [HQ.out]; rintro e w1 ⟨rfl, h⟩; obtain rfl : wb = w1 := h)
    go_ret
    exact ⟨rfl, O2.out⟩
  | true =>
    have HQ := Lib.hid hq
    clear hq
    by_cases g5 : 20 < part.size
    · have d5 : decide ((part.size : Int) > 20) = true := by simp; omega
      go_wp2_with (go_at_call 10; refine (ascii_any (part ++ a ++ b) wb hbig).mono ?_; rw [HQ.out]; rintro e w1 ⟨rfl, h⟩; obtain rfl : wb = w1 := h)
      go_ret
      exact ⟨rfl, O2.out⟩
    have d5 : decide ((part.size : Int) > 20) = false := by simp; omega
    by_cases g6 : 20 < a.size
    · have d6 : decide ((a.size : Int) > 20) = true := by simp; omega
      go_wp2_with (go_at_call 10; refine (ascii_any (part ++ a ++ b) wb hbig).mono ?_; rw [HQ.out]; rintro e w1 ⟨rfl, h⟩; obtain rfl : wb = w1 := h)
      go_ret
      exact ⟨rfl, O2.out⟩
    have d6 : decide ((a.size : Int) > 20) = false := by simp; omega
    by_cases g7 : 20 < b.size
    · have d7 : decide ((b.size : Int) > 20) = true := by simp; omega
      go_wp2_with (go_at_call 10; refine (ascii_any (part ++ a ++ b) wb hbig).mono ?_; rw [HQ.out]; rintro e w1 ⟨rfl, h⟩; obtain rfl : wb = w1 := h)
      go_ret
      exact ⟨rfl, O2.out⟩
    have d7 : decide ((b.size : Int) > 20) = false := by simp; omega
    go_upto_region 6 with (go_at_call 10; refine (ascii_any (part ++ a ++ b) wb hbig).mono ?_; rw [HQ.out]; rintro e w1 ⟨rfl, h⟩; obtain rfl : wb = w1 := h)
    clear d1 d2 d3 d5 d6 d7 b1 b2 hbig
    obtain ⟨p, rfl⟩ : ∃ l, part = tx l := ⟨bs part, (tx_bs part).symm⟩
    obtain ⟨la, rfl⟩ : ∃ l, a = tx l := ⟨bs a, (tx_bs a).symm⟩
    obtain ⟨lb, rfl⟩ : ∃ l, b = tx l := ⟨bs b, (tx_bs b).symm⟩
    have HP : Hid ((tx p).size = p.length) := tx_size p
    have HA : Hid ((tx la).size = la.length) := tx_size la
    have HB : Hid ((tx lb).size = lb.length) := tx_size lb
    have hq2 := HQ.out
    rw [tx_append, tx_append] at hq2
    obtain ⟨okp, oka, okb⟩ := okT_parts hq2
    have OKP := Lib.hid okp
    have OKA := Lib.hid oka
    have OKB := Lib.hid okb
    have lp : p.length ≤ 20 := by rw [← HP.out]; omega
    have lla : la.length ≤ 20 := by rw [← HA.out]; omega
    have llb : lb.length ≤ 20 := by rw [← HB.out]; omega
    clear hq2 okp oka okb g1 g2 g3 g5 g6 g7 hsp hsa hsb HQ
    go_wp2_with fail
    go_loopw [9, 10] (fun sv iv wr => ∃ k : Nat, k ≤ p.length ∧ iv = .int .i64 k ∧ sv = .string (tx (spr p la lb k)) ∧ wr = wb) (fun _ iv _ => p.length - (intOf iv).toNat)
    case atStart => exact ⟨0, Nat.zero_le _, rfl, by rw [spr_zero], rfl⟩
    case round =>
      obtain ⟨k, hk, rfl, rfl, rfl⟩ := hrel
      have hps := HP.out
      by_cases hkp : k < p.length
      · have e1 := one_at hkp
        have SU := Lib.hid (spr_succ la lb hkp)
        obtain ⟨x, hx⟩ : ∃ x, x = p[k] := ⟨_, rfl⟩
        rw [← hx] at e1 SU
        clear hx
        have x1 : ¬ 9223372036854775807 < (tx [x]).size + (tx lb).size := by rw [tx_size, tx_size]; simp; omega
        have x2 : ¬ 9223372036854775807 < (tx (spr p la lb k)).size + (tx [x] ++ tx lb).size := by
          have := spr_len p la lb lla llb k hk
          rw [tx_append, tx_size, tx_size]; simp; omega
        go_wp2_with fail
        go_roundw
        case rel => exact ⟨k + 1, by omega, by go_num, by rw [tx_append, tx_append, SU.out]; rfl, trivial⟩
        case measure => simp [intOf]; omega
      · obtain rfl : k = p.length := by omega
        have SB := Lib.hid (spr_sub p la lb)
        have SO := Lib.hid (spr_ok OKP.out OKA.out OKB.out lla llb lp)
        have SL := spr_len p la lb lla llb p.length (Nat.le_refl _)
        generalize spr p la lb p.length = sp at SB SO SL ⊢
        have E10 := fun W h1 h2 => pas1_any (p ++ la) p ic vp vc W h1 h2 (OKP.out.app OKA.out (by simp; omega)) OKP.out (by simp; omega) (.inl ⟨rfl, la, rfl⟩)
        have E20 := fun W h1 h2 => pas2_any (la ++ p) p ic vp vc W h1 h2 (OKA.out.app OKP.out (by simp; omega)) OKP.out (by simp; omega) (.inr (.inl ⟨rfl, la, rfl⟩))
        have E30 := fun W h1 h2 => pas3_any (la ++ p ++ lb) p ic vp vc W h1 h2 ((OKA.out.app OKP.out (by simp; omega)).app OKB.out (by simp; omega)) OKP.out (by simp; omega) (.inr (.inr (.inl ⟨rfl, la, lb, rfl⟩)))
        have E40 := fun W h1 h2 => pas4_any sp p ic vp vc W h1 h2 SO.out OKP.out (by omega) (.inr (.inr (.inr ⟨rfl, SB.out⟩)))
        rw [← tx_append] at E10 E20
        rw [← tx_append, ← tx_append] at E30
        have E1 := Lib.hid E10
        have E2 := Lib.hid E20
        have E3 := Lib.hid E30
        have E4 := Lib.hid E40
        clear E10 E20 E30 E40
        have x1 : ¬ 9223372036854775807 < (tx p).size + (tx la).size := by rw [tx_size, tx_size]; omega
        have x2 : ¬ 9223372036854775807 < (tx la).size + (tx p).size := by rw [tx_size, tx_size]; omega
        have x3 : ¬ 9223372036854775807 < (tx la ++ tx p).size + (tx lb).size := by rw [tx_append, tx_size, tx_size]; simp; omega
        go_wp2_with (first
          | (with_reducible refine (E1.out _ c1 c2).mono ?_; rintro e y1 ⟨rfl, o1⟩; have Y1 := Lib.hid (O2.out.trans o1); have d11 := (o1.cell (World.block_lt_of_cell? _ _ c1)).trans c1; have d12 := (o1.cell (World.block_lt_of_cell? _ _ c2)).trans c2; clear o1 c1 c2)
          | (with_reducible refine (E2.out _ d11 d12).mono ?_; rintro e y2 ⟨rfl, o2⟩; have Y2 := Lib.hid (Y1.out.trans o2); have d21 := (o2.cell (World.block_lt_of_cell? _ _ d11)).trans d11; have d22 := (o2.cell (World.block_lt_of_cell? _ _ d12)).trans d12; clear o2 d11 d12)
          | (with_reducible refine (E3.out _ d21 d22).mono ?_; rintro e y3 ⟨rfl, o3⟩; have Y3 := Lib.hid (Y2.out.trans o3); have d31 := (o3.cell (World.block_lt_of_cell? _ _ d21)).trans d21; have d32 := (o3.cell (World.block_lt_of_cell? _ _ d22)).trans d22; clear o3 d21 d22)
          | (with_reducible refine (E4.out _ d31 d32).mono ?_; rintro e y4 ⟨rfl, o4⟩; have Y4 := Lib.hid (Y3.out.trans o4); have d41 := (o4.cell (World.block_lt_of_cell? _ _ d31)).trans d31; have d42 := (o4.cell (World.block_lt_of_cell? _ _ d32)).trans d32; clear o4 d31 d32))
        go_ret
        exact ⟨rfl, Y4.out⟩
end Go.Proofs.YtleamondilmojaaDoor
