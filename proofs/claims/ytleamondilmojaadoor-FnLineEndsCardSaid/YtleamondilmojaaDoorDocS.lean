/- A document's rows and columns: where its lines begin; a search among them. -/
import Derived.Test.YtleamondilmojaaDoorDocL
import Derived.Deep.LoopGhost
import Derived.Deep.Cut
namespace Go.Proofs.YtleamondilmojaaDoor
open Go.RowKit
set_option linter.unusedVariables false
set_option linter.unusedSimpArgs false
set_option linter.unnecessarySimpa false
set_option maxRecDepth 100000

theorem info_int : (Tryd.prog.info? 3).map (fun i => (i.zero, i.size, i.bytes)) = some (some (.int .i64 0), 1, 8) := by kernel_rfl
section
variable {P : Program} {ops : Array Oper} {rest : List Oper} {o : Oper} {a : Act} {Q : Exit → Act → World → Prop} {w : World}
/-- 'make([]int, n)': a row of zeros of its own. -/
theorem wpList_make_ints (hg : o.guard = none) (l c : Operand) (t e : TypeId) (hop : o.op = Op.makeSlice t l c) (h1 : P.underlying t = some (.slice e)) (hinfo : (P.info? e).map (fun i => (i.zero, i.size, i.bytes)) = some (some (.int .i64 0), 1, 8))
    (kl kc : IntKind) (L C : Int) (n : Nat) (hl : a.eval l = .int kl L) (hc : a.eval c = .int kc C) (hL : L = (n : Int)) (hC : C = (n : Int)) (hn : n ≤ 2147483648)
    (h : ∀ w', COwn w' w.heap.size .i64 n (fun _ => 0) → Old w w' → w.heap.size < w'.heap.size → wpList P ops Q rest (a.put o.dst (.slice (some ⟨w.heap.size, 0, none⟩) n n)) w') :
    wpList P ops Q (o :: rest) a w := by
  obtain ⟨i, hi, hz0, hz1, hz2⟩ := info_parts1 hinfo
  have hb : i.bytes * n ≤ 8 * 2147483648 := by rw [hz2]; exact Nat.mul_le_mul (Nat.le_refl _) hn
  refine wpList_make_full w hg l c t hop w.heap.size e i (.int .i64 0) 1 h1 hi hz0 hz1 kl kc L C n hl hc hL hC (by omega) (by unfold maxLen; omega) (Nat.le_refl _) ?_
  intro w' hown hgr
  have e1 : (madeCells (Value.int .i64 0).cells (n * 1)).toList = List.replicate n (.int .i64 0) := by
    have hc1 : (Value.int .i64 0).cells = #[.int .i64 0] := rfl
    rw [hc1]
    apply List.ext_getElem
    · simp [madeCells]
    · intro j h1 h2
      simp [madeCells, Nat.mod_one]
  rw [e1] at hown
  refine h w' (fun j hj => ⟨?_, hown.frozenAt j⟩) ((Old.refl w).grown hgr (by simp)) (own_lt hown).2.1
  rw [own_cell hown j hj, gv_lt (by simpa using hj)]; simp
end

theorem far_cellD (w : World) {p i q j : Nat} (v : Value) (h : q ≠ p ∨ j ≠ i) : (w.setCell ⟨p, i, none⟩ v).cell? ⟨q, j, none⟩ = w.cell? ⟨q, j, none⟩ := by
  rw [World.cell?_setCell_other]
  intro e
  have e1 := congrArg Addr.block e
  have e2 := congrArg Addr.off e
  simp at e1 e2
  omega
/-- v is a row of numbers. -/
def IR (w : World) (v : Value) (n : Nat) (f : Nat → Int) : Prop := ∃ b c, v = .slice (some ⟨b, 0, none⟩) n c ∧ n ≤ c ∧ c ≤ maxLen ∧ b < w.heap.size ∧ ∀ j, j < n → w.cell? ⟨b, j, none⟩ = some (.int .i64 (f j))
theorem IR.old {w w' : World} {v : Value} {n : Nat} {f : Nat → Int} (h : IR w v n f) (o : Old w w') : IR w' v n f := by
  obtain ⟨b, c, rfl, h1, h2, h3, h4⟩ := h
  exact ⟨b, c, rfl, h1, h2, Nat.lt_of_lt_of_le h3 o.size, fun j hj => (o.cell h3).trans (h4 j hj)⟩
/-- How many places the row of the lines' beginnings has. -/
def starts (l : Bs) : Nat := if 1 < (splitL l).length then (splitL l).length else (splitL l).length + 1

set_option maxHeartbeats 2000000 in
theorem st_any (p : Nat) (l : Bs) (k : Nat) (w : World) (h : DP w p l k) (ok : okT l) : Calls Tryd.prog 94 #[.pointer (some ⟨p, 0, none⟩)] w fun e w' => ∃ v, e = .returned v ∧ Old w w' ∧ IR w' v (starts l) (fun j => start (splitL l) j) := by
  have H := Lib.hid h
  have OK := Lib.hid ok
  have hn := ok.n
  have hsz := splitL_size l
  have hpos := splitL_pos l
  have hall := start_all l
  clear h ok
  obtain ⟨n, hnn⟩ : ∃ n, n = (splitL l).length := ⟨_, rfl⟩
  have LCA := fun w' (o : Old w w') => lc_any p l k w' (H.out.old o) OK.out
  have SS : Hid (starts l = if 1 < n then n else n + 1) := by rw [hnn]; exact rfl
  rw [← hnn] at hsz hpos hall LCA
  have LC := Lib.hid LCA
  have NN := Lib.hid hnn
  have HALL := Lib.hid hall
  clear hnn LCA hall
  go_enter Tryd.func94, Tryd.ntmps94
  go_wp2_with (first
    | (go_at_call 69; refine (LC.out _ (Old.refl _)).mono ?_; rintro e w1 ⟨rfl, o1⟩; have O1 := Lib.hid o1; clear o1)
    | (at_make; refine wpList_make_ints rfl _ _ 100 3 rfl Tryd.underlying100 info_int _ _ _ _ n rfl rfl rfl rfl (by omega) ?_; intro w2 r2 o2 s2; have R2 := Lib.hid r2; have O2 := Lib.hid (O1.out.trans o2); have S2 := Lib.hid s2; clear r2 o2 s2)
    | (go_at_call 43; refine (lines_any p l k _ (H.out.old O2.out) OK.out).mono ?_; rintro e w3 ⟨v, rfl, o3, r3⟩; obtain ⟨b, c, rfl, b1, b2, b3, b4, cells⟩ := lineVs_at r3 (splitL_pos l); rw [← NN.out] at b3 cells; rw [← NN.out]; have CE := Lib.hid cells; have O3 := Lib.hid (O2.out.trans o3); have R3 := Lib.hid (R2.out.later S2.out o3); have B3 : Hid (w2.heap.size ≤ b ∧ b < w3.heap.size) := ⟨b1, b2⟩; unfold maxLen at b4; clear cells o3 r3 b1 b2))
  obtain ⟨g, hg⟩ : ∃ g, g = w1.heap.size := ⟨_, rfl⟩
  rw [← hg] at S2 R3 ⊢
  have G1 : Hid (w.heap.size ≤ g ∧ g < w3.heap.size ∧ g < b) := by
    have h1 := O1.out.size
    have h2 := S2.out
    have h3 := B3.out
    exact ⟨by omega, by omega, by omega⟩
  clear R2 B3 S2 hg
  have hgb : b ≠ g := by have := G1.out; omega
  go_loopw [18] (fun i wr => ∃ k : Nat, k ≤ n ∧ i = .int .i64 k ∧ Old w wr ∧ b < wr.heap.size ∧ COwn wr g .i64 n (fun j => if j < k then (line (splitL l) j).length else 0) ∧ ∀ j, j < n → wr.cell? ⟨b, j, none⟩ = some (.string (tx (line (splitL l) j)))) (fun i _ => n - (intOf i).toNat)
  case atStart => exact ⟨0, Nat.zero_le _, rfl, O3.out, World.block_lt_of_cell? _ _ (CE.out 0 (by omega)), R3.out.congr (fun j hj => by simp), CE.out⟩
  case round =>
    obtain ⟨k, hk, rfl, hold, hbl, hco, hce⟩ := hrel
    have OO := Lib.hid hold
    have CO := Lib.hid hco
    have CC := Lib.hid hce
    have BL := Lib.hid hbl
    clear hold hco hce hbl
    by_cases hlt : k < n
    · have c1 := CC.out k hlt
      obtain ⟨q, hq⟩ : ∃ q : Bs, q = line (splitL l) k := ⟨_, rfl⟩
      rw [← hq] at c1
      have hsq : (tx q).size = q.length := tx_size q
      have HQ := Lib.hid hq
      obtain ⟨x, c2⟩ : ∃ x, wr.cell? ⟨g, k, none⟩ = some x := ⟨_, (CO.out k hlt).1⟩
      have c3 := (CO.out k hlt).2
      have i0 : (0 : Int) ≤ k := by omega
      have i1 : (k : Int) < n := by omega
      clear hq
      go_wp2_with fail
      go_roundw
      case rel =>
        refine ⟨k + 1, by omega, by go_num, OO.out.stored (p := ⟨g, k, none⟩) G1.out.1 _, by have := BL.out; simpa [World.setCell] using this, ?_, fun j hj => ?_⟩
        · refine (CO.out.stored k hlt (q.length : Int)).congr fun j hj => ?_
          by_cases e : j = k
          · subst e; simp [HQ.out]
          · simp only [e, if_false]
            by_cases e2 : j < k
            · rw [if_pos e2, if_pos (by omega)]
            · rw [if_neg e2, if_neg (by omega)]
        · rw [far_cellD _ _ (Or.inl hgb)]; exact CC.out j hj
      case measure => simp [intOf]; omega
    · have hkn : n = k := by omega
      subst hkn
      have R4 : Hid (COwn wr g .i64 n (fun j => (line (splitL l) j).length)) := CO.out.congr fun j hj => by simp [hj]
      have GL : Hid (g < wr.heap.size) := World.block_lt_of_cell? _ _ (CO.out 0 (by omega)).1
      have e1 : IntKind.i64.wrap ((n : Int) + 1) = (n : Int) + 1 := IntWalk.i64_in _ (by omega)
      clear CO CC
      go_upto_region 12 with (at_make; refine wpList_make_ints rfl _ _ 100 3 rfl Tryd.underlying100 info_int _ _ _ _ (n + 1) rfl rfl (by omega) (by omega) (by omega) ?_; intro w5 r5 o5 s5; have R5 := Lib.hid r5; have O5 := Lib.hid (OO.out.trans o5); have S5 := Lib.hid s5; have R45 := Lib.hid (R4.out.later GL.out o5); obtain ⟨y, x5⟩ : ∃ x, w5.cell? ⟨wr.heap.size, 0, none⟩ = some x := ⟨_, (r5 0 (by omega)).1⟩; have f5 := (r5 0 (by omega)).2; clear r5 o5 s5)
      obtain ⟨g2, hg2⟩ : ∃ g2, g2 = wr.heap.size := ⟨_, rfl⟩
      rw [← hg2] at R5 GL S5 ⊢
      have hgg : g ≠ g2 := by have := GL.out; omega
      have B2 : Hid (w.heap.size ≤ g2) := by unfold Hid; rw [hg2]; exact OO.out.size
      have R6 : Hid (COwn (w5.setCell ⟨g2, 0, none⟩ (.int .i64 0)) g2 .i64 (n + 1) (fun j => if j ≤ 0 then start (splitL l) j else 0)) := (R5.out.stored 0 (by omega) 0).congr fun j hj => by
        by_cases e : j = 0
        · subst e; simp [start_zero]
        · simp [e]
      have O6 := Lib.hid (O5.out.stored (p := ⟨g2, 0, none⟩) B2.out (.int .i64 0))
      have R7 : Hid (COwn (w5.setCell ⟨g2, 0, none⟩ (.int .i64 0)) g .i64 n (fun j => (line (splitL l) j).length)) := fun j hj => ⟨(far_cellD _ _ (Or.inl hgg)).trans (R45.out j hj).1, by rw [frozen_setCell]; exact (R45.out j hj).2⟩
      have S6 : Hid (g2 < (w5.setCell ⟨g2, 0, none⟩ (.int .i64 0)).heap.size) := by unfold Hid; simpa [World.setCell] using S5.out
      clear R5 O5 S5 R45 hg2 x5 f5 R4 GL OO
      generalize w5.setCell ⟨g2, 0, none⟩ (.int .i64 0) = w6 at R6 O6 R7 S6 ⊢
      go_loopw [8, 36] (fun ps i wr => ∃ k : Nat, k ≤ n ∧ i = .int .i64 k ∧ ps = .int .i64 (start (splitL l) k) ∧ Old w wr ∧ g2 < wr.heap.size ∧ COwn wr g2 .i64 (n + 1) (fun j => if j ≤ k then start (splitL l) j else 0) ∧ COwn wr g .i64 n (fun j => (line (splitL l) j).length)) (fun _ i _ => n - (intOf i).toNat)
      case atStart => exact ⟨0, Nat.zero_le _, rfl, rfl, O6.out, S6.out, R6.out, R7.out⟩
      case round =>
        obtain ⟨k, hk, rfl, rfl, hold, hs2, hco, hcl⟩ := hrel
        have OO := Lib.hid hold
        have CO := Lib.hid hco
        have CC := Lib.hid hcl
        have SZ := Lib.hid hs2
        clear hold hco hcl hs2
        by_cases hlt : k < n
        · have c1 : wr.cell? ⟨g, k, none⟩ = some (.int .i64 ((line (splitL l) k).length : Nat)) := (CC.out k hlt).1
          obtain ⟨x, c2⟩ : ∃ x, wr.cell? ⟨g2, k + 1, none⟩ = some x := ⟨_, (CO.out (k + 1) (by omega)).1⟩
          have c3 := (CO.out (k + 1) (by omega)).2
          have hsu := start_succ (L := splitL l) (r := k) (by rw [← NN.out]; exact hlt)
          have hm := start_mono (L := splitL l) (a := k + 1) (n - (k + 1)) (by rw [← NN.out]; omega)
          rw [show k + 1 + (n - (k + 1)) = n by omega, HALL.out] at hm
          have HSU := Lib.hid hsu
          obtain ⟨s0, hs0⟩ : ∃ s0, s0 = start (splitL l) k := ⟨_, rfl⟩
          obtain ⟨s1, hs1⟩ : ∃ s1, s1 = start (splitL l) (k + 1) := ⟨_, rfl⟩
          obtain ⟨q, hq⟩ : ∃ q, q = (line (splitL l) k).length := ⟨_, rfl⟩
          rw [← hs1] at hm hsu
          rw [← hs0] at hsu ⊢
          rw [← hq] at hsu c1
          have HS1 := Lib.hid hs1
          have e2 : IntKind.i64.wrap ((q : Int) + 1) = (q : Int) + 1 := IntWalk.i64_in _ (by omega)
          have e3 : IntKind.i64.wrap ((s0 : Int) + ((q : Int) + 1)) = (s1 : Int) := by rw [IntWalk.i64_in _ (by omega)]; omega
          have e4 : IntKind.i64.wrap ((k : Int) + 1) = ((k + 1 : Nat) : Int) := by rw [IntWalk.i64_in _ (by omega)]; omega
          have i0 : (0 : Int) ≤ k := by omega
          have i1 : (k : Int) < n := by omega
          have i2 : (0 : Int) ≤ s0 := by omega
          have i3 : (0 : Int) ≤ q := by omega
          clear hs0 hs1 hq hsu hm e4
          go_wp2_with fail
          go_roundw
          case rel =>
            refine ⟨k + 1, by omega, by go_num, ?_, OO.out.stored (p := ⟨g2, k + 1, none⟩) B2.out _, by have := SZ.out; simpa [World.setCell] using this, ?_, fun j hj => ?_⟩
            · rw [← HS1.out]
            · refine (CO.out.stored (k + 1) (by omega) (s1 : Int)).congr fun j hj => ?_
              by_cases e : j = k + 1
              · subst e; simp [HS1.out]
              · simp only [e, if_false]
                by_cases e2 : j ≤ k
                · rw [if_pos e2, if_pos (by omega)]
                · rw [if_neg e2, if_neg (by omega)]
            · exact ⟨(far_cellD _ _ (Or.inl hgg)).trans (CC.out j hj).1, by rw [frozen_setCell]; exact (CC.out j hj).2⟩
          case measure => simp [intOf]; omega
        · have hkn : n = k := by omega
          subst hkn
          have R8 : Hid (IR wr (.slice (some ⟨g2, 0, none⟩) (n + 1) (n + 1)) (n + 1) (fun j => start (splitL l) j)) := by
            refine ⟨g2, n + 1, rfl, Nat.le_refl _, by unfold maxLen; omega, SZ.out, fun j hj => ?_⟩
            have := (CO.out j hj).1
            dsimp only at this ⊢
            rwa [if_pos (by omega)] at this
          have R9 : Hid (IR wr (.slice (some ⟨g2, 0, none⟩) n (n + 1)) n (fun j => start (splitL l) j)) := by
            refine ⟨g2, n + 1, rfl, by omega, by unfold maxLen; omega, SZ.out, fun j hj => ?_⟩
            have := (CO.out j (by omega)).1
            dsimp only at this ⊢
            rwa [if_pos (by omega)] at this
          by_cases h1 : 1 < n
          · have S1 : Hid (starts l = n) := by unfold Hid; rw [SS.out, if_pos h1]
            go_wp2_with fail
            go_ret
            exact ⟨_, rfl, OO.out, by rw [S1.out]; exact R9.out⟩
          · have S1 : Hid (starts l = n + 1) := by unfold Hid; rw [SS.out, if_neg h1]
            go_wp2_with fail
            go_ret
            exact ⟨_, rfl, OO.out, by rw [S1.out]; exact R8.out⟩

/-- The closure of a search among ascending numbers. -/
theorem cl1_any (bs_ bv b c n : Nat) (f : Nat → Int) (v : Int) (i : Nat) (w : World) (h1 : w.cell? ⟨bs_, 0, none⟩ = some (.slice (some ⟨b, 0, none⟩) n c)) (h2 : w.cell? ⟨bv, 0, none⟩ = some (.int .i64 v)) (hn : n ≤ c) (hc : c ≤ maxLen) (h3 : w.cell? ⟨b, i, none⟩ = some (.int .i64 (f i))) (hi : i < n) :
    Calls Tryd.prog 135 #[.int .i64 i, .pointer (some ⟨bs_, 0, none⟩), .pointer (some ⟨bv, 0, none⟩)] w fun e w' => e = .returned (.bool (decide (v < f i))) ∧ ∃ m, w' = w.drewN m := by
  unfold maxLen at hc
  have i0 : (0 : Int) ≤ i := by omega
  have i1 : (i : Int) < n := by omega
  generalize hx : f i = x at h3
  clear hx
  go_enter Tryd.func135, Tryd.ntmps135
  go_wp2_with fail
  go_quiet (fail)
  go_wp2_with fail
  go_ret
  exact ⟨rfl, nq, rfl⟩
set_option maxHeartbeats 1000000 in
theorem search_any (b1 b2 n t : Nat) (w : World) (hn : n ≤ 1000002) (ht : t ≤ n)
    (hf : ∀ m i, i < n → Calls Tryd.prog 135 #[.int .i64 i, .pointer (some ⟨b1, 0, none⟩), .pointer (some ⟨b2, 0, none⟩)] (w.drewN m) fun e w' => e = .returned (.bool (decide (t ≤ i))) ∧ ∃ q, w' = (w.drewN m).drewN q) :
    Calls Tryd.prog 134 #[.int .i64 n, .func (.func 135) #[] #[.pointer (some ⟨b1, 0, none⟩), .pointer (some ⟨b2, 0, none⟩)]] w fun e w' => e = .returned (.int .i64 t) ∧ ∃ q, w' = w.drewN q := by
  have HF := Lib.hid hf
  clear hf
  go_enter Tryd.func134, Tryd.ntmps134
  go_wp2_with fail
  go_loopw [5, 6] (fun s5 s6 wr => ∃ lo hi q : Nat, s5 = .int .i64 lo ∧ s6 = .int .i64 hi ∧ lo ≤ t ∧ t ≤ hi ∧ hi ≤ n ∧ wr = w.drewN q) (fun s5 s6 _ => (intOf s6).toNat - (intOf s5).toNat)
  case atStart => exact ⟨0, n, 0, rfl, rfl, Nat.zero_le _, ht, Nat.le_refl _, rfl⟩
  case round =>
    obtain ⟨lo, hi, q, rfl, rfl, hlo, hhi, hin, rfl⟩ := hrel
    by_cases hlt : lo < hi
    · have hc := HF.out q ((lo + hi) / 2) (by omega)
      rw [show (((lo + hi) / 2 : Nat) : Int) = ((lo : Int) + (hi : Int)) / 2 by omega] at hc
      by_cases hp : t ≤ (lo + hi) / 2
      · rw [decide_eq_true hp] at hc
        have HC := Lib.hid hc
        clear hc
        go_wp2_with (go_at_call 135; refine HC.out.mono ?_; rintro e w' ⟨rfl, nq, rfl⟩)
        go_roundw
        case rel => exact ⟨lo, (lo + hi) / 2, q + nq, rfl, by rw [show ((lo : Int) + (hi : Int)) / 2 = (((lo + hi) / 2 : Nat) : Int) by omega], by omega, hp, by omega, rfl⟩
        case measure => simp [intOf]; omega
      · rw [decide_eq_false hp] at hc
        have HC := Lib.hid hc
        clear hc
        go_wp2_with (go_at_call 135; refine HC.out.mono ?_; rintro e w' ⟨rfl, nq, rfl⟩)
        go_roundw
        case rel => exact ⟨(lo + hi) / 2 + 1, hi, q + nq, by rw [show ((lo : Int) + (hi : Int)) / 2 + 1 = (((lo + hi) / 2 + 1 : Nat) : Int) by omega], rfl, by omega, by omega, by omega, rfl⟩
        case measure => simp [intOf]; omega
    · obtain rfl : hi = lo := by omega
      obtain rfl : t = hi := by omega
      go_wp2_with fail
      go_ret
      exact ⟨rfl, q, rfl⟩
theorem bis_any (v : Value) (n t : Nat) (f : Nat → Int) (x : Int) (w : World) (h : IR w v n f) (hn : n ≤ 1000002) (ht : t ≤ n) (hf : ∀ i, i < n → (x < f i ↔ t ≤ i)) :
    Calls Tryd.prog 95 #[v, .int .i64 x] w fun e w' => e = .returned (.int .i64 t) ∧ Old w w' := by
  obtain ⟨b, c, rfl, h1, h2, h3, h4⟩ := h
  have HC := Lib.hid h4
  have HF := Lib.hid hf
  have h2' : c ≤ 9223372036854775807 := by unfold maxLen at h2; omega
  have SR : Hid (Calls Tryd.prog 122 #[.slice (some ⟨b, 0, none⟩) n c, .int .i64 x, .int .i64 0, .int .i64 n] w fun e w' => e = .returned (.int .i64 t) ∧ Old w w') := by
    unfold Hid
    have hmf : ∀ (fn : Fn) (first cap : Array Value) (w : World), (Instr.makeFunc fn first cap).run Tryd.prog w = .ok (.func fn first cap) w := fun _ _ _ _ => rfl
    have W2 : Hid (∀ m, ((((w.alloc (.cells #[.int .i64 x] 3)).alloc (.cells #[.slice (some ⟨b, 0, none⟩) n c] 100))).drewN m).cell? ⟨w.heap.size, 0, none⟩ = some (.int .i64 x) ∧ ((((w.alloc (.cells #[.int .i64 x] 3)).alloc (.cells #[.slice (some ⟨b, 0, none⟩) n c] 100))).drewN m).cell? ⟨w.heap.size + 1, 0, none⟩ = some (.slice (some ⟨b, 0, none⟩) n c) ∧ ∀ j, j < n → ((((w.alloc (.cells #[.int .i64 x] 3)).alloc (.cells #[.slice (some ⟨b, 0, none⟩) n c] 100))).drewN m).cell? ⟨b, j, none⟩ = some (.int .i64 (f j))) := by
      intro m
      have hs : (w.alloc (.cells #[.int .i64 x] 3)).heap.size = w.heap.size + 1 := by simp
      refine ⟨?_, ?_, fun j hj => ?_⟩
      · exact ((Old.alloc _ _).cell (o := 0) (by omega)).trans ((World.cell?_alloc_mark w #[.int .i64 x] 3 (0, 0) 0).trans rfl)
      · have := (World.cell?_alloc_mark (w.alloc (.cells #[.int .i64 x] 3)) #[.slice (some ⟨b, 0, none⟩) n c] 100 (0, 0) 0).trans rfl
        rw [hs] at this; exact this
      · exact ((Old.alloc _ _).cell (by omega)).trans (((Old.alloc _ _).cell h3).trans (HC.out j hj))
    have i0 : (0 : Int) ≤ n := by omega
    have i1 : (n : Int) ≤ c := by omega
    go_enter Tryd.func122, Tryd.ntmps122
    go_wp2_with (go_at_call 134; refine (search_any (w.heap.size + 1) w.heap.size n t _ hn ht (fun m i hi => ((cl1_any (w.heap.size + 1) w.heap.size b c n f x i _ (W2.out m).2.1 (W2.out m).1 h1 h2 ((W2.out m).2.2 i hi) hi).mono (fun e w' hh => by
      obtain ⟨he, hq⟩ := hh
      refine ⟨?_, hq⟩
      rw [he]
      congr 2
      exact decide_eq_decide.2 (HF.out i hi))))).mono ?_; rintro e w3 ⟨rfl, q, rfl⟩)
    go_ret
    exact ⟨rfl, ((Old.alloc _ _).then_alloc _).then_drewN _⟩
  go_enter Tryd.func95, Tryd.ntmps95
  go_wp2_with (go_at_call 122; refine SR.out.mono ?_; rintro e w2 ⟨rfl, o2⟩; have O2 := Lib.hid o2; clear o2)
  go_ret
  exact ⟨rfl, O2.out⟩
end Go.Proofs.YtleamondilmojaaDoor
