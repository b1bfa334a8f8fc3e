/- FnHistoryKept: a text that was changed in its place in a history is found there again. -/
import Derived.Test.YtbkdppfjmfepiaaTurned
import Derived.Test.YtbkdppfjmfepiaaAscii
import Derived.Test.YtbkdppfjmfepiaaKeptM
import Derived.Test.YtbkdppfjmfepiaaFits1
import Derived.Test.YtbkdppfjmfepiaaAppNew
import Derived.Test.YtbkdppfjmfepiaaSame7
import Derived.Deep.Cut
namespace Go.Proofs.Ytbkdppfjmfepiaa
open Go.RowKit
set_option linter.unusedVariables false
set_option linter.unusedSimpArgs false
set_option linter.unnecessarySimpa false
set_option maxRecDepth 100000

theorem info_turn : (Try.prog.info? 39).map (fun i => (i.zero, i.size, i.bytes)) = some (some (.agg #[.int .i64 0, .string ByteArray.empty]), 2, 24) := by kernel_rfl
/-- The cells of some turns. -/
def flatT (l : List Trn) : List Value := l.flatMap fun t => [Value.int .i64 t.1, Value.string t.2]
theorem flatT_len (l : List Trn) : (flatT l).length = l.length * 2 := by
  unfold flatT
  induction l with
  | nil => rfl
  | cons a l ih => simp [List.flatMap_cons, ih]; omega
theorem flatT_app (l m : List Trn) : flatT (l ++ m) = flatT l ++ flatT m := by simp [flatT]
theorem flatT_at : ∀ (l : List Trn) (j : Nat), j < l.length → gv (flatT l) (j * 2) = .int .i64 (gt l j).1 ∧ gv (flatT l) (j * 2 + 1) = .string (gt l j).2
  | [], j, h => absurd h (by simp)
  | a :: l, 0, _ => ⟨rfl, rfl⟩
  | a :: l, j + 1, h => by
    have ih := flatT_at l j (by simpa using h)
    have e1 : (j + 1) * 2 = j * 2 + 2 := by omega
    have e2 : flatT (a :: l) = Value.int .i64 a.1 :: Value.string a.2 :: flatT l := rfl
    have e3 : gt (a :: l) (j + 1) = gt l j := rfl
    rw [e1, e2, e3]
    exact ih
theorem Turns.of_own {w : World} {base : Nat} {v : Value} {n : Nat} {l : List Trn} (h : w.ownsRow base 39 2 v n (flatT l)) (hn : 0 < n) (hw : ∀ j, j < l.length → (Lit.int .i64 (gt l j).1).wf = true ∧ (gt l j).2.size ≤ maxLen) : Turns w v l := by
  have hl : l.length = n := by have := h.1; rw [flatT_len] at this; omega
  subst hl
  rcases h.2 with ⟨_, h0⟩ | ⟨g, cap, cur, rfl, h1, h2, h3, h4, _⟩
  · omega
  · refine ⟨_, cap, rfl, h3, h4, fun j hj => ⟨g, 0, rfl, ?_, ?_⟩, hw⟩
    · have := flatT_at l j hj
      have hc := h.cells (g := g) rfl (j * 2) (gv (flatT l) (j * 2)) (by rw [gv_lt (by rw [flatT_len]; omega)]; exact List.getElem?_eq_getElem (by rw [flatT_len]; omega))
      rw [this.1] at hc
      rw [Nat.zero_add]
      have hadd : (⟨g, 0, none⟩ : Addr).add (j * 2) = ⟨g, j * 2, none⟩ := by unfold Addr.add; split <;> simp_all
      rwa [hadd] at hc
    · have := flatT_at l j hj
      have hc := h.cells (g := g) rfl (j * 2 + 1) (gv (flatT l) (j * 2 + 1)) (by rw [gv_lt (by rw [flatT_len]; omega)]; exact List.getElem?_eq_getElem (by rw [flatT_len]; omega))
      rw [this.2] at hc
      rw [Nat.zero_add]
      have hadd : (⟨g, 0, none⟩ : Addr).add (j * 2 + 1) = ⟨g, j * 2 + 1, none⟩ := by unfold Addr.add; split <;> simp_all
      rwa [hadd] at hc

theorem boolrow_at {w : World} {base : Nat} {e : TypeId} {v : Value} {l : List Bool} {n : Nat} (h : w.ownsRow base e 1 v n (l.map Value.bool)) (hn : 0 < n) : ∃ b c, v = .slice (some ⟨b, 0, none⟩) n c ∧ n ≤ c ∧ c ≤ maxLen ∧ ∀ j, j < n → w.cell? ⟨b, j, none⟩ = some (.bool (l.getD j false)) := by
  have hl : l.length = n := by have := h.1; simpa using this
  subst hl
  rcases h.2 with ⟨rfl, h0⟩ | ⟨g, cap, cur, rfl, h1, h2, h3, h4, _⟩
  · omega
  · refine ⟨_, cap, rfl, h3, h4, fun j hj => ?_⟩
    rw [own_cell h j hj, gv_lt (by simpa using hj)]; simp [List.getD, List.getElem?_eq_getElem hj]
theorem strrow_at {w : World} {base : Nat} {e : TypeId} {v : Value} {l : List ByteArray} {n : Nat} (h : w.ownsRow base e 1 v n (l.map Value.string)) (hn : 0 < n) : ∃ b c, v = .slice (some ⟨b, 0, none⟩) n c ∧ n ≤ c ∧ c ≤ maxLen ∧ ∀ j, j < n → w.cell? ⟨b, j, none⟩ = some (.string (gs l j)) := by
  have hl : l.length = n := by have := h.1; simpa using this
  subst hl
  rcases h.2 with ⟨rfl, h0⟩ | ⟨g, cap, cur, rfl, h1, h2, h3, h4, _⟩
  · omega
  · refine ⟨_, cap, rfl, h3, h4, fun j hj => ?_⟩
    rw [own_cell h j hj, gv_lt (by simpa using hj)]; simp [gs_lt hj]
theorem trnsOk (L : List ByteArray) (ch : ByteArray) (hL : ∀ j, j < L.length → fine (gs L j)) (hc : fine ch) : ∀ j, j < (adds L ++ five ch).length → fine (gt (adds L ++ five ch) j).2 ∧ 1 ≤ (gt (adds L ++ five ch) j).1 ∧ (gt (adds L ++ five ch) j).1 ≤ 4 := by
  have one : ∀ b : UInt8, b.toNat < 128 → fine ⟨#[b]⟩ := fun b hb => ⟨by
    intro k hk
    have h0 : k = 0 := by
      simp only [ByteArray.size] at hk
      have : (#[b] : Array UInt8).size = 1 := rfl
      omega
    subst h0
    exact hb, by show (1 : Nat) ≤ 2147483647; decide⟩
  have f1 := one 120 (by decide)
  have f2 := one 121 (by decide)
  intro j hj
  rw [gt_lt hj]
  have hm := List.getElem_mem hj
  generalize (adds L ++ five ch)[j] = t at hm
  simp only [List.mem_append, adds, List.mem_map, five, List.mem_cons, List.not_mem_nil, or_false] at hm
  rcases hm with ⟨s, hs, rfl⟩ | rfl | rfl | rfl | rfl | rfl
  · obtain ⟨i, hi, rfl⟩ := List.getElem_of_mem hs
    have := hL i hi
    rw [gs_lt hi] at this
    exact ⟨this, by simp, by simp⟩
  · exact ⟨fine_nil, by decide, by decide⟩
  · exact ⟨f1, by decide, by decide⟩
  · exact ⟨hc, by simp, by simp⟩
  · exact ⟨f2, by decide, by decide⟩
  · exact ⟨hc, by simp, by simp⟩
theorem gs_five {ts : List ByteArray} {a b c d e : ByteArray} {p : Nat} (h : ts.length = p) : gs (ts ++ [a, b, c, d, e]) (p + 1) = b ∧ gs (ts ++ [a, b, c, d, e]) (p + 2) = c ∧ gs (ts ++ [a, b, c, d, e]) (p + 3) = d ∧ gs (ts ++ [a, b, c, d, e]) (p + 4) = e := by
  subst h
  unfold gs
  simp [List.getD, List.getElem?_append_right]
theorem gb_five {ts : List Bool} {a b c d e : Bool} {p : Nat} (h : ts.length = p) : (ts ++ [a, b, c, d, e]).getD (p + 1) false = b ∧ (ts ++ [a, b, c, d, e]).getD (p + 2) false = c ∧ (ts ++ [a, b, c, d, e]).getD (p + 3) false = d ∧ (ts ++ [a, b, c, d, e]).getD (p + 4) false = e := by
  subst h
  simp [List.getD, List.getElem?_append_right]

set_option maxHeartbeats 4000000 in
theorem lawKept_any (v : Value) (L : List ByteArray) (ch : ByteArray) (w : World) (h : Strs w v L) (hch : ch.size ≤ 140737488351232) :
    Calls Try.prog 6 #[v, .string ch] w fun e w' => e = .returned (.bool true) ∧ Below w.heap.size w w' := by
  have HT := Lib.hid h
  obtain ⟨ad, c, rfl, h2, h3, h4, h5⟩ := h
  clear h4 h5
  unfold maxLen at h3
  by_cases hok : fitS L = true ∧ ch.size ≤ 2147483647 ∧ 0 < L.length ∧ L.length ≤ 8 ∧ asc10 ch = true
  · obtain ⟨k1, k2, k3, k4, k5⟩ := hok
    have K1 := Lib.hid k1
    have K5 := Lib.hid k5
    clear k1 k5
    have f0 : ((L.length : Int) == 0) = false := by simp; intro e; rw [e] at k3; simp at k3
    have f1 : decide ((L.length : Int) > 8) = false := by simp; omega
    have f2 : decide ((ch.size : Int) > 2147483647) = false := by simp; omega
    go_enter Try.func6, Try.ntmps6
    go_wp2_with (first
      | (go_at_call 16; refine (fits1_any _ L w HT.out).mono ?_; rw [K1.out]; rintro e w1 ⟨rfl, o1⟩; have O1 := Lib.hid o1; clear o1)
      | (go_at_call 17; refine (ascii_any ch _ (by omega)).mono ?_; rw [K5.out]; rintro e w2 ⟨rfl, rfl⟩))
    have T1 := Lib.hid (HT.out.old O1.out)
    go_loopw [5, 6] (fun lv i wr => ∃ k : Nat, k ≤ L.length ∧ i = .int .i64 k ∧ Old w1 wr ∧ wr.ownsRow w1.heap.size 39 2 lv k (flatT (adds (L.take k))) ∧ ∀ j, j < k → fine (gs L j)) (fun _ i _ => L.length - (intOf i).toNat)
    case atStart => exact ⟨0, Nat.zero_le _, rfl, Old.refl _, ⟨rfl, .inl ⟨rfl, rfl⟩⟩, fun j hj => absurd hj (by omega)⟩
    case round =>
      obtain ⟨k, hk, rfl, ho, hown, hall⟩ := hrel
      have AL := Lib.hid hall
      have OO := Lib.hid ho
      have OW := Lib.hid hown
      clear hall ho hown
      by_cases hlt : k < L.length
      · obtain ⟨b, o, rfl, c1⟩ := (T1.out.old OO.out).cell k hlt
        have hfs : (gs L k).size ≤ 2147483647 := (of_decide_eq_true K1.out).2 k hlt
        obtain ⟨s, hs⟩ : ∃ s, s = gs L k := ⟨_, rfl⟩
        rw [← hs] at c1 hfs
        have HS := Lib.hid hs
        clear hs
        have i0 : (0 : Int) ≤ k := by omega
        have i1 : (k : Int) < L.length := by omega
        cases q1 : asc10 s with
        | false =>
          have Q1 := Lib.hid q1
          clear q1
          go_wp2_with (go_at_call 17; refine (ascii_any s _ (by omega)).mono ?_; rw [Q1.out]; rintro e w2 ⟨rfl, rfl⟩)
          go_ret
          exact ⟨rfl, O1.out.trans OO.out⟩
        | true =>
          have Q1 := Lib.hid q1
          clear q1
          go_wp2_with (first
            | (go_at_call 17; refine (ascii_any s _ (by omega)).mono ?_; rw [Q1.out]; rintro e w2 ⟨rfl, rfl⟩)
            | (at_builtin; refine wpList_append_new rfl _ _ 37 39 _ (.agg #[.int .i64 0, .string ByteArray.empty]) 2 24 rfl Try.underlying37 info_turn rfl (by decide) w1.heap.size _ k _ rfl OW.out 1 #[.int .i64 1, .string s] rfl (by decide) rfl (by intro y hy; simp at hy; rcases hy with rfl | rfl <;> rfl) (by omega) (by omega) OO.out.size ?_; intro v' w5 hown1 hg1 hv1; obtain ⟨tb', tc', rfl, hat⟩ := hv1; have OW2 := Lib.hid hown1; have O2 := Lib.hid (OO.out.own (Nat.le_refl _) OW.out hg1); clear hown1 hg1 hat))
          go_roundw
          case rel =>
            refine ⟨k + 1, by omega, by go_num, O2.out, ?_, fun j hj => ?_⟩
            · have e : adds (L.take (k + 1)) = adds (L.take k) ++ [(1, s)] := by rw [List.take_succ_eq_append_getElem hlt, adds_snoc, ← gs_lt hlt, HS.out]
              rw [e, flatT_app]
              exact OW2.out
            · by_cases e : j = k
              · subst e; rw [← HS.out]
                have a10 := asc10_iff.1 Q1.out
                exact ⟨a10.1, by omega⟩
              · exact AL.out j (by omega)
          case measure => simp [intOf]; omega
      · have hkn' : k = L.length := by omega
        subst hkn'
        rw [List.take_length] at OW
        have ROW : ∀ w' : World, ∀ v', w'.ownsRow w1.heap.size 39 2 v' (L.length + 5) (flatT (adds L) ++ [.int .i64 4, .string ⟨#[]⟩, .int .i64 2, .string ⟨#[120]⟩, .int .i64 3, .string ch, .int .i64 2, .string ⟨#[121]⟩, .int .i64 3, .string ch]) → Turns w' v' (adds L ++ five ch) := fun w' v' hr => by
          have e : flatT (adds L ++ five ch) = flatT (adds L) ++ [.int .i64 4, .string ⟨#[]⟩, .int .i64 2, .string ⟨#[120]⟩, .int .i64 3, .string ch, .int .i64 2, .string ⟨#[121]⟩, .int .i64 3, .string ch] := by rw [flatT_app]; rfl
          rw [← e] at hr
          refine Turns.of_own hr (by omega) fun j hj => ?_
          have hc5 := asc10_iff.1 K5.out
          have := trnsOk L ch AL.out ⟨hc5.1, by omega⟩ j hj
          refine ⟨by
            have h2 := this.2
            generalize (gt (adds L ++ five ch) j).1 = x at h2
            rcases (show x = 1 ∨ x = 2 ∨ x = 3 ∨ x = 4 by omega) with h | h | h | h <;> rw [h] <;> rfl, by have := this.1.2; unfold maxLen; omega⟩
        have ROWH := Lib.hid ROW
        clear ROW
        have TOK : Hid (∀ j, j < (adds L ++ five ch).length → fine (gt (adds L ++ five ch) j).2 ∧ 1 ≤ (gt (adds L ++ five ch) j).1 ∧ (gt (adds L ++ five ch) j).1 ≤ 4) := by
          have hc5 := asc10_iff.1 K5.out
          exact trnsOk L ch AL.out ⟨hc5.1, by omega⟩
        have LEN : Hid ((adds L ++ five ch).length ≤ 900) := by unfold Hid; simp [adds, five]; omega
        obtain ⟨ts, bs, hk1, hk2, hk3⟩ := kept L ch k3
        have ht := congrArg (fun z => z.2.1) hk1
        have hb := congrArg (fun z => z.2.2) hk1
        dsimp only at ht hb
        have HTS := Lib.hid ht
        have HBS := Lib.hid hb
        have G5 := Lib.hid (gs_five (a := ⟨#[]⟩) (b := gs L (L.length - 1)) (c := ⟨#[120]⟩) (d := ch) (e := ⟨#[121]⟩) hk2)
        have B5 := Lib.hid (gb_five (a := false) (b := true) (c := true) (d := true) (e := true) hk3)
        have HK2 := Lib.hid hk2
        have HK3 := Lib.hid hk3
        clear hk1 hk2 hk3 ht hb
        go_upto_region 14 with (first
          | (at_builtin; refine wpList_append_new rfl _ _ 37 39 _ (.agg #[.int .i64 0, .string ByteArray.empty]) 2 24 rfl Try.underlying37 info_turn rfl (by decide) w1.heap.size _ L.length _ rfl OW.out 5 #[.int .i64 4, .string ⟨#[]⟩, .int .i64 2, .string ⟨#[120]⟩, .int .i64 3, .string ch, .int .i64 2, .string ⟨#[121]⟩, .int .i64 3, .string ch] rfl (by decide) rfl (by intro y hy; simp at hy; rcases hy with rfl | rfl | rfl | rfl | rfl | rfl | rfl | rfl | rfl | rfl <;> rfl) (by omega) (by omega) OO.out.size ?_; intro v' w5 hown1 hg1 hv1; obtain ⟨tb', tc', rfl, hat⟩ := hv1; have TT := Lib.hid (ROWH.out _ _ hown1); have O2 := Lib.hid (OO.out.own (Nat.le_refl _) OW.out hg1); clear hown1 hg1 hat)
          | (go_at_call 18; refine (turned_any _ _ w5 TT.out LEN.out (fun j hj => (TOK.out j hj).1) (fun j hj => (TOK.out j hj).2)).mono ?_; rintro e w6 ⟨tu, cu, rfl, o6, t6, c6⟩; have T6 := Lib.hid t6; have C6 := Lib.hid c6; have O6 := Lib.hid (O2.out.trans o6); clear t6 c6 o6))
        obtain ⟨n, hn⟩ : ∃ n, n = L.length + 5 := ⟨_, rfl⟩
        rw [← hn]
        obtain ⟨q1, hq1⟩ : ∃ q, q = L.length + 1 := ⟨_, rfl⟩
        obtain ⟨q2, hq2⟩ : ∃ q, q = L.length + 2 := ⟨_, rfl⟩
        obtain ⟨q3, hq3⟩ : ∃ q, q = L.length + 3 := ⟨_, rfl⟩
        obtain ⟨q4, hq4⟩ : ∃ q, q = L.length + 4 := ⟨_, rfl⟩
        obtain ⟨p, hp⟩ : ∃ p, p = L.length - 1 := ⟨_, rfl⟩
        have t6 := T6.out
        have c6 := C6.out
        rw [HTS.out] at t6
        rw [HBS.out] at c6
        have n1 : (ts ++ [(⟨#[]⟩ : ByteArray), gs L (L.length - 1), ⟨#[120]⟩, ch, ⟨#[121]⟩]).length = n := by simp [HK2.out]; omega
        have n2 : (bs ++ [false, true, true, true, true]).length = n := by simp [HK3.out]; omega
        rw [n1] at t6
        rw [n2] at c6
        obtain ⟨tb, tc, rfl, tl1, tl2, tcell⟩ := strrow_at t6 (by omega)
        obtain ⟨cb, cc, rfl, cl1, cl2, ccell⟩ := boolrow_at c6 (by omega)
        unfold maxLen at tl2 cl2
        have g1 := tcell q1 (by omega)
        have g2 := tcell q2 (by omega)
        have g3 := tcell q3 (by omega)
        have g4 := tcell q4 (by omega)
        have b1 := ccell q1 (by omega)
        have b2 := ccell q2 (by omega)
        have b3 := ccell q3 (by omega)
        have b4 := ccell q4 (by omega)
        obtain ⟨x1, x2, x3, x4⟩ := G5.out
        obtain ⟨z1, z2, z3, z4⟩ := B5.out
        rw [← hq1] at x1 z1
        rw [← hq2] at x2 z2
        rw [← hq3] at x3 z3
        rw [← hq4] at x4 z4
        rw [x1, ← hp] at g1
        rw [x2] at g2
        rw [x3] at g3
        rw [x4] at g4
        rw [z1] at b1
        rw [z2] at b2
        rw [z3] at b3
        rw [z4] at b4
        obtain ⟨ab, ao, rfl, a1⟩ := (T1.out.old O6.out).cell p (by omega)
        have e1 : IntKind.i64.wrap ((n : Int) - 4) = (q1 : Int) := by rw [IntWalk.i64_in _ (by omega)]; omega
        have e2 : IntKind.i64.wrap ((n : Int) - 3) = (q2 : Int) := by rw [IntWalk.i64_in _ (by omega)]; omega
        have e3 : IntKind.i64.wrap ((n : Int) - 2) = (q3 : Int) := by rw [IntWalk.i64_in _ (by omega)]; omega
        have e4 : IntKind.i64.wrap ((n : Int) - 1) = (q4 : Int) := by rw [IntWalk.i64_in _ (by omega)]; omega
        have e5 : IntKind.i64.wrap ((L.length : Int) - 1) = (p : Int) := by rw [IntWalk.i64_in _ (by omega)]; omega
        have i1 : (0 : Int) ≤ q1 := by omega
        have i2 : (0 : Int) ≤ q2 := by omega
        have i3 : (0 : Int) ≤ q3 := by omega
        have i4 : (0 : Int) ≤ q4 := by omega
        have i5 : (0 : Int) ≤ p := by omega
        have j1 : (q1 : Int) < n := by omega
        have j2 : (q2 : Int) < n := by omega
        have j3 : (q3 : Int) < n := by omega
        have j4 : (q4 : Int) < n := by omega
        have j5 : (p : Int) < L.length := by omega
        have N5 : Hid (n ≤ 20) := by unfold Hid; omega
        clear x1 x2 x3 x4 z1 z2 z3 z4 n1 n2 t6 c6 tcell ccell hq1 hq2 hq3 hq4 hp hn
        have E0 : ((n : Int) == (n : Int)) = true := by simp
        go_wp2_with fail
        go_quiet (fail)
        go_wp2_with fail
        go_ret
        exact ⟨rfl, O1.out.trans (O6.out.trans (Old.drewN _ _))⟩
  · have HOK := Lib.hid hok
    clear hok
    cases k1 : fitS L with
    | false =>
      have K1 := Lib.hid k1
      clear k1
      go_enter Try.func6, Try.ntmps6
      go_wp2_with (go_at_call 16; refine (fits1_any _ L w HT.out).mono ?_; rw [K1.out]; rintro e w1 ⟨rfl, o1⟩; have O1 := Lib.hid o1; clear o1)
      go_ret
      exact ⟨rfl, O1.out⟩
    | true =>
      have K1 := Lib.hid k1
      clear k1
      by_cases k2 : ch.size ≤ 2147483647
      · have f2 : decide ((ch.size : Int) > 2147483647) = false := by simp; omega
        by_cases k3 : 0 < L.length
        · have f0 : ((L.length : Int) == 0) = false := by simp; intro e; rw [e] at k3; simp at k3
          by_cases k4 : L.length ≤ 8
          · have f1 : decide ((L.length : Int) > 8) = false := by simp; omega
            have K5 : Hid (asc10 ch = false) := by
              unfold Hid
              cases h : asc10 ch with
              | false => rfl
              | true => exact absurd ⟨K1.out, k2, k3, k4, h⟩ HOK.out
            go_enter Try.func6, Try.ntmps6
            go_wp2_with (first
              | (go_at_call 16; refine (fits1_any _ L w HT.out).mono ?_; rw [K1.out]; rintro e w1 ⟨rfl, o1⟩; have O1 := Lib.hid o1; clear o1)
              | (go_at_call 17; refine (ascii_any ch _ (by omega)).mono ?_; rw [K5.out]; rintro e w2 ⟨rfl, rfl⟩))
            go_ret
            exact ⟨rfl, O1.out⟩
          · have f1 : decide ((L.length : Int) > 8) = true := by simp; omega
            go_enter Try.func6, Try.ntmps6
            go_wp2_with (first
              | (go_at_call 16; refine (fits1_any _ L w HT.out).mono ?_; rw [K1.out]; rintro e w1 ⟨rfl, o1⟩; have O1 := Lib.hid o1; clear o1))
            go_ret
            exact ⟨rfl, O1.out⟩
        · have f0 : ((L.length : Int) == 0) = true := by simp; exact List.eq_nil_of_length_eq_zero (by omega)
          go_enter Try.func6, Try.ntmps6
          go_wp2_with (first
            | (go_at_call 16; refine (fits1_any _ L w HT.out).mono ?_; rw [K1.out]; rintro e w1 ⟨rfl, o1⟩; have O1 := Lib.hid o1; clear o1))
          go_ret
          exact ⟨rfl, O1.out⟩
      · have f2 : decide ((ch.size : Int) > 2147483647) = true := by simp; omega
        go_enter Try.func6, Try.ntmps6
        go_wp2_with (first
          | (go_at_call 16; refine (fits1_any _ L w HT.out).mono ?_; rw [K1.out]; rintro e w1 ⟨rfl, o1⟩; have O1 := Lib.hid o1; clear o1))
        go_ret
        exact ⟨rfl, O1.out⟩
end Go.Proofs.Ytbkdppfjmfepiaa
