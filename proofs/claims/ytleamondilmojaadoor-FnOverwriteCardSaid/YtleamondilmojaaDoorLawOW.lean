/- FnOverwrite: a text that is written over others is a text that is inserted, with as many signs taken out behind it. (Printed by mklawow.py.) -/
import Derived.Test.YtleamondilmojaaDoorOne7
namespace Go.Proofs.YtleamondilmojaaDoor
open Go.RowKit
set_option linter.unusedVariables false
set_option linter.unusedSimpArgs false
set_option linter.unnecessarySimpa false
set_option maxRecDepth 100000

theorem flen_take (p : UInt8 → Bool) : ∀ (j : Nat) (m : Bs), j ≤ flen p m → flen p (m.take j) = j
  | 0, m, _ => rfl
  | j + 1, [], h => by simp [flen] at h
  | j + 1, c :: m, h => by
    have hc : p c = false := by
      cases hc : p c with
      | true => unfold flen at h; rw [List.findIdx_cons] at h; simp [hc] at h
      | false => rfl
    have e : ∀ x : Bs, flen p (c :: x) = flen p x + 1 := fun x => by unfold flen; rw [List.findIdx_cons]; simp [hc]
    rw [e] at h
    rw [List.take_succ_cons, e, flen_take p j m (by omega)]
theorem over_all {l v : Bs} {k : Nat} (h : v.length ≤ (lineA l k).length) : overN l k v = v.length := by
  rw [lineA_len] at h
  unfold overN
  exact flen_take nl _ _ h
theorem over_two {l v : Bs} {k : Nat} (hk : k ≤ l.length) (h : k + v.length ≤ l.length) : delT (insM l k v) (k + v.length) v.length = putM l k v v.length ∧ (delR (insM l k v) (k + v.length) v.length).length = v.length ∧ (putM l k v v.length).length = l.length := by
  have hl := insM_len hk v
  have hp : (putM l k v v.length).length = l.length := by unfold putM; simp; omega
  unfold delT delR
  by_cases hlt : k + v.length < (insM l k v).length
  · rw [if_pos hlt, if_pos hlt, insM_drop2 hk]
    refine ⟨?_, by simp; omega, hp⟩
    unfold delM putM
    rw [insM_take2 hk, ← List.drop_drop, insM_drop2 hk, List.drop_drop]
  · rw [if_neg hlt, if_neg hlt]
    have hv : v = [] := List.eq_nil_of_length_eq_zero (by omega)
    subst hv
    exact ⟨rfl, rfl, hp⟩
theorem script_two (w : World) (op n op2 n2 : Int) (t t2 : ByteArray) (f f2 : Bool) : Script (w.alloc (.cells #[.int .i64 op, .int .i64 n, .string t, .bool f, .int .i64 op2, .int .i64 n2, .string t2, .bool f2] 40)) (.slice (some ⟨w.heap.size, 0, none⟩) 2 2) [⟨op, n, t, f⟩, ⟨op2, n2, t2, f2⟩] := by
  have hz := heap_alloc_new w (.cells #[.int .i64 op, .int .i64 n, .string t, .bool f, .int .i64 op2, .int .i64 n2, .string t2, .bool f2] 40)
  refine ⟨_, 2, rfl, Nat.le_refl _, by unfold maxLen; omega, fun j hj => ?_⟩
  rcases (show j = 0 ∨ j = 1 by have : j < 2 := hj; omega) with rfl | rfl
  · exact ⟨w.heap.size, 0, rfl, (bcell hz 0).trans rfl, (bcell hz 1).trans rfl, (bcell hz 2).trans rfl, (bcell hz 3).trans rfl⟩
  · exact ⟨w.heap.size, 0, rfl, (bcell hz 4).trans rfl, (bcell hz 5).trans rfl, (bcell hz 6).trans rfl, (bcell hz 7).trans rfl⟩
set_option maxHeartbeats 4000000 in
theorem lawOW_any (s : ByteArray) (z : Int) (q : ByteArray) (w : World) (hs : s.size ≤ 9223372036854775807) (hz : (Lit.int .i64 z).wf = true) (hq : q.size ≤ 140737488351232) :
    Calls Tryd.prog 7 #[.agg #[.string s, .int .i64 z], .string q] w fun e w' => e = .returned (.bool true) ∧ Below w.heap.size w w' := by
  have C0 : Hid (∀ w0 w', w0 = w.alloc (.cells #[.string s, .int .i64 z] 34) → Old w0 w' → w'.cell? ⟨w.heap.size, 0, none⟩ = some (.string s) ∧ w'.cell? ⟨w.heap.size, 1, none⟩ = some (.int .i64 z)) := fun w0 w' e o => by
    subst e
    have c0 := (World.cell?_alloc_mark w #[.string s, .int .i64 z] 34 (0, 0) 0).trans rfl
    have c1 := (World.cell?_alloc_mark w #[.string s, .int .i64 z] 34 (0, 0) 1).trans rfl
    have hlt := World.block_lt_of_cell? _ _ c0
    exact ⟨(o.cell hlt).trans c0, (o.cell hlt).trans c1⟩
  have O0 := Lib.hid (Old.alloc w (.cells #[.string s, .int .i64 z] 34))
  have B0 : Hid (∀ l k, s = tx l → z = ((k : Nat) : Int) → DB (w.alloc (.cells #[.string s, .int .i64 z] 34)) w.heap.size l k) := fun l k e1 e2 => by subst e1 e2; exact DB.new w l k
  clear hz
  go_enter Tryd.func7, Tryd.ntmps7
  go_upto_region 1 with fail
  generalize hW : w.alloc (.cells #[.string s, .int .i64 z] 34) = Wd at O0 B0 ⊢
  obtain ⟨d, hd⟩ : ∃ d, d = w.heap.size := ⟨_, rfl⟩
  rw [← hd]
  rw [← hd] at B0
  have DC : Hid (∀ w', Old Wd w' → w'.cell? ⟨d, 0, none⟩ = some (.string s) ∧ w'.cell? ⟨d, 1, none⟩ = some (.int .i64 z)) := fun w' o => by
    rw [hd]; exact C0.out _ w' hW.symm o
  clear hW hd C0
  obtain ⟨x0, x1⟩ := DC.out Wd (Old.refl _)
  by_cases h1 : s.size ≤ 2147483647
  · have d1 : Hid (decide (s.size ≤ 2147483647) = true) := by unfold Hid; simpa using h1
    by_cases h3 : q.size ≤ 2147483647
    · have d3 : decide ((q.size : Int) > 2147483647) = false := by simp; omega
      by_cases h2 : drB s z = true ∧ asc10 q = true
      · obtain ⟨e2, e3⟩ := h2
        have H2 := Lib.hid e2
        have H3 := Lib.hid e3
        obtain ⟨l, rfl⟩ : ∃ l, s = tx l := ⟨bs s, (tx_bs s).symm⟩
        obtain ⟨v, rfl⟩ : ∃ v, q = tx v := ⟨bs q, (tx_bs q).symm⟩
        obtain ⟨k, rfl, hk, ok, hl⟩ := dr_ok e2
        have OV0 := okT_of e3
        rw [bs_tx] at OV0
        have OK := Lib.hid ok
        have OV := Lib.hid OV0.1
        have hvn := OV0.2
        have BD := Lib.hid (B0.out l k rfl rfl)
        clear e2 e3 ok OV0 B0 d3
        go_upto_region 5 with (first
          | (go_at_call 15; refine (fits_any (tx l) k _ (by omega)).mono ?_; rw [d1.out]; rintro e w1 ⟨rfl, o1⟩; have P1 := Lib.hid o1; have D1 := DC.out _ o1; obtain ⟨y0, y1⟩ := D1; clear o1)
          | (go_at_call 16; refine (right_any (tx l) k _ (by omega)).mono ?_; rw [H2.out]; rintro e w2 ⟨rfl, o2⟩; have P2 := Lib.hid (P1.out.trans o2); have D2 := DC.out _ P2.out; obtain ⟨t0, t1⟩ := D2; clear o2)
          | (go_at_call 10; refine (ascii_any _ _ (by omega)).mono ?_; rw [H3.out]; rintro e w3 ⟨rfl, h3⟩; obtain rfl : w2 = w3 := h3))
        have hvs : (tx v).size = v.length := tx_size v
        have has : (tx (lineA l k)).size = (lineA l k).length := tx_size _
        have hroom := lineA_room l k
        by_cases h5 : 1 < (splitL v).length
        · have d5 : decide (((splitL v).length : Int) > 1) = true := by simp; omega
          go_wp2_with (first
            | (go_at_call 15; refine (fits_any (tx l) k _ (by omega)).mono ?_; rw [d1.out]; rintro e w1 ⟨rfl, o1⟩; have P1 := Lib.hid o1; have D1 := DC.out _ o1; obtain ⟨y0, y1⟩ := D1; clear o1)
            | (go_at_call 16; refine (right_any (tx l) k _ (by omega)).mono ?_; rw [H2.out]; rintro e w2 ⟨rfl, o2⟩; have P2 := Lib.hid (P1.out.trans o2); have D2 := DC.out _ P2.out; obtain ⟨t0, t1⟩ := D2; clear o2)
            | (go_at_call 10; refine (ascii_any _ _ (by omega)).mono ?_; rw [H3.out]; rintro e w3 ⟨rfl, h3⟩; obtain rfl : w2 = w3 := h3)
            | (go_at_call 21; refine (lines9_any v w2 OV.out.n).mono ?_; rintro e w4 ⟨lv, rfl, o4, own4⟩; obtain ⟨lb, lc, rfl, _⟩ := lineVs_at own4 (splitL_pos v); have P4 := Lib.hid (P2.out.trans o4); have D4 := DC.out _ P4.out; obtain ⟨u0, u1⟩ := D4; clear o4 own4))
          go_ret
          exact ⟨rfl, O0.out.trans P4.out⟩
        · have d5 : decide (((splitL v).length : Int) > 1) = false := by simp; omega
          by_cases h6 : (lineA l k).length < v.length
          · go_wp2_with (first
              | (go_at_call 15; refine (fits_any (tx l) k _ (by omega)).mono ?_; rw [d1.out]; rintro e w1 ⟨rfl, o1⟩; have P1 := Lib.hid o1; have D1 := DC.out _ o1; obtain ⟨y0, y1⟩ := D1; clear o1)
              | (go_at_call 16; refine (right_any (tx l) k _ (by omega)).mono ?_; rw [H2.out]; rintro e w2 ⟨rfl, o2⟩; have P2 := Lib.hid (P1.out.trans o2); have D2 := DC.out _ P2.out; obtain ⟨t0, t1⟩ := D2; clear o2)
              | (go_at_call 10; refine (ascii_any _ _ (by omega)).mono ?_; rw [H3.out]; rintro e w3 ⟨rfl, h3⟩; obtain rfl : w2 = w3 := h3)
              | (go_at_call 21; refine (lines9_any v w2 OV.out.n).mono ?_; rintro e w4 ⟨lv, rfl, o4, own4⟩; obtain ⟨lb, lc, rfl, _⟩ := lineVs_at own4 (splitL_pos v); have P4 := Lib.hid (P2.out.trans o4); have D4 := DC.out _ P4.out; obtain ⟨u0, u1⟩ := D4; clear o4 own4)
              | (go_at_call 22; refine (la_any l k w4 hk OK.out).mono ?_; rintro e w5 ⟨rfl, o5⟩; have P5 := Lib.hid (P4.out.trans o5); have D5 := DC.out _ P5.out; obtain ⟨m0, m1⟩ := D5; clear o5))
            go_ret
            exact ⟨rfl, O0.out.trans P5.out⟩
          · have hkv : k + v.length ≤ l.length := by omega
            have DO := does_insO l k (-1) OK.out 0 v OV.out hkv
            rw [over_all (by omega)] at DO
            obtain ⟨g1, g2, g3⟩ := over_two hk hkv
            have okm := insM_ok OK.out OV.out k (by omega)
            have DE := does_del (insM l k v) (k + v.length) (-1) okm (by rw [insM_len hk]; omega) v.length ⟨#[]⟩ false (fun _ => by rw [insM_len hk]; omega)
            rw [g1] at DE
            have DI := does_ins l k (-1) OK.out hk 0 v OV.out
            obtain ⟨kv, hkv9⟩ : ∃ kv, kv = k + v.length := ⟨_, rfl⟩
            obtain ⟨p9, hp9⟩ : ∃ p9, p9 = putM l k v v.length := ⟨_, rfl⟩
            obtain ⟨r9, hr9⟩ : ∃ r9, r9 = delR (insM l k v) (k + v.length) v.length := ⟨_, rfl⟩
            rw [← hr9] at g2 DE
            rw [← hkv9] at DO DE DI
            rw [← hp9] at DO DE g3
            have E1 := Lib.hid (fun w' => one7_any l k 1 0 (tx v) true ⟨p9, kv, -1⟩ [] w' hk OK.out DO)
            have E2 := Lib.hid (fun w6 => ef_any l k (.slice (some ⟨w6.heap.size, 0, none⟩) 2 2) [⟨1, 0, tx v, false⟩, ⟨8, v.length, ⟨#[]⟩, false⟩] [[], r9] ⟨p9, kv, -1⟩ (w6.alloc (.cells #[.int .i64 1, .int .i64 0, .string (tx v), .bool false, .int .i64 8, .int .i64 v.length, .string ⟨#[]⟩, .bool false] 40)) hk OK.out (script_two w6 1 0 8 v.length (tx v) ⟨#[]⟩ false false) (sin_one _ _ _ _) (Chain.two DI DE) (by simp))
            have G := Lib.hid (And.intro g2 g3)
            clear DO DE DI g1 g2 g3 hr9 hp9 hkv9 okm
            go_upto_region 6 with (first
              | (go_at_call 15; refine (fits_any (tx l) k _ (by omega)).mono ?_; rw [d1.out]; rintro e w1 ⟨rfl, o1⟩; have P1 := Lib.hid o1; have D1 := DC.out _ o1; obtain ⟨y0, y1⟩ := D1; clear o1)
              | (go_at_call 16; refine (right_any (tx l) k _ (by omega)).mono ?_; rw [H2.out]; rintro e w2 ⟨rfl, o2⟩; have P2 := Lib.hid (P1.out.trans o2); have D2 := DC.out _ P2.out; obtain ⟨t0, t1⟩ := D2; clear o2)
              | (go_at_call 10; refine (ascii_any _ _ (by omega)).mono ?_; rw [H3.out]; rintro e w3 ⟨rfl, h3⟩; obtain rfl : w2 = w3 := h3)
              | (go_at_call 21; refine (lines9_any v w2 OV.out.n).mono ?_; rintro e w4 ⟨lv, rfl, o4, own4⟩; obtain ⟨lb, lc, rfl, _⟩ := lineVs_at own4 (splitL_pos v); have P4 := Lib.hid (P2.out.trans o4); have D4 := DC.out _ P4.out; obtain ⟨u0, u1⟩ := D4; clear o4 own4)
              | (go_at_call 22; refine (la_any l k w4 hk OK.out).mono ?_; rintro e w5 ⟨rfl, o5⟩; have P5 := Lib.hid (P4.out.trans o5); have D5 := DC.out _ P5.out; obtain ⟨m0, m1⟩ := D5; clear o5)
              | (go_at_call 20; refine (E1.out _).mono ?_; rintro e w6 ⟨rfl, o6⟩; have P6 := Lib.hid (P5.out.trans o6); clear o6))
            have bm := Lib.hid (DB.new w6 p9 kv)
            have P7 := Lib.hid (P6.out.trans (Old.alloc w6 (.cells #[.string (tx p9), .int .i64 kv] 34)))
            have bd := Lib.hid (BD.out.old P7.out)
            obtain ⟨m, hm⟩ : ∃ m, m = w6.heap.size := ⟨_, rfl⟩
            rw [← hm] at bm ⊢
            clear hm m0 m1 u0 u1 t0 t1 y0 y1
            generalize w6.alloc (.cells #[.string (tx p9), .int .i64 kv] 34) = w7 at bm P7 bd ⊢
            have d0 := bd.out.c0
            have d1z := bd.out.c1
            go_upto_region 7 with (go_at_call 17; refine (E2.out _).mono ?_; rintro e w8 ⟨tv8, rfl, o8, own8⟩; have O78 := Lib.hid ((Old.alloc _ _).trans o8); have P8 := Lib.hid (P7.out.trans O78.out); obtain ⟨tb, tc, rfl, q1, q2, q3, q4⟩ := taken_cell own8 (by simp); have CT := Lib.hid (q4 1 (by simp)); have LT := Lib.hid (And.intro q1 q2); clear o8 own8 q4 q1 q2 q3)
            clear d0 d1z
            have bo := Lib.hid (DB.new w8 p9 kv)
            have P9 := Lib.hid (P8.out.trans (Old.alloc w8 (.cells #[.string (tx p9), .int .i64 kv] 34)))
            have bd9 := Lib.hid (BD.out.old P9.out)
            have bm9 := Lib.hid ((bm.out.old O78.out).old (Old.alloc w8 (.cells #[.string (tx p9), .int .i64 kv] 34)))
            have CT9 := ((Old.alloc w8 (.cells #[.string (tx p9), .int .i64 kv] 34)).cell LT.out.1).trans CT.out
            obtain ⟨o, ho⟩ : ∃ o, o = w8.heap.size := ⟨_, rfl⟩
            rw [← ho] at bo ⊢
            have i1 : (2 : Int) ≤ tc := by have := LT.out.2; simp at this; omega
            clear ho
            generalize w8.alloc (.cells #[.string (tx p9), .int .i64 kv] 34) = w9 at bo P9 bd9 bm9 CT9 ⊢
            have c0 := bo.out.c0
            have c1 := bo.out.c1
            have a0 := bm9.out.c0
            have a1 := bm9.out.c1
            have d0 := bd9.out.c0
            have d1z := bd9.out.c1
            have s1 : (tx p9).size = l.length := by rw [tx_size]; exact G.out.2
            have s2 : (tx l).size = l.length := tx_size l
            have s3 : (tx r9).size = v.length := by rw [tx_size]; exact G.out.1
            have e9 : (tx [[], r9][1]) = tx r9 := rfl
            go_wp2_with fail
            go_ret
            exact ⟨rfl, O0.out.trans P9.out⟩
      · cases e2 : drB s z with
        | false =>
          have H2 := Lib.hid e2
          clear e2 h2
          go_wp2_with (first
            | (go_at_call 15; refine (fits_any s z _ (by omega)).mono ?_; rw [d1.out]; rintro e w1 ⟨rfl, o1⟩; have O1 := Lib.hid (O0.out.trans o1); have D1 := DC.out _ o1; obtain ⟨y0, y1⟩ := D1; clear o1)
            | (go_at_call 16; refine (right_any s z _ (by omega)).mono ?_; rw [H2.out]; rintro e w2 ⟨rfl, o2⟩; have O2 := Lib.hid (O1.out.trans o2); clear o2))
          go_ret
          exact ⟨rfl, O2.out⟩
        | true =>
          cases e3 : asc10 q with
          | true => exact absurd ⟨e2, e3⟩ h2
          | false =>
            have H2 := Lib.hid e2
            have H3 := Lib.hid e3
            clear e2 e3 h2
            go_wp2_with (first
              | (go_at_call 15; refine (fits_any s z _ (by omega)).mono ?_; rw [d1.out]; rintro e w1 ⟨rfl, o1⟩; have O1 := Lib.hid (O0.out.trans o1); have D1 := DC.out _ o1; obtain ⟨y0, y1⟩ := D1; clear o1)
              | (go_at_call 16; refine (right_any s z _ (by omega)).mono ?_; rw [H2.out]; rintro e w2 ⟨rfl, o2⟩; have O2 := Lib.hid (O1.out.trans o2); clear o2)
              | (go_at_call 10; refine (ascii_any _ _ (by omega)).mono ?_; rw [H3.out]; rintro e w3 ⟨rfl, rfl⟩))
            go_ret
            exact ⟨rfl, O2.out⟩
    · have d3 : decide ((q.size : Int) > 2147483647) = true := by simp; omega
      go_wp2_with (go_at_call 15; refine (fits_any s z _ (by omega)).mono ?_; rw [d1.out]; rintro e w1 ⟨rfl, o1⟩; have O1 := Lib.hid (O0.out.trans o1); clear o1)
      go_ret
      exact ⟨rfl, O1.out⟩
  · have d1 : Hid (decide (s.size ≤ 2147483647) = false) := by unfold Hid; simpa using h1
    go_wp2_with (go_at_call 15; refine (fits_any s z _ (by omega)).mono ?_; rw [d1.out]; rintro e w1 ⟨rfl, o1⟩; have O1 := Lib.hid (O0.out.trans o1); clear o1)
    go_ret
    exact ⟨rfl, O1.out⟩
end Go.Proofs.YtleamondilmojaaDoor
