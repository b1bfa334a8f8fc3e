/- FnStepsOne: moving by a number is moving by one so many times. -/
import Derived.Test.YtleamondilmojaaDoorOne7
import Derived.Test.YtleamondilmojaaDoorAppNew
import Derived.Test.YtleamondilmojaaDoorRows4
namespace Go.Proofs.YtleamondilmojaaDoor
open Go.RowKit
set_option linter.unusedVariables false
set_option linter.unusedSimpArgs false
set_option linter.unnecessarySimpa false
set_option maxRecDepth 100000

theorem info_ed : (Tryd.prog.info? 40).map (fun i => (i.zero, i.size, i.bytes)) = some (some (.agg #[.int .i64 0, .int .i64 0, .string ByteArray.empty, .bool false]), 4, 40) := by kernel_rfl
/-- Steps of one kind, as cells. -/
def oneE (op : Int) : Ed := ⟨op, 0, ⟨#[]⟩, false⟩
def flatE (op : Int) (n : Nat) : List Value := (List.replicate n [Value.int .i64 op, .int .i64 0, .string ⟨#[]⟩, .bool false]).flatten
theorem flatE_len (op : Int) (n : Nat) : (flatE op n).length = n * 4 := by unfold flatE; simp
theorem flatE_succ (op : Int) (n : Nat) : flatE op n ++ [Value.int .i64 op, .int .i64 0, .string ⟨#[]⟩, .bool false] = flatE op (n + 1) := by
  unfold flatE
  rw [List.replicate_succ', List.flatten_append]; simp
theorem flatE_at (op : Int) : ∀ (n j : Nat), j < n → gv (flatE op n) (j * 4) = .int .i64 op ∧ gv (flatE op n) (j * 4 + 1) = .int .i64 0 ∧ gv (flatE op n) (j * 4 + 2) = .string ⟨#[]⟩ ∧ gv (flatE op n) (j * 4 + 3) = .bool false
  | 0, j, h => absurd h (by omega)
  | n + 1, 0, _ => ⟨rfl, rfl, rfl, rfl⟩
  | n + 1, j + 1, h => by
    have ih := flatE_at op n j (by omega)
    have e1 : (j + 1) * 4 = j * 4 + 4 := by omega
    have e2 : flatE op (n + 1) = Value.int .i64 op :: Value.int .i64 0 :: Value.string ⟨#[]⟩ :: Value.bool false :: flatE op n := rfl
    rw [e1, e2]
    exact ih
theorem script_own {w : World} {base : Nat} {v : Value} {n : Nat} (op : Int) (h : w.ownsRow base 40 4 v n (flatE op n)) : Script w v (List.replicate n (oneE op)) := by
  rcases h.2 with ⟨rfl, h0⟩ | ⟨g, cap, cur, rfl, h1, h2, h3, h4, _⟩
  · have : n = 0 := by omega
    subst this
    exact ⟨none, 0, rfl, Nat.zero_le _, by unfold maxLen; omega, fun j hj => absurd hj (by simp)⟩
  · have hadd : ∀ i, (⟨g, 0, none⟩ : Addr).add i = ⟨g, i, none⟩ := fun i => by unfold Addr.add; split <;> simp_all
    have hc : ∀ i, i < n * 4 → w.cell? ⟨g, i, none⟩ = some (gv (flatE op n) i) := fun i hi => by
      have hx := h.cells (g := g) rfl i (gv (flatE op n) i) (by rw [gv_lt (by rw [flatE_len]; exact hi)]; exact List.getElem?_eq_getElem (by rw [flatE_len]; exact hi))
      rwa [hadd] at hx
    refine ⟨some ⟨g, 0, none⟩, cap, by rw [List.length_replicate], by rw [List.length_replicate]; exact h3, h4, fun j hj => ?_⟩
    rw [List.length_replicate] at hj
    have hg : ge (List.replicate n (oneE op)) j = oneE op := by rw [ge_lt (by rw [List.length_replicate]; exact hj), List.getElem_replicate]
    obtain ⟨e0, e1, e2, e3⟩ := flatE_at op n j hj
    refine ⟨g, 0, rfl, ?_, ?_, ?_, ?_⟩ <;> rw [hg, Nat.zero_add]
    · rw [hc _ (by omega), e0]; rfl
    · rw [hc _ (by omega), e1]; rfl
    · rw [hc _ (by omega), e2]; rfl
    · rw [hc _ (by omega), e3]; rfl
theorem sin_own {w : World} {base sz n : Nat} {e : TypeId} {v : Value} {xs : List Value} (h : w.ownsRow base e sz v n xs) : SIn w v := fun b o n' c e => by
  subst e
  rcases h.2 with ⟨e2, _⟩ | ⟨g, cap, cur, e2, _, h2, _⟩
  · cases e2
  · injection e2 with e2; injection e2 with e2; injection e2 with e2
    rw [e2]; exact (Array.getElem?_eq_some_iff.1 h2).1
/-- So many steps to the left, and to the right. -/
theorem chain_left {l : Bs} (ok : okT l) : ∀ (n k : Nat), k ≤ l.length → Chain (List.replicate n (oneE 18)) ⟨l, k, -1⟩ ⟨l, k - min n (lineB l k).length, -1⟩ (List.replicate n [])
  | 0, k, _ => by
    have : k - min 0 (lineB l k).length = k := by omega
    rw [this]; exact .nil _
  | n + 1, k, hk => by
    have hb := lineB_left hk (min 1 (lineB l k).length) (by omega)
    have hle := lineB_le hk
    have ih := chain_left ok n (k - min 1 (lineB l k).length) (by omega)
    rw [hb] at ih
    have e : k - min 1 (lineB l k).length - min n ((lineB l k).length - min 1 (lineB l k).length) = k - min (n + 1) (lineB l k).length := by omega
    rw [e] at ih
    exact .cons (does_glc l k (-1) ok hk 0 ⟨#[]⟩ false) ih
theorem chain_right {l : Bs} (ok : okT l) : ∀ (n k : Nat), k ≤ l.length → Chain (List.replicate n (oneE 17)) ⟨l, k, -1⟩ ⟨l, k + min n (lineA l k).length, -1⟩ (List.replicate n [])
  | 0, k, _ => by
    have : k + min 0 (lineA l k).length = k := by omega
    rw [this]; exact .nil _
  | n + 1, k, hk => by
    have hb := lineA_right (l := l) (k := k) (j := min 1 (lineA l k).length) (by omega)
    have hle := lineA_room l k
    have ih := chain_right ok n (k + min 1 (lineA l k).length) (by omega)
    rw [hb] at ih
    have e : k + min 1 (lineA l k).length + min n ((lineA l k).length - min 1 (lineA l k).length) = k + min (n + 1) (lineA l k).length := by omega
    rw [e] at ih
    exact .cons (does_grc l k (-1) ok hk 0 ⟨#[]⟩ false) ih
theorem u8_smallE {x : Int} (h : (Lit.int .u8 x).wf = true) : 0 ≤ x ∧ x ≤ 255 := by
  have h2 := h
  simp [Lit.wf, IntKind.min, IntKind.max, IntKind.signed, IntKind.bits] at h2
  omega
set_option maxHeartbeats 4000000 in
theorem lawS1_any (s : ByteArray) (z n : Int) (w : World) (hs : s.size ≤ 9223372036854775807) (hz : (Lit.int .i64 z).wf = true) (hn : (Lit.int .u8 n).wf = true) :
    Calls Tryd.prog 8 #[.agg #[.string s, .int .i64 z], .int .u8 n] w fun e w' => e = .returned (.bool true) ∧ Below w.heap.size w w' := by
  have C0 : Hid (∀ w0 w', w0 = w.alloc (.cells #[.string s, .int .i64 z] 34) → Old w0 w' → w'.cell? ⟨w.heap.size, 0, none⟩ = some (.string s) ∧ w'.cell? ⟨w.heap.size, 1, none⟩ = some (.int .i64 z)) := fun w0 w' e o => by
    subst e
    have c0 := (World.cell?_alloc_mark w #[.string s, .int .i64 z] 34 (0, 0) 0).trans rfl
    have c1 := (World.cell?_alloc_mark w #[.string s, .int .i64 z] 34 (0, 0) 1).trans rfl
    have hlt := World.block_lt_of_cell? _ _ c0
    exact ⟨(o.cell hlt).trans c0, (o.cell hlt).trans c1⟩
  have O0 := Lib.hid (Old.alloc w (.cells #[.string s, .int .i64 z] 34))
  have B0 : Hid (∀ l k, s = tx l → z = ((k : Nat) : Int) → DB (w.alloc (.cells #[.string s, .int .i64 z] 34)) w.heap.size l k) := fun l k e1 e2 => by subst e1 e2; exact DB.new w l k
  have hb8 := u8_smallE hn
  clear hz hn
  go_enter Tryd.func8, Tryd.ntmps8
  go_upto_region 1 with fail
  generalize hW : w.alloc (.cells #[.string s, .int .i64 z] 34) = Wd at O0 B0 ⊢
  obtain ⟨d, hd⟩ : ∃ d, d = w.heap.size := ⟨_, rfl⟩
  rw [← hd]
  rw [← hd] at B0
  have DC : Hid (∀ w', Old Wd w' → w'.cell? ⟨d, 0, none⟩ = some (.string s) ∧ w'.cell? ⟨d, 1, none⟩ = some (.int .i64 z)) := fun w' o => by
    rw [hd]; exact C0.out _ w' hW.symm o
  clear hW hd C0
  obtain ⟨x0, x1⟩ := DC.out Wd (Old.refl _)
  obtain ⟨n, rfl⟩ : ∃ m : Nat, n = m := ⟨n.toNat, by omega⟩
  by_cases h1 : s.size ≤ 2147483647
  · have d1 : Hid (decide (s.size ≤ 2147483647) = true) := by unfold Hid; simpa using h1
    cases e2 : drB s z with
    | true =>
      have H2 := Lib.hid e2
      obtain ⟨l, rfl⟩ : ∃ l, s = tx l := ⟨bs s, (tx_bs s).symm⟩
      obtain ⟨k, rfl, hk, ok, hl⟩ := dr_ok e2
      have OK := Lib.hid ok
      have BD := Lib.hid (B0.out l k rfl rfl)
      clear e2 ok B0
      by_cases hn20 : 20 < n
      · go_wp2_with (first
          | (go_at_call 15; refine (fits_any (tx l) k _ (by omega)).mono ?_; rw [d1.out]; rintro e w1 ⟨rfl, o1⟩; have P1 := Lib.hid o1; have D1 := DC.out _ o1; obtain ⟨y0, y1⟩ := D1; clear o1)
          | (go_at_call 16; refine (right_any (tx l) k _ (by omega)).mono ?_; rw [H2.out]; rintro e w2 ⟨rfl, o2⟩; have P2 := Lib.hid (P1.out.trans o2); have D2 := DC.out _ P2.out; obtain ⟨t0, t1⟩ := D2; clear o2))
        go_ret
        exact ⟨rfl, O0.out.trans P2.out⟩
      · go_upto_region 7 with (first
          | (go_at_call 15; refine (fits_any (tx l) k _ (by omega)).mono ?_; rw [d1.out]; rintro e w1 ⟨rfl, o1⟩; have P1 := Lib.hid o1; have D1 := DC.out _ o1; obtain ⟨y0, y1⟩ := D1; clear o1)
          | (go_at_call 16; refine (right_any (tx l) k _ (by omega)).mono ?_; rw [H2.out]; rintro e w2 ⟨rfl, o2⟩; have P2 := Lib.hid (P1.out.trans o2); have D2 := DC.out _ P2.out; obtain ⟨t0, t1⟩ := D2; clear o2))
        have E10 := fun w' => one7_any l k 3 n ⟨#[]⟩ false ⟨l, k - min n (lineB l k).length, -1⟩ [] w' hk OK.out (does_left l k (-1) OK.out hk n ⟨#[]⟩ false (by omega))
        have E20 := fun w' => one7_any l k 4 n ⟨#[]⟩ false ⟨l, k + min n (lineA l k).length, -1⟩ [] w' hk OK.out (does_right l k (-1) OK.out hk n ⟨#[]⟩ false (by omega))
        have E30 := fun w' lv h1 h2 => ef_any l k lv (List.replicate n (oneE 18)) (List.replicate n []) ⟨l, k - min n (lineB l k).length, -1⟩ w' hk OK.out h1 h2 (chain_left OK.out n k hk) (by rw [List.length_replicate]; omega)
        have E40 := fun w' lv h1 h2 => ef_any l k lv (List.replicate n (oneE 17)) (List.replicate n []) ⟨l, k + min n (lineA l k).length, -1⟩ w' hk OK.out h1 h2 (chain_right OK.out n k hk) (by rw [List.length_replicate]; omega)
        generalize k - min n (lineB l k).length = ka at E10 E30
        generalize k + min n (lineA l k).length = kb at E20 E40
        have E1 := Lib.hid E10
        have E2 := Lib.hid E20
        have E3 := Lib.hid E30
        have E4 := Lib.hid E40
        clear E10 E20 E30 E40 y0 y1 t0 t1 x0 x1
        go_loopw [5, 6, 7] (fun lv rv iv wr => ∃ j : Nat, j ≤ n ∧ iv = .int .i64 j ∧ wr.ownsRow w2.heap.size 40 4 lv j (flatE 18 j) ∧ wr.ownsRow w2.heap.size 40 4 rv j (flatE 17 j) ∧ Ap lv rv ∧ Old w2 wr) (fun _ _ iv _ => n - (intOf iv).toNat)
        case atStart => exact ⟨0, Nat.zero_le _, rfl, ⟨rfl, .inl ⟨rfl, rfl⟩⟩, ⟨rfl, .inl ⟨rfl, rfl⟩⟩, Ap.nil _, Old.refl _⟩
        case round =>
          obtain ⟨j, hj, rfl, hol, hor, hap, hold⟩ := hrel
          have OL := Lib.hid hol
          have OR := Lib.hid hor
          have AP := Lib.hid hap
          have OO := Lib.hid hold
          clear hol hor hap hold
          by_cases hjn : j < n
          · go_wp2_with (first
              | (at_builtin; refine wpList_append_new (o := ⟨some 39, _, _, _, _, _⟩) rfl _ _ 41 40 _ (.agg #[.int .i64 0, .int .i64 0, .string ByteArray.empty, .bool false]) 4 40 rfl Tryd.underlying41 info_ed rfl (by decide) w2.heap.size _ j _ rfl OL.out 1 #[.int .i64 18, .int .i64 0, .string ⟨#[]⟩, .bool false] rfl (by decide) rfl (by intro y hy; simp at hy; rcases hy with rfl | rfl | rfl | rfl <;> rfl) (by omega) (by omega) OO.out.size ?_; intro v5 w5 hown1 hg1 hv1; obtain ⟨tb5, tc5, rfl, hat5⟩ := hv1; have OL5 := Lib.hid hown1; have OR5 := Lib.hid (own_apart OR.out hg1 AP.out); have AP5 := Lib.hid (AP.out.grow (n' := j + 1) (c' := tc5) OR.out hat5); have O5 := Lib.hid (OO.out.own (Nat.le_refl _) OL.out hg1); clear hown1 hg1 hat5)
              | (at_builtin; refine wpList_append_new (o := ⟨some 43, _, _, _, _, _⟩) rfl _ _ 41 40 _ (.agg #[.int .i64 0, .int .i64 0, .string ByteArray.empty, .bool false]) 4 40 rfl Tryd.underlying41 info_ed rfl (by decide) w2.heap.size _ j _ rfl OR5.out 1 #[.int .i64 17, .int .i64 0, .string ⟨#[]⟩, .bool false] rfl (by decide) rfl (by intro y hy; simp at hy; rcases hy with rfl | rfl | rfl | rfl <;> rfl) (by omega) (by omega) O5.out.size ?_; intro v6 w6 hown2 hg2 hv2; obtain ⟨tb6, tc6, rfl, hat6⟩ := hv2; have OR6 := Lib.hid hown2; have OL6 := Lib.hid (own_apart OL5.out hg2 AP5.out.symm); have AP6 := Lib.hid (AP5.out.symm.grow (n' := j + 1) (c' := tc6) OL5.out hat6); have O6 := Lib.hid (O5.out.own (Nat.le_refl _) OR5.out hg2); clear hown2 hg2 hat6))
            go_roundw
            case rel =>
              refine ⟨j + 1, by omega, by go_num, ?_, ?_, AP6.out.symm, O6.out⟩
              · have h := OL6.out
                rw [show (#[Value.int .i64 18, .int .i64 0, .string ⟨#[]⟩, .bool false] : Array Value).toList = [Value.int .i64 18, .int .i64 0, .string ⟨#[]⟩, .bool false] from rfl, flatE_succ] at h
                exact h
              · have h := OR6.out
                rw [show (#[Value.int .i64 17, .int .i64 0, .string ⟨#[]⟩, .bool false] : Array Value).toList = [Value.int .i64 17, .int .i64 0, .string ⟨#[]⟩, .bool false] from rfl, flatE_succ] at h
                exact h
            case measure => simp [intOf]; omega
          · obtain rfl : j = n := by omega
            have bd0 := Lib.hid (BD.out.old (P2.out.trans OO.out))
            have d0 := bd0.out.c0
            have d1y := bd0.out.c1
            go_upto_region 11 with (go_at_call 20; refine (E1.out _).mono ?_; rintro e q1 ⟨rfl, o1⟩; have Q1 := Lib.hid (OO.out.trans o1); have V1 := Lib.hid o1; clear o1)
            clear d0 d1y
            have b1 := Lib.hid (DB.new q1 l ka)
            have R1 := Lib.hid (Q1.out.trans (Old.alloc q1 (.cells #[.string (tx l), .int .i64 ka] 34)))
            obtain ⟨m1, hm1⟩ : ∃ x, x = q1.heap.size := ⟨_, rfl⟩
            rw [← hm1] at b1 ⊢
            clear hm1
            have V1b := Lib.hid (V1.out.trans (Old.alloc q1 (.cells #[.string (tx l), .int .i64 ka] 34)))
            generalize q1.alloc (.cells #[.string (tx l), .int .i64 ka] 34) = r1 at b1 R1 V1b ⊢
            have bd1 := Lib.hid (BD.out.old (P2.out.trans R1.out))
            have d0 := bd1.out.c0
            have d1y := bd1.out.c1
            go_upto_region 12 with (go_at_call 20; refine (E2.out _).mono ?_; rintro e q2 ⟨rfl, o2⟩; have Q2 := Lib.hid (R1.out.trans o2); have x1 := Lib.hid (b1.out.old o2); have V2 := Lib.hid (V1b.out.trans o2); clear o2)
            clear d0 d1y
            have b2 := Lib.hid (DB.new q2 l kb)
            have R2 := Lib.hid (Q2.out.trans (Old.alloc q2 (.cells #[.string (tx l), .int .i64 kb] 34)))
            obtain ⟨m2, hm2⟩ : ∃ x, x = q2.heap.size := ⟨_, rfl⟩
            rw [← hm2] at b2 ⊢
            clear hm2
            have x1b := Lib.hid (x1.out.old (Old.alloc q2 (.cells #[.string (tx l), .int .i64 kb] 34)))
            have OW2 := Lib.hid (V2.out.trans (Old.alloc q2 (.cells #[.string (tx l), .int .i64 kb] 34)))
            generalize q2.alloc (.cells #[.string (tx l), .int .i64 kb] 34) = r2 at b2 R2 x1b OW2 ⊢
            have bd2 := Lib.hid (BD.out.old (P2.out.trans R2.out))
            have d0 := bd2.out.c0
            have d1y := bd2.out.c1
            have SL : Hid (Old wr r2) := OW2.out
            go_upto_region 13 with (go_at_call 17; refine (E3.out _ _ (script_own 18 (own_old OL.out SL.out)) (sin_own (own_old OL.out SL.out))).mono ?_; rintro e q3 ⟨tv3, rfl, o3, own3⟩; have Q3 := Lib.hid (R2.out.trans o3); have y1 := Lib.hid (x1b.out.old o3); have y2 := Lib.hid (b2.out.old o3); have S3 := Lib.hid (SL.out.trans o3); clear o3 own3)
            clear d0 d1y
            have b3 := Lib.hid (DB.new q3 l ka)
            have R3 := Lib.hid (Q3.out.trans (Old.alloc q3 (.cells #[.string (tx l), .int .i64 ka] 34)))
            obtain ⟨m3, hm3⟩ : ∃ x, x = q3.heap.size := ⟨_, rfl⟩
            rw [← hm3] at b3 ⊢
            clear hm3
            have y1b := Lib.hid (y1.out.old (Old.alloc q3 (.cells #[.string (tx l), .int .i64 ka] 34)))
            have y2b := Lib.hid (y2.out.old (Old.alloc q3 (.cells #[.string (tx l), .int .i64 ka] 34)))
            have S4 := Lib.hid (S3.out.trans (Old.alloc q3 (.cells #[.string (tx l), .int .i64 ka] 34)))
            generalize q3.alloc (.cells #[.string (tx l), .int .i64 ka] 34) = r3 at b3 R3 y1b y2b S4 ⊢
            have bd3 := Lib.hid (BD.out.old (P2.out.trans R3.out))
            have d0 := bd3.out.c0
            have d1y := bd3.out.c1
            go_upto_region 14 with (go_at_call 17; refine (E4.out _ _ (script_own 17 (own_old OR.out S4.out)) (sin_own (own_old OR.out S4.out))).mono ?_; rintro e q4 ⟨tv4, rfl, o4, own4⟩; have Q4 := Lib.hid (R3.out.trans o4); have z1 := Lib.hid (y1b.out.old o4); have z2 := Lib.hid (y2b.out.old o4); have z3 := Lib.hid (b3.out.old o4); clear o4 own4)
            clear d0 d1y
            have b4 := Lib.hid (DB.new q4 l kb)
            have R4 := Lib.hid (Q4.out.trans (Old.alloc q4 (.cells #[.string (tx l), .int .i64 kb] 34)))
            obtain ⟨m4, hm4⟩ : ∃ x, x = q4.heap.size := ⟨_, rfl⟩
            rw [← hm4] at b4 ⊢
            clear hm4
            have w1b := Lib.hid (z1.out.old (Old.alloc q4 (.cells #[.string (tx l), .int .i64 kb] 34)))
            have w2b := Lib.hid (z2.out.old (Old.alloc q4 (.cells #[.string (tx l), .int .i64 kb] 34)))
            have w3b := Lib.hid (z3.out.old (Old.alloc q4 (.cells #[.string (tx l), .int .i64 kb] 34)))
            generalize q4.alloc (.cells #[.string (tx l), .int .i64 kb] 34) = r4 at b4 R4 w1b w2b w3b ⊢
            have bd4 := Lib.hid (BD.out.old (P2.out.trans R4.out))
            have d0 := bd4.out.c0
            have d1y := bd4.out.c1
            have g10 := w1b.out.c0
            have g11 := w1b.out.c1
            have g20 := w2b.out.c0
            have g21 := w2b.out.c1
            have g30 := w3b.out.c0
            have g31 := w3b.out.c1
            have g40 := b4.out.c0
            have g41 := b4.out.c1
            go_wp2_with fail
            go_ret
            exact ⟨rfl, O0.out.trans (P2.out.trans R4.out)⟩
    | false =>
      have H2 := Lib.hid e2
      clear e2
      go_wp2_with (first
        | (go_at_call 15; refine (fits_any s z _ (by omega)).mono ?_; rw [d1.out]; rintro e w1 ⟨rfl, o1⟩; have O1 := Lib.hid (O0.out.trans o1); have D1 := DC.out _ o1; obtain ⟨y0, y1⟩ := D1; clear o1)
        | (go_at_call 16; refine (right_any s z _ (by omega)).mono ?_; rw [H2.out]; rintro e w2 ⟨rfl, o2⟩; have O2 := Lib.hid (O1.out.trans o2); clear o2))
      go_ret
      exact ⟨rfl, O2.out⟩
  · have d1 : Hid (decide (s.size ≤ 2147483647) = false) := by unfold Hid; simpa using h1
    go_wp2_with (go_at_call 15; refine (fits_any s z _ (by omega)).mono ?_; rw [d1.out]; rintro e w1 ⟨rfl, o1⟩; have O1 := Lib.hid (O0.out.trans o1); clear o1)
    go_ret
    exact ⟨rfl, O1.out⟩
end Go.Proofs.YtleamondilmojaaDoor
