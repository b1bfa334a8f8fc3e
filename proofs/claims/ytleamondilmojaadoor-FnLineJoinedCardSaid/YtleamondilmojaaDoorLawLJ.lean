/- FnLineJoined: a line that is broken in two, and joined again, is the line. -/
import Derived.Test.YtleamondilmojaaDoorOne7
namespace Go.Proofs.YtleamondilmojaaDoor
open Go.RowKit
set_option linter.unusedVariables false
set_option linter.unusedSimpArgs false
set_option linter.unnecessarySimpa false
set_option maxRecDepth 100000

theorem trimM_none {m : Bs} (h : ∀ c r, m = c :: r → c ≠ 32) : trimM [32] m = m := by
  unfold trimM
  have : flen (setP [32] true) m = 0 := by
    cases m with
    | nil => rfl
    | cons c r =>
      have hc := h c r rfl
      unfold flen
      rw [List.findIdx_cons]
      have : setP [32] true c = true := by
        unfold setP hasb
        have h2 : List.contains [(32 : UInt8)] c = false := by simp; exact hc
        rw [h2]; rfl
      rw [this]; rfl
  rw [this]; rfl
theorem okT_nil0 : okT [] := ⟨(fun c hc => by cases hc), Nat.zero_le _⟩
/-- The line feed's own line, joined again. -/
theorem joined_back {l : Bs} {k : Nat} (hk : k ≤ l.length) (h : ∀ c r, l.drop k = c :: r → c ≠ 32) : joinT (insM l k [10]) k [] = l ∧ joinK (insM l k [10]) k = k := by
  have hd := insM_drop hk [10]
  have hne : ¬ row (insM l k [10]) k + 1 = (splitL (insM l k [10])).length := by
    rw [splitL_len]
    have e : (insM l k [10]).countP nl = ((insM l k [10]).take k).countP nl + ((insM l k [10]).drop k).countP nl := by rw [← List.countP_append, List.take_append_drop]
    rw [e, hd]
    unfold row
    have : 0 < ([10] ++ l.drop k : Bs).countP nl := by rw [List.singleton_append, List.countP_cons]; simp [nl]
    omega
  have ha : (lineA (insM l k [10]) k).length = 0 := by
    rw [lineA_len, hd]; rfl
  unfold joinT joinK
  rw [if_neg hne, if_neg hne]
  refine ⟨?_, by omega⟩
  unfold joinM
  rw [ha, Nat.add_zero]
  have hdel : delM (insM l k [10]) k 1 = l := insM_del hk [10]
  rw [hdel, trimM_none h, List.append_nil, List.take_append_drop]

set_option maxHeartbeats 4000000 in
theorem lawLJ_any (s : ByteArray) (z : Int) (w : World) (hs : s.size ≤ 9223372036854775807) (hz : (Lit.int .i64 z).wf = true) :
    Calls Tryd.prog 6 #[.agg #[.string s, .int .i64 z]] w fun e w' => e = .returned (.bool true) ∧ Below w.heap.size w w' := by
  have C0 : Hid (∀ w0 w', w0 = w.alloc (.cells #[.string s, .int .i64 z] 34) → Old w0 w' → w'.cell? ⟨w.heap.size, 0, none⟩ = some (.string s) ∧ w'.cell? ⟨w.heap.size, 1, none⟩ = some (.int .i64 z)) := fun w0 w' e o => by
    subst e
    have c0 := (World.cell?_alloc_mark w #[.string s, .int .i64 z] 34 (0, 0) 0).trans rfl
    have c1 := (World.cell?_alloc_mark w #[.string s, .int .i64 z] 34 (0, 0) 1).trans rfl
    have hlt := World.block_lt_of_cell? _ _ c0
    exact ⟨(o.cell hlt).trans c0, (o.cell hlt).trans c1⟩
  have O0 := Lib.hid (Old.alloc w (.cells #[.string s, .int .i64 z] 34))
  have B0 : Hid (∀ l k, s = tx l → z = ((k : Nat) : Int) → DB (w.alloc (.cells #[.string s, .int .i64 z] 34)) w.heap.size l k) := fun l k e1 e2 => by subst e1 e2; exact DB.new w l k
  clear hz
  go_enter Tryd.func6, Tryd.ntmps6
  go_upto_region 1 with fail
  generalize hW : w.alloc (.cells #[.string s, .int .i64 z] 34) = Wd at O0 B0 ⊢
  obtain ⟨d, hd⟩ : ∃ d, d = w.heap.size := ⟨_, rfl⟩
  rw [← hd]
  rw [← hd] at B0
  have DC : Hid (∀ w', Old Wd w' → w'.cell? ⟨d, 0, none⟩ = some (.string s) ∧ w'.cell? ⟨d, 1, none⟩ = some (.int .i64 z)) := fun w' o => by
    rw [hd]; exact C0.out _ w' hW.symm o
  clear hW hd C0
  obtain ⟨x0, x1⟩ := DC.out Wd (Old.refl _)
  by_cases h1 : s.size ≤ 2147483647
  · have d1 : Hid (decide (s.size ≤ 2147483647) = true) := by unfold Hid; simpa using h1
    cases e2 : drB s z with
    | true =>
      have H2 := Lib.hid e2
      obtain ⟨l, rfl⟩ : ∃ l, s = tx l := ⟨bs s, (tx_bs s).symm⟩
      obtain ⟨k, rfl, hk, ok, hl⟩ := dr_ok e2
      have OK := Lib.hid ok
      have BD := Lib.hid (B0.out l k rfl rfl)
      have hsz : (tx l).size = l.length := tx_size l
      clear e2 ok B0
      by_cases hsp : ∃ hkl : k < l.length, l[k] = 32
      · obtain ⟨hkl, hc⟩ := hsp
        have hg : (tx l)[k]'(by omega) = 32 := (get_tx hkl (by omega)).trans hc
        clear hc
        go_wp2_with (first
          | (go_at_call 15; refine (fits_any (tx l) k _ (by omega)).mono ?_; rw [d1.out]; rintro e w1 ⟨rfl, o1⟩; have P1 := Lib.hid o1; have D1 := DC.out _ o1; obtain ⟨y0, y1⟩ := D1; clear o1)
          | (go_at_call 16; refine (right_any (tx l) k _ (by omega)).mono ?_; rw [H2.out]; rintro e w2 ⟨rfl, o2⟩; have P2 := Lib.hid (P1.out.trans o2); have D2 := DC.out _ P2.out; obtain ⟨t0, t1⟩ := D2; clear o2))
        go_ret
        exact ⟨rfl, O0.out.trans P2.out⟩
      · have hnb : ∀ c r, l.drop k = c :: r → c ≠ 32 := fun c r e hc => by
          have hkl : k < l.length := by
            rcases Nat.lt_or_ge k l.length with h | h
            · exact h
            · rw [List.drop_eq_nil_of_le h] at e; cases e
          rw [List.drop_eq_getElem_cons hkl] at e
          injection e with e1 _
          exact hsp ⟨hkl, e1.trans hc⟩
        have okm := insM_ok OK.out okT_nl k (by simp; omega)
        have hml := insM_len hk [10]
        have E1 := Lib.hid (fun w' => one7_any l k 9 0 ⟨#[]⟩ false ⟨insM l k [10], k + 1, -1⟩ [] w' hk OK.out (does_nline l k (-1) OK.out hk 0 ⟨#[]⟩))
        have DJ : Does ⟨10, 0, ⟨#[]⟩, false⟩ ⟨insM l k [10], k, -1⟩ ⟨l, k, -1⟩ [] := by
          have h := does_join (insM l k [10]) k (-1) okm (by rw [hml]; omega) 0 [] false okT_nil0
          rw [(joined_back hk hnb).1, (joined_back hk hnb).2] at h
          exact h
        obtain ⟨m9, hm9⟩ : ∃ m9, m9 = insM l k [10] := ⟨_, rfl⟩
        rw [← hm9] at E1 DJ okm hml
        have E2 := Lib.hid (fun w' => one7_any m9 k 10 0 ⟨#[]⟩ false ⟨l, k, -1⟩ [] w' (by simp at hml; omega) okm DJ)
        have hms : (tx m9).size = l.length + 1 := by rw [tx_size]; simpa using hml
        have f1 : IntKind.i64.wrap ((k : Int) + 1) = ((k + 1 : Nat) : Int) := by rw [IntWalk.i64_in _ (by omega)]; omega
        have f2 : IntKind.i64.wrap (((k + 1 : Nat) : Int) - 1) = (k : Int) := by rw [IntWalk.i64_in _ (by omega)]; omega
        have FF := Lib.hid (And.intro f1 f2)
        have HMS := Lib.hid hms
        clear hm9 DJ okm hml f1 f2 hms
        by_cases hkl : k < l.length
        · have hc9 : ¬ l[k] = 32 := fun h => hsp ⟨hkl, h⟩
          have hg : (((tx l)[k]'(by omega)).toNat : Int) ≠ 32 := by
            rw [get_tx hkl (by omega)]
            intro h; apply hc9; apply UInt8.toNat_inj.1
            have : (32 : UInt8).toNat = 32 := rfl
            omega
          have hg2 : ((((tx l)[k]'(by omega)).toNat : Int) == 32) = false := by rw [beq_eq_false_iff_ne]; exact hg
          clear hc9 hg hsp
          go_upto_region 6 with (first
            | (go_at_call 15; refine (fits_any (tx l) k _ (by omega)).mono ?_; rw [d1.out]; rintro e w1 ⟨rfl, o1⟩; have P1 := Lib.hid o1; have D1 := DC.out _ o1; obtain ⟨y0, y1⟩ := D1; clear o1)
            | (go_at_call 16; refine (right_any (tx l) k _ (by omega)).mono ?_; rw [H2.out]; rintro e w2 ⟨rfl, o2⟩; have P2 := Lib.hid (P1.out.trans o2); have D2 := DC.out _ P2.out; obtain ⟨t0, t1⟩ := D2; clear o2)
            | (go_at_call 20; refine (E1.out _).mono ?_; rintro e w3 ⟨rfl, o3⟩; have P3 := Lib.hid (P2.out.trans o3); clear o3))
          have bm := Lib.hid (DB.new w3 m9 (k + 1))
          have e9 : ((k + 1 : Nat) : Int) = (k : Int) + 1 := by omega
          have P5 := Lib.hid (P3.out.trans (Old.alloc w3 (.cells #[.string (tx m9), .int .i64 ((k + 1 : Nat) : Int)] 34)))
          rw [e9] at P5
          have bm2 : Hid ((w3.alloc (.cells #[.string (tx m9), .int .i64 ((k : Int) + 1)] 34)).heap[w3.heap.size]? = some (.cells #[.string (tx m9), .int .i64 ((k : Int) + 1)] 34)) := heap_alloc_new w3 _
          have bd := Lib.hid ((BD.out.old P5.out))
          obtain ⟨m, hm⟩ : ∃ m, m = w3.heap.size := ⟨_, rfl⟩
          have MW : Hid (Wd.heap.size ≤ m) := by rw [hm]; exact P3.out.size
          rw [← hm] at bm2 ⊢
          clear hm bm e9
          generalize w3.alloc (.cells #[.string (tx m9), .int .i64 ((k : Int) + 1)] 34) = w5 at bm2 bd P5 ⊢
          have c0 : w5.cell? ⟨m, 0, none⟩ = some (.string (tx m9)) := (bcell bm2.out 0).trans rfl
          have c1 : w5.cell? ⟨m, 1, none⟩ = some (.int .i64 ((k : Int) + 1)) := (bcell bm2.out 1).trans rfl
          have z1 := bfree bm2.out 1
          have d0 := bd.out.c0
          have d1x := bd.out.c1
          have hms := HMS.out
          go_upto_region 9 with fail
          have bm6 : Hid (DB (w5.setCell ⟨m, 1, none⟩ (.int .i64 k)) m m9 k) := by unfold Hid DB; rw [bset bm2.out]; simp
          have P6 : Hid (Old Wd (w5.setCell ⟨m, 1, none⟩ (.int .i64 k))) := P5.out.stored (by have := MW.out; simp; omega) _
          have bd6 := Lib.hid (BD.out.old P6.out)
          clear c0 c1 z1 d0 d1x hms
          generalize w5.setCell ⟨m, 1, none⟩ (.int .i64 k) = w6 at bm6 bd6 P6 ⊢
          have c0 := bm6.out.c0
          have c1 := bm6.out.c1
          go_upto_region 10 with (go_at_call 20; refine (E2.out _).mono ?_; rintro e w7 ⟨rfl, o7⟩; have P7 := Lib.hid (P6.out.trans o7); clear o7)
          clear c0 c1
          have bo := Lib.hid (DB.new w7 l k)
          have P8 := Lib.hid (P7.out.trans (Old.alloc w7 (.cells #[.string (tx l), .int .i64 k] 34)))
          have bd8 := Lib.hid (BD.out.old P8.out)
          obtain ⟨o, ho⟩ : ∃ o, o = w7.heap.size := ⟨_, rfl⟩
          rw [← ho] at bo ⊢
          clear ho
          generalize w7.alloc (.cells #[.string (tx l), .int .i64 k] 34) = w8 at bo P8 bd8 ⊢
          have c0 := bo.out.c0
          have c1 := bo.out.c1
          have d0 := bd8.out.c0
          have d1y := bd8.out.c1
          go_wp2_with fail
          go_ret
          exact ⟨rfl, O0.out.trans P8.out⟩
        · clear hsp
          go_upto_region 6 with (first
            | (go_at_call 15; refine (fits_any (tx l) k _ (by omega)).mono ?_; rw [d1.out]; rintro e w1 ⟨rfl, o1⟩; have P1 := Lib.hid o1; have D1 := DC.out _ o1; obtain ⟨y0, y1⟩ := D1; clear o1)
            | (go_at_call 16; refine (right_any (tx l) k _ (by omega)).mono ?_; rw [H2.out]; rintro e w2 ⟨rfl, o2⟩; have P2 := Lib.hid (P1.out.trans o2); have D2 := DC.out _ P2.out; obtain ⟨t0, t1⟩ := D2; clear o2)
            | (go_at_call 20; refine (E1.out _).mono ?_; rintro e w3 ⟨rfl, o3⟩; have P3 := Lib.hid (P2.out.trans o3); clear o3))
          have bm := Lib.hid (DB.new w3 m9 (k + 1))
          have e9 : ((k + 1 : Nat) : Int) = (k : Int) + 1 := by omega
          have P5 := Lib.hid (P3.out.trans (Old.alloc w3 (.cells #[.string (tx m9), .int .i64 ((k + 1 : Nat) : Int)] 34)))
          rw [e9] at P5
          have bm2 : Hid ((w3.alloc (.cells #[.string (tx m9), .int .i64 ((k : Int) + 1)] 34)).heap[w3.heap.size]? = some (.cells #[.string (tx m9), .int .i64 ((k : Int) + 1)] 34)) := heap_alloc_new w3 _
          have bd := Lib.hid ((BD.out.old P5.out))
          obtain ⟨m, hm⟩ : ∃ m, m = w3.heap.size := ⟨_, rfl⟩
          have MW : Hid (Wd.heap.size ≤ m) := by rw [hm]; exact P3.out.size
          rw [← hm] at bm2 ⊢
          clear hm bm e9
          generalize w3.alloc (.cells #[.string (tx m9), .int .i64 ((k : Int) + 1)] 34) = w5 at bm2 bd P5 ⊢
          have c0 : w5.cell? ⟨m, 0, none⟩ = some (.string (tx m9)) := (bcell bm2.out 0).trans rfl
          have c1 : w5.cell? ⟨m, 1, none⟩ = some (.int .i64 ((k : Int) + 1)) := (bcell bm2.out 1).trans rfl
          have z1 := bfree bm2.out 1
          have d0 := bd.out.c0
          have d1x := bd.out.c1
          have hms := HMS.out
          go_upto_region 9 with fail
          have bm6 : Hid (DB (w5.setCell ⟨m, 1, none⟩ (.int .i64 k)) m m9 k) := by unfold Hid DB; rw [bset bm2.out]; simp
          have P6 : Hid (Old Wd (w5.setCell ⟨m, 1, none⟩ (.int .i64 k))) := P5.out.stored (by have := MW.out; simp; omega) _
          have bd6 := Lib.hid (BD.out.old P6.out)
          clear c0 c1 z1 d0 d1x hms
          generalize w5.setCell ⟨m, 1, none⟩ (.int .i64 k) = w6 at bm6 bd6 P6 ⊢
          have c0 := bm6.out.c0
          have c1 := bm6.out.c1
          go_upto_region 10 with (go_at_call 20; refine (E2.out _).mono ?_; rintro e w7 ⟨rfl, o7⟩; have P7 := Lib.hid (P6.out.trans o7); clear o7)
          clear c0 c1
          have bo := Lib.hid (DB.new w7 l k)
          have P8 := Lib.hid (P7.out.trans (Old.alloc w7 (.cells #[.string (tx l), .int .i64 k] 34)))
          have bd8 := Lib.hid (BD.out.old P8.out)
          obtain ⟨o, ho⟩ : ∃ o, o = w7.heap.size := ⟨_, rfl⟩
          rw [← ho] at bo ⊢
          clear ho
          generalize w7.alloc (.cells #[.string (tx l), .int .i64 k] 34) = w8 at bo P8 bd8 ⊢
          have c0 := bo.out.c0
          have c1 := bo.out.c1
          have d0 := bd8.out.c0
          have d1y := bd8.out.c1
          go_wp2_with fail
          go_ret
          exact ⟨rfl, O0.out.trans P8.out⟩
    | false =>
      have H2 := Lib.hid e2
      clear e2
      go_wp2_with (first
        | (go_at_call 15; refine (fits_any s z _ (by omega)).mono ?_; rw [d1.out]; rintro e w1 ⟨rfl, o1⟩; have O1 := Lib.hid (O0.out.trans o1); have D1 := DC.out _ o1; obtain ⟨y0, y1⟩ := D1; clear o1)
        | (go_at_call 16; refine (right_any s z _ (by omega)).mono ?_; rw [H2.out]; rintro e w2 ⟨rfl, o2⟩; have O2 := Lib.hid (O1.out.trans o2); clear o2))
      go_ret
      exact ⟨rfl, O2.out⟩
  · have d1 : Hid (decide (s.size ≤ 2147483647) = false) := by unfold Hid; simpa using h1
    go_wp2_with (go_at_call 15; refine (fits_any s z _ (by omega)).mono ?_; rw [d1.out]; rintro e w1 ⟨rfl, o1⟩; have O1 := Lib.hid (O0.out.trans o1); clear o1)
    go_ret
    exact ⟨rfl, O1.out⟩
end Go.Proofs.YtleamondilmojaaDoor
