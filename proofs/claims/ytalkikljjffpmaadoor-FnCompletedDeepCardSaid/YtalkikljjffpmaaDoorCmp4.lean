/- impl.Completed. -/
import Derived.Test.YtalkikljjffpmaaDoorCmp3
import Derived.Test.YtalkikljjffpmaaDoorSeg4
namespace Go.Proofs.YtalkikljjffpmaaDoor
open Go.RowKit
set_option linter.unusedVariables false
set_option linter.unusedSimpArgs false
set_option linter.unnecessarySimpa false
set_option maxRecDepth 100000

theorem RC.ne_box {w : World} {e T : TypeId} {u v : Value} {l : List Int} {b p : Nat} (h : RC w e u l b) (hb : Bx w p v T) (hT : e ≠ T) : b ≠ p := by
  rintro rfl
  obtain ⟨o, c, cur, -, h1, -⟩ := h
  unfold Bx at hb
  rw [hb] at h1
  injection h1 with h1
  injection h1 with _ h1
  exact hT h1.symm
theorem SegJ.far_box {w : World} {B p : Nat} {ov x v : Value} {T : TypeId} {us : List Value} {Q : List (List Int × Nat)} (h : SegJ w B ov us Q) (hb : Bx w p v T) (hT : (21 : TypeId) ≠ T) (hp : p < B) : SegJ (w.setCell ⟨p, 0, Option.none⟩ x) B ov us Q := by
  obtain ⟨h1, h2, h3⟩ := h
  refine ⟨own_keep h1 fun g hg _ => Below.heap_setCell w ⟨p, 0, Option.none⟩ x g ?_, ⟨h2.1, fun j hj => (h2.2 j hj).far ((h2.2 j hj).ne_box hb hT)⟩, h3⟩
  have := (own_inside h1 g hg).1; simp; omega
theorem boxes3 (w : World) (A B C : Obj) : ∃ W4, W4 = ((w.alloc A).alloc B).alloc C ∧ Old w W4 ∧ W4.heap.size = w.heap.size + 3 ∧ W4.heap[w.heap.size]? = some A ∧ W4.heap[w.heap.size + 1]? = some B ∧ W4.heap[w.heap.size + 1 + 1]? = some C := by
  obtain ⟨w1, h1⟩ : ∃ x, x = w.alloc A := ⟨_, rfl⟩
  obtain ⟨w2, h2⟩ : ∃ x, x = w1.alloc B := ⟨_, rfl⟩
  obtain ⟨w3, h3⟩ : ∃ x, x = w2.alloc C := ⟨_, rfl⟩
  have o1 : Old w w1 := by rw [h1]; exact Old.alloc _ _
  have o2 : Old w1 w2 := by rw [h2]; exact Old.alloc _ _
  have o3 : Old w2 w3 := by rw [h3]; exact Old.alloc _ _
  have s1 : w1.heap.size = w.heap.size + 1 := by rw [h1]; simp
  have s2 : w2.heap.size = w.heap.size + 1 + 1 := by rw [h2]; simp [s1]
  have s3 : w3.heap.size = w.heap.size + 3 := by rw [h3]; simp [s2]
  have a1 : w1.heap[w.heap.size]? = some A := by rw [h1]; exact heap_alloc_new _ _
  have a2 : w2.heap[w.heap.size + 1]? = some B := by rw [← s1, h2]; exact heap_alloc_new _ _
  have a3 : w3.heap[w.heap.size + 1 + 1]? = some C := by rw [← s2, h3]; exact heap_alloc_new _ _
  exact ⟨w3, by rw [h3, h2, h1], (o1.trans o2).trans o3, s3, ((o2.trans o3).heap (by omega)).trans a1, (o3.heap (by omega)).trans a2, a3⟩
def CompEnd (T : List (List Int)) (pg : List Int) (w : World) (e : Ending) (w' : World) : Prop :=
  ∃ lv base off, e = .returned (.tuple #[lv, .int .i64 ((off : Nat) : Int), .bool true]) ∧ Old w w' ∧ w'.ownsRow base 9 1 lv T.length (T.map (fun t => Value.string (runesBytes t))) ∧ off = if T = [] then 0 else pg.length
set_option maxHeartbeats 1000000 in
theorem cmp_any (v : Value) (F : List (ByteArray × List (ByteArray × List ByteArray))) (i k : Nat) (s : ByteArray) (pg : List Int) (w : World) (hw : Words w v (encF Prod.fst kw2 F)) (hF1 : (encF Prod.fst kw2 F).length ≤ 1000) (hok : ∀ x ∈ F, okW x.1 ∧ ∀ y ∈ x.2, okW y.1 ∧ ∀ s ∈ y.2, okW s)
    (hF : nameL (F.map Prod.fst)) (hi : i < F.length) (hT : nameL (F[i].2.map Prod.fst)) (hki : k < F[i].2.length) (hL : nameL F[i].2[k].2) (hpg : smL pg) (hpl : pg.length ≤ 12) (hs : s.size ≤ 1000) (hsl : (runes s).length = s.size) (hln : runes s = nums F[i].1 ++ 32 :: (nums F[i].2[k].1 ++ 32 :: pg)) :
    Calls Tryd.prog 16 #[v, .string s, .int .i64 s.size] w (CompEnd (outS (F[i].2[k].2.map nums) pg) pg w) := by
  have IT := Lib.hid (fun W (o : Old w W) => items3 F v W (hw.old o) hF1 hok)
  have DO : Hid (∀ kv W0, RowP Prod.fst P2 F W0 kv → ∀ p lb lc W, Old W0 W → W.cell? ⟨p, 3, none⟩ = some kv → RunesAt W (.slice (some ⟨lb, 0, none⟩) (runes s).length lc) (runes s) → Calls Tryd.prog 35 #[.pointer (some ⟨p, 0, none⟩), .slice (some ⟨lb, 0, none⟩) (runes s).length lc, .int .i64 ((runes s).length : Nat)] W (DPost (LeafR (F[i].2[k].2.map nums) pg W))) :=
    fun kv W0 hk p lb lc W o hp hr => dom_any p lb 0 lc _ _ W _ (by
      have h := deep_any p (.slice (some ⟨lb, 0, none⟩) (runes s).length lc) (.slice (some ⟨lb, 0, none⟩) (runes s).length lc) kv F i k pg W hp (hk.old P2_old o) hF hi hT hki hL hpg hpl (by rw [← hln]; exact hr)
      rw [← hln] at h; exact h)
  obtain ⟨AA, hAA⟩ : ∃ A, A = F[i].2[k].2.map nums := ⟨_, rfl⟩
  have hA8 : AA.length ≤ 8 := by rw [hAA, List.length_map]; exact hL.1
  rw [← hAA] at DO ⊢
  obtain ⟨ad, c, rfl, -⟩ := hw
  have SL := Lib.hid hsl
  have hmf : ∀ (fn : Fn) (first cap : Array Value) (w : World), (Instr.makeFunc fn first cap).run Tryd.prog w = .ok (.func fn first cap) w := fun _ _ _ _ => rfl
  clear hF1 hok hF hT hL hpg hln hAA hsl
  go_enter Tryd.func16, Tryd.ntmps16
  go_upto_region 1 with fail
  obtain ⟨W3, hW, o3, z3, a1, a2, a3⟩ := boxes3 w (.cells #[.string s] 9) (.cells #[.int .i64 s.size] 3) (.cells #[.int .i64 0] 3)
  rw [← hW]
  clear hW
  obtain ⟨p7, hp7⟩ : ∃ p, p = w.heap.size + 1 + 1 := ⟨_, rfl⟩
  obtain ⟨p5, hp5⟩ : ∃ p, p = w.heap.size + 1 := ⟨_, rfl⟩
  obtain ⟨p4, hp4⟩ : ∃ p, p = w.heap.size := ⟨_, rfl⟩
  rw [← hp7] at a3 ⊢
  rw [← hp5] at a2 ⊢
  rw [← hp4] at a1 ⊢
  have HP : Hid (p4 = w.heap.size ∧ p5 = w.heap.size + 1 ∧ p7 = w.heap.size + 2 ∧ W3.heap.size = w.heap.size + 3) := ⟨hp4, hp5, by omega, z3⟩
  have O3 := Lib.hid o3
  have A1 : Hid (Bx W3 p4 (.string s) 9) := a1
  have A2 : Hid (Bx W3 p5 (.int .i64 s.size) 3) := a2
  have A3 : Hid (Bx W3 p7 (.int .i64 0) 3) := a3
  clear a1 a2 a3 hp4 hp5 hp7 z3 o3
  go_upto_region 2 with (go_at_call 32; refine (IT.out W3 O3.out).mono ?_; rintro e w4 ⟨kv, S4, rfl, o4, -, ⟨kad, kn, kc, rfl⟩, st4⟩; have O4 := Lib.hid o4; have K4 := Lib.hid (st4 w4 (fun _ _ => rfl)); clear o4 st4)
  obtain ⟨p9, hp9⟩ : ∃ p, p = w4.heap.size := ⟨_, rfl⟩
  have B9 := Bx.new w4 (.slice kad kn kc) 68
  have o9 : Old w4 (w4.alloc (.cells #[.slice kad kn kc] 68)) := Old.alloc _ _
  have z9 : (w4.alloc (.cells #[.slice kad kn kc] 68)).heap.size = w4.heap.size + 1 := by simp
  obtain ⟨wr, hwr⟩ : ∃ x, x = w4.alloc (.cells #[.slice kad kn kc] 68) := ⟨_, rfl⟩
  rw [← hp9] at B9 ⊢
  rw [← hwr] at B9 o9 z9 ⊢
  have X9 := Lib.hid B9
  have OO := Lib.hid ((O3.out.trans O4.out).trans o9)
  have X4 := Lib.hid (A1.out.old (O4.out.trans o9))
  have X5 := Lib.hid (A2.out.old (O4.out.trans o9))
  have X7 := Lib.hid (A3.out.old (O4.out.trans o9))
  have KR := Lib.hid (K4.out.old P2_old o9)
  have HQ : Hid (p9 = w4.heap.size ∧ wr.heap.size = w4.heap.size + 1 ∧ W3.heap.size ≤ w4.heap.size) := ⟨hp9, z9, O4.out.size⟩
  clear hp9 B9 o9 z9 hwr
  have B12 := Bx.new wr (.slice none 0 0) 59
  have O12 : Old wr (wr.alloc (.cells #[.slice none 0 0] 59)) := Old.alloc _ _
  obtain ⟨p12, hp12⟩ : ∃ p, p = wr.heap.size := ⟨_, rfl⟩
  obtain ⟨W6, hW6⟩ : ∃ W, W = wr.alloc (.cells #[.slice none 0 0] 59) := ⟨_, rfl⟩
  have z6 : W6.heap.size = wr.heap.size + 1 := by rw [hW6]; simp
  rw [← hW6] at B12 O12
  rw [← hp12] at B12
  have hp := HP.out
  have hq := HQ.out
  have Y9 := X9.out.old O12
  have Y4 := X4.out.old O12
  have Y5 := X5.out.old O12
  have Y7 := X7.out.old O12
  have OO6 := OO.out.trans O12
  have oB : Old W6 (W6.alloc (.cells #[.bool false] 4)) := Old.alloc _ _
  have nB : Bx (W6.alloc (.cells #[.bool false] 4)) W6.heap.size (.bool false) 4 := Bx.new _ _ _
  have hc := cmpc_any p9 p4 p5 p12 p7 kn kc kad (.slice none 0 0) 0 AA pg s (W6.alloc (.cells #[.bool false] 4)) (Y9.old oB).cell (Y4.old oB).cell (by rw [SL.out]; exact (Y5.old oB).cell) (B12.old oB).cell (Y7.old oB).cell (B12.old oB).free (Y7.old oB).free hs
    (DO.out _ _ (KR.out.old P2_old (O12.trans oB))) (by omega) (by omega) (by omega) (by omega) (by omega) (by omega) (by omega)
  have hcc := caught_ok 33 #[.pointer (some ⟨p9, 0, none⟩), .pointer (some ⟨p4, 0, none⟩), .pointer (some ⟨p5, 0, none⟩), .pointer (some ⟨p12, 0, none⟩), .pointer (some ⟨p7, 0, none⟩)] W6 (fun w' => ∃ w1 rv off us Q B, Old (W6.alloc (.cells #[.bool false] 4)) w1 ∧ W6.heap.size + 1 ≤ B ∧ SegJ w1 B rv us Q ∧ Q.map Prod.fst = outS AA pg ∧ off = (if outS AA pg = [] then 0 else pg.length) ∧
      w' = (w1.setCell ⟨p12, 0, none⟩ rv).setCell ⟨p7, 0, none⟩ (.int .i64 ((off : Nat) : Int))) (fun _ => rfl) (hc.mono (by
    rintro e w2 ⟨rfl, w1, rv, off, us1, Q1, B, o1, g1, s1, q1, f1, rfl⟩
    refine ⟨rfl, ?_, w1, rv, off, us1, Q1, B, o1, by simpa using g1, s1, q1, f1, rfl⟩
    exact ((nB.old o1).far (by omega)).far (by omega)))
  have HCC := Lib.hid hcc
  have X7' := Lib.hid Y7
  have B12' := Lib.hid B12
  have OO6' := Lib.hid OO6
  have HZ := Lib.hid (And.intro z6 hp12)
  have HW6 := Lib.hid hW6
  clear hc hcc oB nB Y9 Y4 Y5 Y7 B12 OO6 O12 z6 hp12 hp hq hW6
  go_upto_region 6 with fail
  rw [← HW6.out, ← HZ.out.2]
  (with_reducible refine HCC.out.mono ?_)
  rintro e w5 ⟨rfl, w6, ⟨w1, rv, off, us1, Q1, B, o1, g1, s1, q1, f1, rfl⟩, rfl⟩
  have FACTS : ∃ W7, W7 = ((w1.setCell ⟨p12, 0, none⟩ rv).setCell ⟨p7, 0, none⟩ (.int .i64 ((off : Nat) : Int))).setCell ⟨W6.heap.size, 0, none⟩ (.bool true) ∧ Old w W7 ∧ SegJ W7 B rv us1 Q1 ∧ Bx W7 p12 rv 59 ∧ Bx W7 p7 (.int .i64 ((off : Nat) : Int)) 3 := by
    have hp := HP.out
    have hq := HQ.out
    obtain ⟨z6, hp12⟩ := HZ.out
    have oB : Old W6 (W6.alloc (.cells #[.bool false] 4)) := Old.alloc _ _
    have nB : Bx (W6.alloc (.cells #[.bool false] 4)) W6.heap.size (.bool false) 4 := Bx.new _ _ _
    have t12 := (B12'.out.old oB).old o1
    have t7 := (X7'.out.old oB).old o1
    have tB := nB.old o1
    refine ⟨_, rfl, (((OO6'.out.trans (oB.trans o1)).stored (by simp only; omega) _).stored (by simp only; omega) _).stored (by simp only; omega) _,
      ((s1.far_box t12 (by decide) (by omega)).far_box (t7.far (by omega)) (by decide) (by omega)).far_box ((tB.far (by omega)).far (by omega)) (by decide) (by omega), ?_, ?_⟩
    · exact (t12.set.far (by omega)).far (by omega)
    · exact ((t7.far (by omega)).set).far (by omega)
  obtain ⟨W7, e7, o7, s7, b12, b7⟩ := FACTS
  rw [← e7]
  have O7 := Lib.hid o7
  have S7 := Lib.hid s7
  have Q1' := Lib.hid q1
  have F7 := Lib.hid f1
  have C12 := b12.cell
  obtain ⟨ad7, cc7, rfl⟩ := s7.slice
  have B7' := Lib.hid b7
  have HP7 : Hid (w.heap.size ≤ p7) := by unfold Hid; have := HP.out; omega
  have hq1 : Q1.length ≤ 8 := by
    have := congrArg List.length q1
    have h2 : (outS AA pg).length ≤ AA.length := by unfold outS; rw [List.length_map]; exact List.length_filter_le _ _
    simp at this h2; omega
  clear e7 o7 s7 q1 f1 o1 s1 g1 b12 b7 HCC X7' B12' OO6' HZ HW6
  obtain ⟨T, hT⟩ : ∃ T, T = outS AA pg := ⟨_, rfl⟩
  have HT' := Lib.hid hT
  have hTQ : T.length = Q1.length := by rw [hT, ← Q1'.out]; simp
  have HTQ := Lib.hid hTQ
  rw [← hT] at Q1'
  clear hT hTQ
  go_wp2_with fail
  go_loopw [6, 27] (fun lv iv wr => ∃ k : Nat, k ≤ Q1.length ∧ iv = .int .i64 k ∧ wr.ownsRow W7.heap.size 9 1 lv k ((T.take k).map (fun t => Value.string (runesBytes t))) ∧ Old W7 wr) (fun _ iv _ => Q1.length - (intOf iv).toNat)
  case atStart => exact ⟨0, Nat.zero_le _, rfl, ⟨rfl, .inl ⟨rfl, rfl⟩⟩, Old.refl _⟩
  case round =>
    obtain ⟨k, hk, rfl, hown, hold⟩ := hrel
    have OW := Lib.hid hown
    have OO := Lib.hid hold
    have S8 := Lib.hid (S7.out.old hold)
    clear hown hold
    by_cases hkn : k < Q1.length
    · have hkt : k < T.length := by rw [HTQ.out]; exact hkn
      obtain ⟨g, cg, hgv⟩ := own_some S8.out.1 (by omega)
      injection hgv with f1 f2 f3
      subst f1 f3
      have c1 := own_cell S8.out.1 k hkn
      have rc := (S8.out.2.1.2 k hkn).runes
      have ht : Q1[k].1 = T[k] := by
        have h1 : (Q1.map Prod.fst)[k]? = some Q1[k].1 := by simp [hkn]
        rw [Q1'.out, List.getElem?_eq_getElem hkt] at h1
        simpa using h1.symm
      rw [ht] at rc
      have TT : Hid ((T.take k).map (fun t => Value.string (runesBytes t)) ++ [Value.string (runesBytes T[k])] = (T.take (k + 1)).map (fun t => Value.string (runesBytes t))) := take_snoc_map _ T k hkt
      generalize gv us1 k = u at c1 rc
      generalize T[k] = t at rc TT
      have RC1 := Lib.hid rc
      have HQ1 := Lib.hid hq1
      obtain ⟨bu, ou, cu, rfl, -⟩ := rc
      clear f2 ht
      go_wp2_with (first
        | (refine wpList_convert rfl 58 9 _ _ rfl rfl (runes_back wr 58 9 21 _ _ (by kernel_rfl) (by kernel_rfl) (by kernel_rfl) RC1.out) ?_)
        | (at_builtin; refine wpList_append_new rfl _ _ 22 9 _ (.string ByteArray.empty) 1 16 rfl Tryd.underlying22 info_str rfl (by decide) W7.heap.size u6 k _ rfl OW.out 1 #[.string (runesBytes t)] rfl (by decide) rfl (by intro z hz; simp at hz; subst hz; rfl) (by have := HQ1.out; omega) (by have := HQ1.out; omega) OO.out.size ?_
           intro v3 w3 own3 gr3 at3
           obtain ⟨b3, cc3, rfl, at3⟩ := at3
           have OW3 := Lib.hid own3
           have O3 := Lib.hid (OO.out.own (Nat.le_refl _) OW.out gr3)
           clear own3 gr3 at3))
      go_roundw
      case rel => exact ⟨k + 1, by omega, by go_num, by rw [← TT.out]; exact OW3.out, O3.out⟩
      case measure => simp [intOf]; omega
    · obtain rfl : k = Q1.length := by omega
      rw [← HTQ.out, List.take_length] at OW
      have b7 := B7'.out.old OO.out
      have c7 := b7.cell
      have f7 := b7.free
      have OF := Lib.hid (O7.out.trans OO.out)
      clear b7
      go_wp2_with fail
      go_region
      have FIN : ∃ W6, W6 = (wr.setCell ⟨p7, 0, none⟩ (.int .i64 ((off : Nat) : Int))).drew ∧ Old w W6 ∧ W6.ownsRow W7.heap.size 9 1 u6 Q1.length (T.map (fun t => Value.string (runesBytes t))) ∧ W6.cell? ⟨p7, 0, none⟩ = some (.int .i64 ((off : Nat) : Int)) := by
        have hb := B7'.out.lt
        refine ⟨_, rfl, (OF.out.stored (p := ⟨p7, 0, none⟩) HP7.out _).then_drew, own_old (own_keep (by rw [← HTQ.out]; exact OW.out) fun g hg _ => Below.heap_setCell wr ⟨p7, 0, none⟩ _ g ?_) (Old.drew _), ?_⟩
        · have := (own_inside OW.out g hg).1; simp; omega
        · exact (((B7'.out.old OO.out).set).old (Old.drew _)).cell
      obtain ⟨W8, e8, o8, r8, y7⟩ := FIN
      rw [← e8]
      have O8 := Lib.hid o8
      have R8 := Lib.hid r8
      clear e8 o8 r8 c7 f7
      go_wp2_with fail
      refine bodyPost_ret (v := .tuple #[u6, .int .i64 ((off : Nat) : Int), .bool true]) (by simp [results, Tryd.results16, go_sem, y7]) rfl ⟨u6, W7.heap.size, off, rfl, O8.out, ?_, F7.out⟩
      have h8 := R8.out
      rw [← HTQ.out, HT'.out] at h8
      exact h8
end Go.Proofs.YtalkikljjffpmaaDoor
