/- Contracts: spec.Parts of ASCII, spec.SameTexts9. -/
import Derived.Test.YtalkikljjffpmaaDoorSplit
import Derived.Lib.OthersKept
import Derived.RegionTactic
import Derived.BigRegion
namespace Go.Proofs.YtalkikljjffpmaaDoor
open Go.RowKit Go.Lib
set_option linter.unusedVariables false
set_option linter.unusedSimpArgs false
set_option maxRecDepth 100000

/-- The parts behind k signs: those that have ended, and the last one. -/
def partsTo (s : ByteArray) (k : Nat) : List ByteArray := (cutsTo (nums s) k).1.map (partB s) ++ [partB s ((cutsTo (nums s) k).2, k)]
theorem length_partsTo (s : ByteArray) (k : Nat) : 1 ≤ (partsTo s k).length ∧ (partsTo s k).length ≤ k + 1 := by
  have := cutsTo_count (nums s) k
  unfold partsTo; simp; omega
theorem partsTo_all (s : ByteArray) (n : Nat) : partsTo s n = (cuts (nums s) n).map (partB s) := by unfold partsTo cuts; simp
theorem partB_empty (s : ByteArray) (k : Nat) : partB s (k, k) = ByteArray.empty := by unfold partB; simp
theorem partsTo_zero (s : ByteArray) : partsTo s 0 = [ByteArray.empty] := by unfold partsTo; simp [cutsTo, partB_empty]
theorem partsTo_blank {s : ByteArray} {k : Nat} (h : gi (nums s) k = 32) : partsTo s (k + 1) = partsTo s k ++ [ByteArray.empty] := by
  unfold partsTo; rw [cutsTo_blank h]; simp [partB_empty]
theorem partB_snoc {s : ByteArray} {f k : Nat} (h : f ≤ k) (hk : k < s.size) : partB s (f, k + 1) = partB s (f, k) ++ s.extract k (k + 1) := by
  unfold partB; rw [ByteArray.extract_append_extract]; congr 1 <;> omega
/-- The last of some texts with another one behind it. -/
theorem partsTo_sign {s : ByteArray} {k : Nat} (h : gi (nums s) k ≠ 32) (hk : k < s.size) :
    partsTo s (k + 1) = (partsTo s k).dropLast ++ [gs (partsTo s k) ((partsTo s k).length - 1) ++ s.extract k (k + 1)] := by
  have e : gs (partsTo s k) ((partsTo s k).length - 1) = partB s ((cutsTo (nums s) k).2, k) := by
    unfold partsTo gs; simp [List.getD]
  rw [e, ← partB_snoc (cutsTo_le _ _) hk]
  unfold partsTo; rw [cutsTo_sign h]; simp

theorem own_one (w : World) (v : Value) (T : TypeId) : (w.alloc (.cells #[v] T)).ownsRow w.heap.size T 1 (.slice (some ⟨w.heap.size, 0, none⟩) 1 1) 1 [v] :=
  ⟨by simp, .inr ⟨w.heap.size, 1, #[v], rfl, Nat.le_refl _, heap_alloc_new w _, Nat.le_refl _, by unfold maxLen; omega, by simp, by simp⟩⟩

/-- An owned row whose last element is stored anew. -/
theorem own_set9 {w : World} {base : Nat} {e : TypeId} {n : Nat} {xs : List Value} {b c : Nat} (h : w.ownsRow base e 1 (.slice (some ⟨b, 0, none⟩) n c) n xs) (k : Nat) (hk : k < n) (v : Value) :
    (w.setCell ⟨b, k, none⟩ v).ownsRow base e 1 (.slice (some ⟨b, 0, none⟩) n c) n (xs.set k v) := by
  refine ⟨by simp [h.1], ?_⟩
  rcases h.2 with ⟨hv, _⟩ | ⟨g, cap, cur, hv, h1, h2, h3, h4, h5, h6⟩
  · cases hv
  · injection hv with hv1 hv2 hv3
    injection hv1 with hv1
    injection hv1 with hv1
    subst hv1; subst hv3
    refine .inr ⟨b, c, cur.setIfInBounds k v, rfl, h1, ?_, h3, h4, by simp [h5], ?_⟩
    · unfold World.setCell
      simp [Array.getElem?_modify, h2]
    · rw [Array.toList_setIfInBounds, List.take_set, h6]
theorem own_free {w : World} {base : Nat} {e : TypeId} {n : Nat} {xs : List Value} {b c : Nat} (h : w.ownsRow base e 1 (.slice (some ⟨b, 0, none⟩) n c) n xs) (k : Nat) : w.frozen? ⟨b, k, none⟩ = false := by
  rcases h.2 with ⟨hv, _⟩ | ⟨g, cap, cur, hv, h1, h2, _⟩
  · cases hv
  · injection hv with hv1 hv2 hv3
    injection hv1 with hv1
    injection hv1 with hv1
    subst hv1
    unfold World.frozen?
    rw [h2]; simp

theorem one_rune {P : Program} (src dst e : TypeId) (x : Int) (hs : P.underlying src = some (.slice e)) (he : P.underlying e = some (.int .i32)) (hd : P.underlying dst = some .string) (B : Nat) (W : World)
    (hc : W.cell? ⟨B, 0, none⟩ = some (.int .i32 x)) : (convert src dst (.slice (some ⟨B, 0, none⟩) 1 1)).run P W = .ok (.string (runesBytes [x])) W := by
  have := run_convert_runes (P := P) W src dst e ⟨B, 0, none⟩ 1 1 [x] (by simp) hs he hd (fun j hj => by
    have : j = 0 := by simpa using hj
    subst this
    have hadd : (⟨B, 0, none⟩ : Addr).add 0 = ⟨B, 0, none⟩ := by unfold Addr.add; split <;> simp_all
    rw [hadd]; simpa using hc)
  simpa using this

set_option maxHeartbeats 1000000 in
theorem parts_any (s : ByteArray) (w : World) (ha : asc s) (hs : s.size ≤ 300) :
    Calls Tryd.prog 10 #[.string s] w fun e w' => ∃ v, e = .returned v ∧ Old w w' ∧ StrsAt w' v ((cuts (nums s) s.size).map (partB s)) := by
  have HA := Lib.hid ha
  go_enter Tryd.func10, Tryd.ntmps10
  go_wp2_with fail
  have hit0 : ((w.alloc (.cells #[.string ⟨#[]⟩] 9)).iter s 0).heap[w.heap.size + 1]? = some (.stringIter s 0) := by
    have := World.iter_heap (w.alloc (.cells #[.string ⟨#[]⟩] 9)) s 0
    simpa using this
  go_loopw [3, 5] (fun v _ wr => ∃ (k q b' c' : Nat) (L : List ByteArray), k ≤ s.size ∧ L = partsTo s k ∧ L.length = q + 1 ∧ v = .slice (some ⟨b', 0, none⟩) (q + 1) c' ∧ wr.ownsRow w.heap.size 9 1 (.slice (some ⟨b', 0, none⟩) (q + 1) c') (q + 1) (L.map Value.string) ∧
      wr.heap[w.heap.size + 1]? = some (.stringIter s k) ∧ Old w wr) (fun _ _ wr => s.size - wr.iterPos (w.heap.size + 1))
  case atStart => exact ⟨0, 0, w.heap.size, 1, _, Nat.zero_le _, (partsTo_zero s).symm, rfl, rfl, (own_one w _ _).kept (World.grownBy_alloc _ _ none) (by simp [Value.ownBlock]), hit0, ((Old.alloc _ _).then_alloc _)⟩
  case round =>
    obtain ⟨k, q, b', c', L, hk, hL, hq, rfl, hown, hit, hold⟩ := hrel
    have hq300 : q ≤ 300 := by have := length_partsTo s k; rw [← hL, hq] at this; omega
    have HL := Lib.hid hL
    have HQ := Lib.hid hq
    have hne : b' ≠ w.heap.size + 1 := by
      intro e
      rcases hown.2 with ⟨hv, _⟩ | ⟨g, cap, cur, hv, h1, h2, _⟩
      · cases hv
      · injection hv with hv1; injection hv1 with hv1; injection hv1 with hv1
        rw [← hv1, e, hit] at h2; cases h2
    clear hL hq hit0
    by_cases hlt : k < s.size
    · have hac := HA.out k hlt
      have hn := run_next_ascii_at (P := Tryd.prog) wr (w.heap.size + 1) s k 0 hit hlt hac
      obtain ⟨w2, hw2⟩ : ∃ w2, w2 = wr.iterAt (w.heap.size + 1) s (k + 1) := ⟨_, rfl⟩
      have hit2 : w2.heap[w.heap.size + 1]? = some (.stringIter s (k + 1)) := by rw [hw2]; exact iterAt_heap _ _ _ _ _ hit
      have hold2 : Old w w2 := by rw [hw2]; exact below_iterAt hold (by omega) s (k + 1)
      have hown2 : w2.ownsRow w.heap.size 9 1 (.slice (some ⟨b', 0, none⟩) (q + 1) c') (q + 1) (L.map Value.string) := by
        refine hown.kept (w' := w2) (row := some (w.heap.size + 1)) ⟨by rw [hw2]; rfl, by rw [hw2]; rfl, by rw [hw2]; rfl, by rw [hw2, iterAt_size]; exact Nat.le_refl _, fun j _ hj => by rw [hw2]; exact iterAt_other _ _ _ _ _ (fun e => hj (by rw [e]))⟩ (Or.inr (by simp [Value.ownBlock]; exact hne))
      have hip : wr.iterPos (w.heap.size + 1) = k := by unfold World.iterPos; rw [hit]
      rw [← hw2] at hn
      have HI := Lib.hid (And.intro hit2 hold2)
      have HP := Lib.hid hip
      have HW := Lib.hid hown2
      have hx0 := gi_nums hlt
      obtain ⟨x, hx⟩ : ∃ x : Nat, x = s[k].toNat := ⟨_, rfl⟩
      rw [← hx] at hn hx0
      have HX := Lib.hid hx0
      have hxa : x < 128 := by omega
      clear hit hown hold hit2 hold2 hown2 hip hw2 hx hx0 hac
      by_cases h32 : x = 32
      · have H32 := Lib.hid h32
        have hd : ((x : Int) == 32) = true := by simp [h32]
        clear h32
        go_wp2_with (at_builtin; refine wpList_append1 rfl _ _ 22 9 9 (.string ByteArray.empty) _ 16 rfl Tryd.underlying22 info_str rfl w.heap.size (.slice (some ⟨b', 0, none⟩) (q + 1) c') (q + 1) _ rfl HW.out rfl rfl (by omega) (by omega) HI.out.2.size ?_; intro v' w3 hown1 hg1 hv1; obtain ⟨b3, c3, rfl⟩ := hv1; have HW1 := Lib.hid hown1; have HG1 := Lib.hid hg1; clear hown1 hg1)
        have hB : w.heap.size + 1 < w2.heap.size := (Array.getElem?_eq_some_iff.1 HI.out.1).1
        have hit3 : w3.heap[w.heap.size + 1]? = some (.stringIter s (k + 1)) := (HG1.out.block _ hB (by simp [Value.ownBlock]; exact fun h => hne h.symm)).trans HI.out.1
        have hip3 : w3.iterPos (w.heap.size + 1) = k + 1 := by unfold World.iterPos; rw [hit3]
        have HP3 := Lib.hid hip3
        have HI3 := Lib.hid hit3
        clear hit3 hip3
        go_roundw
        case rel =>
          refine ⟨k + 1, q + 1, b3, c3, L ++ [ByteArray.empty], by omega, ?_, by simp [HQ.out], rfl, ?_, HI3.out, HI.out.2.own (Nat.le_refl _) HW.out HG1.out⟩
          · rw [HL.out, partsTo_blank (by rw [HX.out, H32.out]; rfl)]
          · rw [List.map_append]; exact HW1.out
        case measure => rw [HP3.out, HP.out]; omega
      · have hd : ((x : Int) == 32) = false := by simp; omega
        have H32 := Lib.hid h32
        clear h32
        have h1 := own_cell HW.out q (by omega)
        have hf := own_free HW.out q
        rw [gv_lt (by rw [List.length_map, HQ.out]; omega), List.getElem_map, ← gs_lt (by rw [HQ.out]; omega)] at h1
        obtain ⟨cur, hcur⟩ : ∃ cur, cur = gs L q := ⟨_, rfl⟩
        rw [← hcur] at h1
        obtain ⟨ch, hch⟩ : ∃ ch, ch = runesBytes [(x : Int)] := ⟨_, rfl⟩
        have hcv : ∀ W : World, W.cell? ⟨w2.heap.size, 0, none⟩ = some (.int .i32 x) → (convert 58 9 (.slice (some ⟨w2.heap.size, 0, none⟩) 1 1)).run Tryd.prog W = .ok (.string ch) W := fun W h => by
          rw [hch]; exact one_rune 58 9 21 x Tryd.underlying58 Tryd.underlying21 Tryd.underlying9 _ W h
        have hch2 : ch = s.extract k (k + 1) := by
          have e : part (nums s) (k, k + 1) = [(x : Int)] := by
            apply List.ext_getElem
            · rw [length_part (by simp [length_nums]; omega) (by simp)]; simp
            · intro j h1 h2
              rw [← gi_lt h1, gi_part (by rw [length_part (by simp [length_nums]; omega) (by simp)] at h1; simpa using h1)]
              have : j = 0 := by simpa using h2
              subst this
              simp [HX.out]
          have := runesBytes_nums (asc_partB HA.out (k, k + 1))
          rw [nums_partB, e] at this
          rw [hch, this]; rfl
        have hchs : ch.size = 1 := by rw [hch2, ByteArray.size_extract]; omega
        have hcs : cur.size ≤ 300 := by
          rw [hcur, HL.out]
          have hl := length_partsTo s k
          rw [← HL.out, HQ.out] at hl
          have e : q = (cutsTo (nums s) k).1.length := by have := HQ.out; rw [HL.out] at this; unfold partsTo at this; simp at this; omega
          rw [e]
          unfold partsTo gs
          simp [List.getD]
          unfold partB
          rw [ByteArray.size_extract]; omega
        have HCH := Lib.hid hch2
        have HCU := Lib.hid hcur
        have hsz1 : cur.size + ch.size ≤ 301 := by omega
        have hltB : b' < w2.heap.size := (own_lt HW.out).2.1
        clear hch hch2 hcur hchs
        have hitn : Hid ((((w2.setCell ⟨b', q, none⟩ (.string (cur ++ ch))).alloc (.cells #[.int .i32 (x : Int)] 21)).drew).heap[w.heap.size + 1]? = some (.stringIter s (k + 1))) := by
          have hB : w.heap.size + 1 < w2.heap.size := (Array.getElem?_eq_some_iff.1 HI.out.1).1
          refine (Below.heap_alloc (w2.setCell ⟨b', q, none⟩ (.string (cur ++ ch))) _ _ (by simp [World.setCell]; exact hB)).trans ?_
          exact (Below.heap_setCell w2 ⟨b', q, none⟩ _ _ (fun e => hne e.symm)).trans HI.out.1
        go_wp2_with fail
        go_region
        go_wp2_with fail
        go_roundw
        case rel =>
          have hl2 : (L.map Value.string).set q (.string (cur ++ ch)) = (L.dropLast ++ [cur ++ ch]).map Value.string := by
            rw [← List.map_set]
            congr 1
            apply List.ext_getElem
            · simp [HQ.out]
            · intro j g1 g2
              simp [HQ.out] at g1
              by_cases e : j = q
              · subst e; simp [List.getElem_append, HQ.out]
              · have : j < q := by omega
                simp [List.getElem_append, HQ.out, this, List.getElem_set, Ne.symm e]
          refine ⟨k + 1, q, b', c', L.dropLast ++ [cur ++ ch], by omega, ?_, by simp [HQ.out], rfl, ?_, hitn.out, ?_⟩
          · rw [HL.out, partsTo_sign (by rw [HX.out]; exact fun e => H32.out (by omega)) hlt, HCU.out, HCH.out, ← HL.out, HQ.out]; rfl
          · have := own_set9 HW.out q (by omega) (.string (cur ++ ch))
            rw [hl2] at this
            exact (this.alloc _).drew
          · exact ((HI.out.2.stored (p := ⟨b', q, none⟩) (own_lt HW.out).1 _).then_alloc _).then_drew
        case measure =>
          have hip3 : (((w2.setCell ⟨b', q, none⟩ (.string (cur ++ ch))).alloc (.cells #[.int .i32 (x : Int)] 21)).drew).iterPos (w.heap.size + 1) = k + 1 := by unfold World.iterPos; rw [hitn.out]
          rw [hip3, HP.out]; omega
    · have hn := run_next_end_at (P := Tryd.prog) wr (w.heap.size + 1) s k 0 hit hlt
      have hks : k = s.size := by omega
      have HW := Lib.hid hown
      have HO := Lib.hid hold
      clear hown hold hit
      go_wp2_with fail
      go_ret
      refine ⟨_, rfl, HO.out, ?_⟩
      have h := HW.out
      rw [HL.out, hks, partsTo_all] at h
      exact StrsAt.of_own h rfl

def sameTo (la lb : List ByteArray) (k : Nat) : Prop := ∀ j, j < k → gs la j = gs lb j
theorem gs_ext {a b : List ByteArray} (h : a.length = b.length) (e : sameTo a b a.length) : a = b := by
  apply List.ext_getElem h
  intro i h1 h2
  rw [← gs_lt h1, ← gs_lt h2]; exact e i h1
theorem bytes_ne {a b : ByteArray} (h : a ≠ b) : (a.toList == b.toList) = false := by
  rw [beq_eq_false_iff_ne]
  intro e
  apply h
  rw [ByteArray.toList_eq, ByteArray.toList_eq] at e
  exact ByteArray.ext (Array.toList_inj.1 e)

set_option maxHeartbeats 1000000 in
theorem sameTexts9_any (va vb : Value) (la lb : List ByteArray) (w : World) (ha : StrsAt w va la) (hb : StrsAt w vb lb) :
    Calls Tryd.prog 12 #[va, vb] w fun e w' => e = .returned (.bool (decide (la = lb))) ∧ Old w w' := by
  obtain ⟨ba, oa, ca, rfl, hca, hma, hba, hcella⟩ := ha
  obtain ⟨bb, ob, cb, rfl, hcb, hmb, hbb, hcellb⟩ := hb
  unfold maxLen at hma hmb
  by_cases hl : la.length = lb.length
  · have H := Lib.hid hl; clear hl
    have hl1 : la.length ≤ lb.length := by have := H.out; omega
    have hl2 : lb.length ≤ la.length := by have := H.out; omega
    have hd : ((la.length : Int) != (lb.length : Int)) = false := by simp [H.out]
    go_enter Tryd.func12, Tryd.ntmps12
    go_wp2_with fail
    go_loopw [5, 13] (fun _ i wr => ∃ k : Nat, k ≤ la.length ∧ i = .int .i64 k ∧ sameTo la lb k ∧ Old w wr) (fun _ i _ => la.length - (intOf i).toNat)
    case atStart => exact ⟨0, Nat.zero_le _, rfl, fun _ h => absurd h (by omega), Old.refl _⟩
    case round =>
      obtain ⟨k, hk, rfl, he, hbel⟩ := hrel
      have HE := Lib.hid he
      have HB := Lib.hid hbel
      clear he hd
      by_cases hlt : k < la.length
      · have h1 := (hbel.cell (o := oa + k) hba).trans (hcella k hlt)
        have h2 := (hbel.cell (o := ob + k) hbb).trans (hcellb k (by omega))
        clear hbel hcella hcellb
        by_cases hx : gs la k = gs lb k
        · rw [← hx] at h2
          have HX := Lib.hid hx
          clear hx
          go_wp2_with fail
          go_quiet (fail)
          go_wp2_with fail
          go_roundw
          case rel => exact ⟨k + 1, by omega, by go_num, fun j hj => by
            by_cases e : j = k
            · rw [e]; exact HX.out
            · exact HE.out j (by omega), HB.out.then_drewN _⟩
          case measure => simp [intOf]; omega
        · have hd := bytes_ne hx
          have HX := Lib.hid hx
          clear hx
          go_wp2_with fail
          go_quiet (fail)
          go_wp2_with fail
          go_ret
          exact ⟨ret_bool (decide_eq_false (fun e => HX.out (by rw [e]))), HB.out.then_drewN _⟩
      · clear hbel hcella hcellb
        go_wp2_with fail
        go_ret
        obtain rfl : k = la.length := by omega
        exact ⟨ret_bool (decide_eq_true (gs_ext H.out HE.out)), HB.out⟩
  · have hd : ((la.length : Int) != (lb.length : Int)) = true := by simp; omega
    go_enter Tryd.func12, Tryd.ntmps12
    go_wp2_with fail
    go_ret
    exact ⟨ret_bool (decide_eq_false (fun e => hl (by rw [e]))), Old.refl _⟩
end Go.Proofs.YtalkikljjffpmaaDoor
