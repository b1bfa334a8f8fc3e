/- The reference's words of a completer: spec.Tree, spec.Deep. -/
import Derived.Test.YtalkikljjffpmaaDoorDeepT
import Derived.Test.YtalkikljjffpmaaDoorFits1
import Derived.Test.YtalkikljjffpmaaDoorSeg4
import Derived.Laws.AppendOwnNone
namespace Go.Proofs.YtalkikljjffpmaaDoor
open Go.RowKit
set_option linter.unusedVariables false
set_option linter.unusedSimpArgs false
set_option linter.unnecessarySimpa false
set_option maxRecDepth 100000

def wordVs : List (ByteArray × Nat) → List Value
  | [] => []
  | p :: L => .string p.1 :: .int .i64 p.2 :: wordVs L
theorem wordVs_len : ∀ L : List (ByteArray × Nat), (wordVs L).length = L.length * 2
  | [] => rfl
  | p :: L => by simp only [wordVs, List.length_cons, wordVs_len L]; omega
theorem wordVs_app : ∀ a b : List (ByteArray × Nat), wordVs (a ++ b) = wordVs a ++ wordVs b
  | [], b => rfl
  | p :: a, b => by simp only [List.cons_append, wordVs, wordVs_app a b]
theorem wordVs_get : ∀ (L : List (ByteArray × Nat)) (k : Nat) (h : k < L.length), (wordVs L)[k * 2]? = some (.string L[k].1) ∧ (wordVs L)[k * 2 + 1]? = some (.int .i64 L[k].2)
  | p :: L, 0, h => ⟨rfl, rfl⟩
  | p :: L, k + 1, h => by
    have := wordVs_get L k (by simpa using h)
    rw [show (k + 1) * 2 = k * 2 + 1 + 1 by omega]
    simpa [wordVs] using this
theorem Words.of_own {w : World} {base : Nat} {e : TypeId} {v : Value} {L : List (ByteArray × Nat)} {n : Nat} (h : w.ownsRow base e 2 v n (wordVs L)) (hn : n = L.length) : Words w v L := by
  subst hn
  obtain ⟨-, ⟨rfl, h⟩ | ⟨g, cap, cur, rfl, h1, h2, h3, h4, h5, h6⟩⟩ := h
  · exact ⟨Option.none, 0, by rw [h], by omega, by unfold maxLen; omega, fun j hj => absurd hj (by omega)⟩
  · have hg : ∀ q, q < L.length * 2 → w.cell? ⟨g, q, Option.none⟩ = (wordVs L)[q]? := fun q hq => by
      unfold World.cell?
      rw [h2, ← h6, List.getElem?_take_of_lt hq]
      simp
    refine ⟨_, _, rfl, h3, h4, fun j hj => ⟨g, 0, rfl, (Array.getElem?_eq_some_iff.1 h2).1, ?_, ?_⟩⟩
    · rw [Nat.zero_add, hg _ (by omega)]; exact (wordVs_get L j hj).1
    · rw [Nat.zero_add, hg _ (by omega)]; exact (wordVs_get L j hj).2
theorem info_word : (Tryd.prog.info? 66).map (fun i => (i.zero, i.size, i.bytes)) = some (some (.agg #[.string ByteArray.empty, .int .i64 0]), 2, 24) := by kernel_rfl
def treeF (first : List ByteArray) (i : Nat) (thn : List ByteArray) : List (ByteArray × List ByteArray) := (List.range first.length).map fun j => (gs first j, if j = i then thn else [])
theorem treeF_len (first : List ByteArray) (i : Nat) (thn : List ByteArray) : (treeF first i thn).length = first.length := by simp [treeF]
theorem treeF_get {first : List ByteArray} {i : Nat} {thn : List ByteArray} {j : Nat} (h : j < (treeF first i thn).length) : (treeF first i thn)[j] = (gs first j, if j = i then thn else []) := by simp [treeF]
theorem enc0 : ∀ F : List ByteArray, encF id kw0 F = F.map fun s => (s, 1)
  | [] => rfl
  | s :: F => by
    have := enc0 F
    unfold encF at *
    rw [List.flatMap_cons, this]; rfl
theorem enc1_yes (x : ByteArray) (l : List ByteArray) : encW Prod.fst kw1 (x, l) = (x, l.length + 1) :: l.map fun s => (s, 1) := by
  unfold encW kw1; rw [enc0]; simp
set_option maxHeartbeats 2000000 in
theorem tree_any (v u : Value) (first thn : List ByteArray) (i : Nat) (w : World) (h : Strs w v first) (h2 : Strs w u thn) (hf : first.length ≤ 8) (ht : thn.length ≤ 8) :
    Calls Tryd.prog 31 #[v, .int .i64 i, u] w fun e w' => ∃ ov, e = .returned ov ∧ Old w w' ∧ w'.ownsRow w.heap.size 66 2 ov (encF Prod.fst kw1 (treeF first i thn)).length (wordVs (encF Prod.fst kw1 (treeF first i thn))) := by
  have HT := Lib.hid h
  have HU := Lib.hid h2
  obtain ⟨ad, c, rfl, h3, h4, -⟩ := h
  obtain ⟨bd, d, rfl, h5, h6, -⟩ := h2
  go_enter Tryd.func31, Tryd.ntmps31
  go_wp2_with fail
  go_loopw [7, 13] (fun ov iv wr => ∃ k : Nat, k ≤ first.length ∧ iv = .int .i64 k ∧ wr.ownsRow w.heap.size 66 2 ov (encF Prod.fst kw1 ((treeF first i thn).take k)).length (wordVs (encF Prod.fst kw1 ((treeF first i thn).take k))) ∧ Old w wr ∧ (encF Prod.fst kw1 ((treeF first i thn).take k)).length ≤ k * 9) (fun _ iv _ => first.length - (intOf iv).toNat)
  case atStart => exact ⟨0, Nat.zero_le _, rfl, ⟨rfl, .inl ⟨rfl, by simp [encF]⟩⟩, Old.refl _, by simp [encF]⟩
  case round =>
    obtain ⟨k, hk, rfl, hown, hold, hlen⟩ := hrel
    have OW := Lib.hid hown
    have OO := Lib.hid hold
    clear hown hold
    by_cases hkn : k < first.length
    · obtain ⟨b, o, rfl, c1⟩ := (HT.out.old OO.out).cell k hkn
      have TK := encF_take (nm := Prod.fst) (kw := kw1) (F := treeF first i thn) (k := k) (by rw [treeF_len]; exact hkn)
      rw [treeF_get, enc1_yes] at TK
      obtain ⟨E, hE⟩ : ∃ E, E = encF Prod.fst kw1 ((treeF first i thn).take k) := ⟨_, rfl⟩
      rw [← hE] at OW TK hlen
      generalize gs first k = x at c1 TK
      have HE := Lib.hid hE
      clear hE
      by_cases hki : k = i
      · subst hki
        rw [if_pos rfl] at TK
        have TK' := Lib.hid TK
        have q1 : ((k : Int) == (k : Int)) = true := by simp
        clear TK
        go_upto_region 8 with fail
        have oa : Old wr (wr.alloc (.cells #[.string x, .int .i64 (1 + (thn.length : Int))] 66)) := Old.alloc _ _
        have na := heap_alloc_new wr (.cells #[.string x, .int .i64 (1 + (thn.length : Int))] 66)
        have x0 := (bcell4 na 0).trans rfl
        have x1 := (bcell4 na 1).trans rfl
        have OA := Lib.hid (OO.out.trans oa)
        have WA := Lib.hid (own_old OW.out oa)
        generalize wr.alloc (.cells #[.string x, .int .i64 (1 + (thn.length : Int))] 66) = wa at x0 x1 OA WA ⊢
        clear na oa c1
        generalize wr.heap.size = g at x0 x1 ⊢
        go_upto_region 9 with (at_builtin; refine wpList_append_new rfl (Operand.tmp 30) (Operand.tmp 32) 31 66 _ (.agg #[.string ByteArray.empty, .int .i64 0]) 2 24 rfl Tryd.underlying31 info_word rfl (by decide) w.heap.size u7 E.length (wordVs E) rfl WA.out 1 #[.string x, .int .i64 (1 + (thn.length : Int))] rfl (by decide) rfl (by intro z hz; simp at hz; rcases hz with rfl | rfl <;> rfl) (by omega) (by omega) OA.out.size ?_; intro v' w5 hown1 hg1 hv1; obtain ⟨tb', tc', rfl, hat⟩ := hv1; have OW5 := Lib.hid hown1; have O5 := Lib.hid (OA.out.own (Nat.le_refl _) WA.out hg1); clear hown1 hg1 hat)
        clear x0 x1
        go_wp2_with fail
        obtain ⟨wo, rfl⟩ : ∃ wo : World, wo = wr := ⟨_, rfl⟩
        go_loopw [7, 10] (fun ov iv wi => ∃ m : Nat, m ≤ thn.length ∧ iv = .int .i64 m ∧ wi.ownsRow w.heap.size 66 2 ov (E.length + 1 + m) (wordVs (E ++ (x, thn.length + 1) :: (thn.take m).map fun s => (s, 1))) ∧ Old w wi) (fun _ iv _ => thn.length - (intOf iv).toNat)
        case atStart => exact ⟨0, Nat.zero_le _, rfl, by
          have h := OW5.out
          rw [wordVs_app, Nat.add_zero]
          have e : wordVs ((x, thn.length + 1) :: (thn.take 0).map fun s => (s, 1)) = #[Value.string x, Value.int .i64 (1 + (thn.length : Int))].toList := by
            simp [wordVs]; omega
          rw [e]; exact h, O5.out⟩
        case round =>
          obtain ⟨m, hm, rfl, hown, hold⟩ := hrel
          have OWm := Lib.hid hown
          have OOm := Lib.hid hold
          clear hown hold
          by_cases hmt : m < thn.length
          · obtain ⟨b2, o2, rfl, c2⟩ := (HU.out.old OOm.out).cell m hmt
            have TM : Hid (wordVs (E ++ (x, thn.length + 1) :: (thn.take m).map fun s => (s, 1)) ++ [.string (gs thn m), .int .i64 1] = wordVs (E ++ (x, thn.length + 1) :: (thn.take (m + 1)).map fun s => (s, 1))) := by
              unfold Hid
              rw [List.take_succ_eq_append_getElem hmt, gs_lt hmt, List.map_append, ← List.cons_append, ← List.append_assoc, wordVs_app _ (List.map _ _)]; rfl
            generalize gs thn m = y at c2 TM
            go_wp2_with (at_builtin; refine wpList_append_new rfl (Operand.tmp 45) (Operand.tmp 51) 31 66 _ (.agg #[.string ByteArray.empty, .int .i64 0]) 2 24 rfl Tryd.underlying31 info_word rfl (by decide) w.heap.size u7 (E.length + 1 + m) _ rfl OWm.out 1 #[.string y, .int .i64 1] rfl (by decide) rfl (by intro z hz; simp at hz; rcases hz with rfl | rfl <;> rfl) (by omega) (by omega) OOm.out.size ?_; intro v' w6 hown1 hg1 hv1; obtain ⟨tb6, tc6, rfl, hat⟩ := hv1; have OW6 := Lib.hid hown1; have O6 := Lib.hid (OOm.out.own (Nat.le_refl _) OWm.out hg1); clear hown1 hg1 hat)
            go_roundw
            case rel => exact ⟨m + 1, by omega, by go_num, by rw [← TM.out]; exact OW6.out, O6.out⟩
            case measure => simp [intOf]; omega
          · obtain rfl : m = thn.length := by omega
            rw [List.take_length] at OWm
            go_wp2_with fail
            go_roundw
            case rel =>
              have e : (E ++ (x, thn.length + 1) :: thn.map fun s => (s, 1)).length = E.length + 1 + thn.length := by simp; omega
              exact ⟨k + 1, by omega, by go_num, by rw [TK'.out, e]; exact OWm.out, OOm.out, by rw [TK'.out, e]; omega⟩
            case measure => simp [intOf]; omega
      · rw [if_neg hki] at TK
        have TK' := Lib.hid TK
        have q1 : ((k : Int) == (i : Int)) = false := by rw [beq_eq_false_iff_ne]; omega
        have q2 : (k == i) = false := by rw [beq_eq_false_iff_ne]; omega
        clear TK
        go_upto_region 8 with fail
        have oa : Old wr (wr.alloc (.cells #[.string x, .int .i64 1] 66)) := Old.alloc _ _
        have na := heap_alloc_new wr (.cells #[.string x, .int .i64 1] 66)
        have x0 := (bcell4 na 0).trans rfl
        have x1 := (bcell4 na 1).trans rfl
        have OA := Lib.hid (OO.out.trans oa)
        have WA := Lib.hid (own_old OW.out oa)
        generalize wr.alloc (.cells #[.string x, .int .i64 1] 66) = wa at x0 x1 OA WA ⊢
        clear na oa c1
        generalize wr.heap.size = g at x0 x1 ⊢
        go_upto_region 9 with (at_builtin; refine wpList_append_new rfl (Operand.tmp 30) (Operand.tmp 32) 31 66 _ (.agg #[.string ByteArray.empty, .int .i64 0]) 2 24 rfl Tryd.underlying31 info_word rfl (by decide) w.heap.size u7 E.length (wordVs E) rfl WA.out 1 #[.string x, .int .i64 1] rfl (by decide) rfl (by intro z hz; simp at hz; rcases hz with rfl | rfl <;> rfl) (by omega) (by omega) OA.out.size ?_; intro v' w5 hown1 hg1 hv1; obtain ⟨tb', tc', rfl, hat⟩ := hv1; have OW5 := Lib.hid hown1; have O5 := Lib.hid (OA.out.own (Nat.le_refl _) WA.out hg1); clear hown1 hg1 hat)
        clear x0 x1
        go_wp2_with fail
        obtain ⟨wo, rfl⟩ : ∃ wo : World, wo = wr := ⟨_, rfl⟩
        go_loopw [7, 10] (fun ov iv wi => ov = .slice (some ⟨tb', 0, none⟩) (E.length + 1) tc' ∧ iv = .int .i64 0 ∧ wi = w5) (fun _ iv _ => 0)
        case atStart => exact ⟨rfl, rfl, rfl⟩
        case round =>
          obtain ⟨rfl, rfl, rfl⟩ := hrel
          go_wp2_with fail
          go_roundw
          case rel =>
            have e : (E ++ [(x, 1)]).length = E.length + 1 := by simp
            have e2 : encF Prod.fst kw1 ((treeF first i thn).take (k + 1)) = E ++ [(x, 1)] := TK'.out
            exact ⟨k + 1, by omega, by go_num, by
              rw [e2, e, wordVs_app]; exact OW5.out, O5.out, by rw [e2, e]; omega⟩
          case measure => simp [intOf]; omega
    · obtain rfl : k = first.length := by omega
      rw [← treeF_len first i thn, List.take_length] at OW
      go_wp2_with fail
      go_ret
      exact ⟨_, rfl, OO.out, OW.out⟩
def deepF (first : List ByteArray) (i : Nat) (thn : List ByteArray) (k : Nat) (last : List ByteArray) : List (ByteArray × List (ByteArray × List ByteArray)) := (List.range first.length).map fun j => (gs first j, if j = i then treeF thn k last else [])
theorem deepF_len (first : List ByteArray) (i : Nat) (thn : List ByteArray) (k : Nat) (last : List ByteArray) : (deepF first i thn k last).length = first.length := by simp [deepF]
theorem deepF_get {first : List ByteArray} {i : Nat} {thn : List ByteArray} {k : Nat} {last : List ByteArray} {j : Nat} (h : j < (deepF first i thn k last).length) : (deepF first i thn k last)[j] = (gs first j, if j = i then treeF thn k last else []) := by simp [deepF]
theorem enc2_yes (x : ByteArray) (l : List (ByteArray × List ByteArray)) : encW Prod.fst kw2 (x, l) = (x, (encF Prod.fst kw1 l).length + 1) :: encF Prod.fst kw1 l := rfl
theorem encF_le {α : Type} {nm : α → ByteArray} {kw : α → List (ByteArray × Nat)} {M : Nat} : ∀ F : List α, (∀ x ∈ F, (kw x).length + 1 ≤ M) → (encF nm kw F).length ≤ F.length * M
  | [], _ => by simp [encF]
  | x :: F, h => by
    have h1 := encF_le (nm := nm) (kw := kw) F fun y hy => h y (by simp [hy])
    have h2 := h x (by simp)
    have e : (encF nm kw (x :: F)).length = ((kw x).length + 1) + (encF nm kw F).length := by
      unfold encF; rw [List.flatMap_cons, List.length_append]; rfl
    rw [e, List.length_cons, Nat.add_mul]
    omega
theorem tree_len {thn last : List ByteArray} {k : Nat} (h1 : thn.length ≤ 8) (h2 : last.length ≤ 8) : (encF Prod.fst kw1 (treeF thn k last)).length ≤ 72 := by
  have := encF_le (nm := Prod.fst) (kw := kw1) (M := 9) (treeF thn k last) (fun x hx => by
    obtain ⟨j, hj, rfl⟩ := List.mem_map.1 hx
    unfold kw1
    rw [enc0, List.length_map]
    simp only
    split
    · omega
    · simp)
  rw [treeF_len] at this
  omega
theorem info_word_parts : ∃ i, (Tryd.prog.info? 66) = some i ∧ i.zero = some (.agg #[.string ByteArray.empty, .int .i64 0]) ∧ i.size = 2 ∧ i.bytes = 24 := by
  have h := info_word
  cases hi : (Tryd.prog.info? 66) with
  | none => rw [hi] at h; simp at h
  | some i => rw [hi] at h; simp at h; exact ⟨i, rfl, h.1, h.2.1, h.2.2⟩
theorem word_one : ∀ L : List (ByteArray × Nat), ∀ u ∈ wordVs L, u.oneCell' = true
  | [], u, h => by cases h
  | p :: L, u, h => by
    simp only [wordVs, List.mem_cons] at h
    rcases h with rfl | rfl | h
    · rfl
    · rfl
    · exact word_one L u h
set_option maxHeartbeats 2000000 in
theorem deep_spec (v u y : Value) (first thn last : List ByteArray) (i k0 : Nat) (w : World) (h : Strs w v first) (h2 : Strs w u thn) (hl : Strs w y last) (hf : first.length ≤ 8) (ht : thn.length ≤ 8) (ht1 : 1 ≤ thn.length) (hl8 : last.length ≤ 8) :
    Calls Tryd.prog 15 #[v, .int .i64 i, u, .int .i64 k0, y] w fun e w' => ∃ ov, e = .returned ov ∧ Old w w' ∧ w'.ownsRow w.heap.size 66 2 ov (encF Prod.fst kw2 (deepF first i thn k0 last)).length (wordVs (encF Prod.fst kw2 (deepF first i thn k0 last))) := by
  have HT := Lib.hid h
  have TA := Lib.hid (fun W (o : Old w W) => tree_any u y thn last k0 W (h2.old o) (hl.old o) ht hl8)
  have TL := Lib.hid (tree_len (k := k0) ht hl8)
  have TL1 : Hid (1 ≤ (encF Prod.fst kw1 (treeF thn k0 last)).length) := by
    have := encF_len (nm := Prod.fst) (kw := kw1) (treeF thn k0 last)
    rw [treeF_len] at this
    unfold Hid; omega
  obtain ⟨L, hL⟩ : ∃ L, L = encF Prod.fst kw1 (treeF thn k0 last) := ⟨_, rfl⟩
  rw [← hL] at TA TL TL1
  have HL := Lib.hid hL
  obtain ⟨ad, c, rfl, h3, h4, -⟩ := h
  obtain ⟨bd, d, rfl, h5, h6, -⟩ := h2
  obtain ⟨ld, lc, rfl, h7, h8, -⟩ := hl
  clear hL
  go_enter Tryd.func15, Tryd.ntmps15
  go_wp2_with fail
  go_loopw [11, 17] (fun ov iv wr => ∃ k : Nat, k ≤ first.length ∧ iv = .int .i64 k ∧ wr.ownsRow w.heap.size 66 2 ov (encF Prod.fst kw2 ((deepF first i thn k0 last).take k)).length (wordVs (encF Prod.fst kw2 ((deepF first i thn k0 last).take k))) ∧ Old w wr ∧ (encF Prod.fst kw2 ((deepF first i thn k0 last).take k)).length ≤ k * 73) (fun _ iv _ => first.length - (intOf iv).toNat)
  case atStart => exact ⟨0, Nat.zero_le _, rfl, ⟨rfl, .inl ⟨rfl, by simp [encF]⟩⟩, Old.refl _, by simp [encF]⟩
  case round =>
    obtain ⟨k, hk, rfl, hown, hold, hlen⟩ := hrel
    have OW := Lib.hid hown
    have OO := Lib.hid hold
    clear hown hold
    by_cases hkn : k < first.length
    · obtain ⟨b, o, rfl, c1⟩ := (HT.out.old OO.out).cell k hkn
      have TK := encF_take (nm := Prod.fst) (kw := kw2) (F := deepF first i thn k0 last) (k := k) (by rw [deepF_len]; exact hkn)
      rw [deepF_get, enc2_yes] at TK
      obtain ⟨E, hE⟩ : ∃ E, E = encF Prod.fst kw2 ((deepF first i thn k0 last).take k) := ⟨_, rfl⟩
      rw [← hE] at OW TK hlen
      generalize gs first k = x at c1 TK
      have HE := Lib.hid hE
      have i2 : ((k : Int) == (k : Int)) = true := by simp
      go_upto_region 6 with fail
      have oa : Old wr (wr.alloc (.cells #[.string x, .int .i64 1] 66)) := Old.alloc _ _
      have na : (wr.alloc (.cells #[.string x, .int .i64 1] 66)).heap[wr.heap.size]? = some (.cells #[.string x, .int .i64 1] 66) := heap_alloc_new _ _
      have OA := Lib.hid (OO.out.trans oa)
      have WA := Lib.hid (own_old OW.out oa)
      obtain ⟨g, hg⟩ : ∃ g, g = wr.heap.size := ⟨_, rfl⟩
      rw [← hg] at na ⊢
      have GW := Lib.hid (Nat.le_trans OO.out.size (Nat.le_of_eq hg.symm))
      have OWB : Hid (∀ q, u11.ownBlock = some q → q < g) := fun q hq => by rw [hg]; exact (own_inside OW.out q hq).2
      generalize wr.alloc (.cells #[.string x, .int .i64 1] 66) = wa at na OA WA ⊢
      have NA := Lib.hid na
      clear oa na c1 hE hg
      go_upto_region 7 with (go_at_call 31; refine (TA.out wa OA.out).mono ?_; rintro e w3 ⟨iv, rfl, o3, own3⟩; have O3 := Lib.hid (OA.out.trans o3); have W3 := Lib.hid (own_old WA.out o3); have I3 := Lib.hid own3; have N3 := Lib.hid ((o3.heap (Array.getElem?_eq_some_iff.1 NA.out).1).trans NA.out); have GZ := Lib.hid (Array.getElem?_eq_some_iff.1 NA.out).1; clear o3 own3)
      obtain ⟨gi', ci', rfl⟩ := own_some I3.out TL1.out
      have x0 := (bcell4 N3.out 0).trans rfl
      have x1 := (bcell4 N3.out 1).trans rfl
      have fz := free_at N3.out 1
      have tl := TL.out
      obtain ⟨i0, hi0, hz0, hz1, hz2⟩ := info_word_parts
      by_cases hki : k = i
      · subst hki
        rw [if_pos rfl, ← HL.out] at TK
        have TK' := Lib.hid TK
        have q1 : ((k : Int) != (k : Int)) = false := by simp
        clear TK
        go_upto_region 10 with fail
        have y0 := (far_cell4 w3 (p := g) (i := 1) (q := g) (j := 0) (.int .i64 (1 + (L.length : Int))) (Or.inr (by omega))).trans x0
        have y1 := World.cell?_setCell_same' w3 ⟨g, 1, Option.none⟩ (.int .i64 (1 + (L.length : Int))) (by rw [x1]; rfl)
        have hga := GZ.out
        have OB := Lib.hid (O3.out.stored (p := ⟨g, 1, Option.none⟩) GW.out (.int .i64 (1 + (L.length : Int))))
        have WB := Lib.hid (own_keep (w' := w3.setCell ⟨g, 1, Option.none⟩ (.int .i64 (1 + (L.length : Int)))) W3.out fun q hq _ => Below.heap_setCell w3 ⟨g, 1, Option.none⟩ (.int .i64 (1 + (L.length : Int))) q (by have := OWB.out q hq; simp; omega))
        have IB := Lib.hid (own_keep (w' := w3.setCell ⟨g, 1, Option.none⟩ (.int .i64 (1 + (L.length : Int)))) I3.out fun q hq _ => Below.heap_setCell w3 ⟨g, 1, Option.none⟩ (.int .i64 (1 + (L.length : Int))) q (by have := (own_inside I3.out q hq).1; simp; omega))
        have AP : Hid (Ap u11 (.slice (some ⟨gi', 0, Option.none⟩) L.length ci')) := fun q h1 h2 => by have e1 := OWB.out q h1; have e2 : gi' = q := (by simpa [Value.ownBlock] using h2); have e3 := (own_inside I3.out gi' rfl).1; omega
        generalize w3.setCell ⟨g, 1, Option.none⟩ (.int .i64 (1 + (L.length : Int))) = wb at y0 y1 OB WB IB ⊢
        clear x0 x1 fz NA N3
        go_wp2_with (first
          | (at_builtin; have _t := tok1; refine wpList_append_own_at w5 rfl (Operand.tmp 41) (Operand.tmp 42) 31 rfl w.heap.size 66 i0 (.agg #[.string ByteArray.empty, .int .i64 0]) 2 24 Tryd.underlying31 hi0 hz0 hz1 hz2 rfl (by decide) (.slice (some ⟨tb', 0, Option.none⟩) (E.length + 1) tc') (E.length + 1) (wordVs E ++ #[Value.string x, .int .i64 (1 + (L.length : Int))].toList) rfl OW5.out ⟨gi', 0, Option.none⟩ L.length ci' (wordVs L) rfl (wordVs_len L) (fun j u hu => I5.out.cells (g := gi') rfl j u hu) (word_one L) (by unfold maxLen; omega) (by omega) O5.out.size ?_; intro v7 w7 own7 gr7 _ _; obtain ⟨b7, cc7, hv7⟩ := own_some own7 (by omega); subst hv7; have OW7 := Lib.hid own7; have O7 := Lib.hid (O5.out.own (Nat.le_refl _) OW5.out gr7); clear own7 gr7 tok1)
          | (at_builtin; refine wpList_append_new rfl (Operand.tmp 38) (Operand.tmp 40) 31 66 _ (.agg #[.string ByteArray.empty, .int .i64 0]) 2 24 rfl Tryd.underlying31 info_word rfl (by decide) w.heap.size u11 E.length (wordVs E) rfl WB.out 1 #[.string x, .int .i64 (1 + (L.length : Int))] rfl (by decide) rfl (by intro z hz; simp at hz; rcases hz with rfl | rfl <;> rfl) (by omega) (by omega) OB.out.size ?_; intro v' w5 hown1 hg1 hv1; obtain ⟨tb', tc', rfl, hat⟩ := hv1; have OW5 := Lib.hid hown1; have O5 := Lib.hid (OB.out.own (Nat.le_refl _) WB.out hg1); have I5 := Lib.hid (own_apart (own_old IB.out (Old.refl wb)) hg1 AP.out); have tok1 : True := trivial; clear hown1 hg1 hat))
        go_roundw
        case rel =>
          have e : (E ++ (x, L.length + 1) :: L).length = E.length + 1 + L.length := by simp; omega
          exact ⟨k + 1, by omega, by go_num, by
            rw [TK'.out, e, wordVs_app]
            have e2 : wordVs ((x, L.length + 1) :: L) = #[Value.string x, .int .i64 (1 + (L.length : Int))].toList ++ wordVs L := by simp [wordVs]; omega
            rw [e2, ← List.append_assoc]; exact OW7.out, O7.out, by rw [TK'.out, e]; omega⟩
        case measure => simp [intOf]; omega
      · rw [if_neg hki] at TK
        have TK' := Lib.hid TK
        have q1 : ((k : Int) != (i : Int)) = true := by simp; omega
        have q2 : (k != i) = true := by simp; omega
        have q3 : ((k : Int) == (i : Int)) = false := by rw [beq_eq_false_iff_ne]; omega
        clear TK
        go_upto_region 10 with fail
        have y0 := (far_cell4 w3 (p := g) (i := 1) (q := g) (j := 0) (.int .i64 1) (Or.inr (by omega))).trans x0
        have y1 := World.cell?_setCell_same' w3 ⟨g, 1, Option.none⟩ (.int .i64 1) (by rw [x1]; rfl)
        have hga := GZ.out
        have OB := Lib.hid (O3.out.stored (p := ⟨g, 1, Option.none⟩) GW.out (.int .i64 1))
        have WB := Lib.hid (own_keep (w' := w3.setCell ⟨g, 1, Option.none⟩ (.int .i64 1)) W3.out fun q hq _ => Below.heap_setCell w3 ⟨g, 1, Option.none⟩ (.int .i64 1) q (by have := OWB.out q hq; simp; omega))
        have IB := Lib.hid (own_keep (w' := w3.setCell ⟨g, 1, Option.none⟩ (.int .i64 1)) I3.out fun q hq _ => Below.heap_setCell w3 ⟨g, 1, Option.none⟩ (.int .i64 1) q (by have := (own_inside I3.out q hq).1; simp; omega))
        have AP : Hid (Ap u11 (.slice (some ⟨gi', 0, Option.none⟩) L.length ci')) := fun q h1 h2 => by have e1 := OWB.out q h1; have e2 : gi' = q := (by simpa [Value.ownBlock] using h2); have e3 := (own_inside I3.out gi' rfl).1; omega
        generalize w3.setCell ⟨g, 1, Option.none⟩ (.int .i64 1) = wb at y0 y1 OB WB IB ⊢
        clear x0 x1 fz NA N3
        go_wp2_with (first
          | (at_builtin; have _t := tok1; refine wpList_append_own_none rfl (Operand.tmp 41) (Operand.tmp 42) 31 rfl w.heap.size 66 i0 2 Tryd.underlying31 hi0 _ _ _ rfl OW5.out rfl ?_; clear tok1)
          | (at_builtin; refine wpList_append_new rfl (Operand.tmp 38) (Operand.tmp 40) 31 66 _ (.agg #[.string ByteArray.empty, .int .i64 0]) 2 24 rfl Tryd.underlying31 info_word rfl (by decide) w.heap.size u11 E.length (wordVs E) rfl WB.out 1 #[.string x, .int .i64 1] rfl (by decide) rfl (by intro z hz; simp at hz; rcases hz with rfl | rfl <;> rfl) (by omega) (by omega) OB.out.size ?_; intro v' w5 hown1 hg1 hv1; obtain ⟨tb', tc', rfl, hat⟩ := hv1; have OW5 := Lib.hid hown1; have O5 := Lib.hid (OB.out.own (Nat.le_refl _) WB.out hg1); have tok1 : True := trivial; clear hown1 hg1 hat))
        go_roundw
        case rel =>
          have e : (E ++ [(x, 1)]).length = E.length + 1 := by simp
          have e2 : encF Prod.fst kw2 ((deepF first i thn k0 last).take (k + 1)) = E ++ [(x, 1)] := TK'.out
          exact ⟨k + 1, by omega, by go_num, by rw [e2, e, wordVs_app]; exact OW5.out, O5.out, by rw [e2, e]; omega⟩
        case measure => simp [intOf]; omega
    · obtain rfl : k = first.length := by omega
      rw [← deepF_len first i thn k0 last, List.take_length] at OW
      go_wp2_with fail
      go_ret
      exact ⟨_, rfl, OO.out, OW.out⟩
end Go.Proofs.YtalkikljjffpmaaDoor
