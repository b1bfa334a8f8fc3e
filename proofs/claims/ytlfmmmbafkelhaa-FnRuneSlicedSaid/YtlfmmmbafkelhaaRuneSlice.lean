/- readline's RuneBuffer: so many signs behind the cursor, or ahead of it. -/
import Derived.Test.YtlfmmmbafkelhaaNew
import Derived.Laws.CopyOwn
namespace Go.Proofs.Ytlfmmmbafkelhaa
open Go.RowKit
set_option linter.unusedVariables false
set_option linter.unusedSimpArgs false
set_option maxRecDepth 100000

theorem getElem_map_int {l : List Int} {j : Nat} {u : Value} (h : (l.map (Value.int .i32))[j]? = some u) : j < l.length ∧ u = .int .i32 (gi l j) := by
  have hj : j < (l.map (Value.int .i32)).length := (List.getElem?_eq_some_iff.1 h).1
  have hj' : j < l.length := by simpa using hj
  refine ⟨hj', ?_⟩
  rw [List.getElem?_eq_getElem hj] at h
  rw [gi_lt hj']
  simpa using h.symm
theorem one_map (l : List Int) : ∀ v ∈ l.map (Value.int .i32), v.oneCell' = true := by
  intro u hu
  obtain ⟨q, _, rfl⟩ := List.mem_map.1 hu
  rfl
section
variable {P : Program} {ops : Array Oper} {rest : List Oper} {o : Oper} {a : Act} {Q : Exit → Act → World → Prop} {w : World}
/-- 'make([]rune, n)': a new row of zeros. -/
theorem wpList_make_runes (hg : o.guard = none) (l c : Operand) (t e : TypeId) (hop : o.op = Op.makeSlice t l c) (h1 : P.underlying t = some (.slice e)) (hinfo : (P.info? e).map (fun i => (i.zero, i.size, i.bytes)) = some (some (.int .i32 0), 1, 4))
    (kl kc : IntKind) (L C : Int) (n : Nat) (hl : a.eval l = .int kl L) (hc : a.eval c = .int kc C) (hL : L = (n : Int)) (hC : C = (n : Int)) (hn : n ≤ 2147483648)
    (h : ∀ w', Hid (w'.heap[w.heap.size]? = some (.cells (List.replicate n (Value.int .i32 0)).toArray e)) → Old w w' → wpList P ops Q rest (a.put o.dst (.slice (some ⟨w.heap.size, 0, none⟩) n n)) w') :
    wpList P ops Q (o :: rest) a w := by
  obtain ⟨i, hi, hz0, hz1, hz2⟩ := info_parts1 hinfo
  refine wpList_make_full w hg l c t hop w.heap.size e i (.int .i32 0) 1 h1 hi hz0 hz1 kl kc L C n hl hc hL hC (by rw [hz2]; omega) (by unfold maxLen; omega) (Nat.le_refl _) ?_
  intro w' hown hgr
  refine h w' ?_ ((Old.refl w).grown hgr (by simp))
  rcases hown.2 with ⟨hv, _⟩ | ⟨g, cap, cur, hv, h3, h4, h5, h6, h7, h8⟩
  · cases hv
  · injection hv with hv1 hv2 hv3
    injection hv1 with hv1; injection hv1 with hv1
    subst hv1
    subst hv3
    have hcl : cur.toList.length = n := by rw [Array.length_toList, h7]; omega
    have he : cur.toList = List.replicate n (Value.int .i32 0) := by
      rw [Nat.mul_one, List.take_of_length_le (by omega)] at h8
      rw [h8]
      have hz : (Value.int .i32 0).cells = #[.int .i32 0] := rfl
      rw [hz]
      apply List.ext_getElem
      · simp [madeCells]
      · intro j h1 h2
        simp [madeCells, Nat.mod_one]
    have hcur : cur = (List.replicate n (Value.int .i32 0)).toArray := by rw [← he]
    rw [h4, hcur]
    exact rfl
end

theorem runes_of_row {w : World} {b n : Nat} {l : List Int} (h : w.heap[b]? = some (.cells (splice (List.replicate n (Value.int .i32 0)) 0 (l.map (Value.int .i32))).toArray 21)) (hl : l.length = n) (hn : n ≤ 2147483648) :
    RunesAt w (.slice (some ⟨b, 0, none⟩) n n) l := by
  subst hl
  have hs : splice (List.replicate l.length (Value.int .i32 0)) 0 (l.map (Value.int .i32)) = l.map (Value.int .i32) := by
    unfold splice; simp
  rw [hs] at h
  refine ⟨b, 0, _, rfl, Nat.le_refl _, by unfold maxLen; omega, (Array.getElem?_eq_some_iff.1 h).1, fun j hj => ?_⟩
  rw [Nat.zero_add, cell_of_heap h j]
  simp [gi, List.getD, List.getElem?_eq_getElem hj]

theorem rslice_fwd (p b c at_ n : Nat) (l : List Int) (kv : Value) (w : World) (hp : PB w p (.slice (some ⟨b, 0, none⟩) l.length c) (.int .i64 at_) kv) (hL : LB w b c l) (h : at_ + n ≤ l.length) (hl : l.length ≤ 2147483647) (hn : 0 < n) :
    Calls Try.prog 10 #[.pointer (some ⟨p, 0, none⟩), .int .i64 n] w fun e w' => ∃ v, e = .returned v ∧ Old w w' ∧ RunesAt w' v ((l.drop at_).take n) := by
  have HP := Lib.hid hp
  have HL := Lib.hid hL
  have c0 := hp.c0
  have c1 := hp.c1
  have hc := hL.cap
  obtain ⟨hc1, hc2⟩ := hc
  unfold maxLen at hc2
  clear hp hL
  have d1 : decide ((n : Int) > 0) = true := by simp; omega
  have d2 : decide ((n : Int) < 0) = false := by simp
  have e1 : IntKind.i64.wrap ((at_ : Int) + n) = (at_ : Int) + n := IntWalk.i64_in _ (by omega)
  have e2 : 0 ≤ (at_ : Int) + n := by omega
  have e4 : ((at_ : Int) + n).toNat = at_ + n := by omega
  have e3 : (at_ : Int) + n ≤ c := by omega
  have e5 : ¬ c = at_ := by omega
  go_enter Try.func10, Try.ntmps10
  go_wp2_with (at_make; refine wpList_make_runes rfl _ _ 29 21 rfl (by kernel_rfl) (by kernel_rfl) _ _ _ _ n rfl rfl rfl rfl (by omega) ?_; intro w1 z1 o1; have O1 := Lib.hid o1; have c10 := (o1.cell HP.out.lt).trans c0; have c11 := (o1.cell HP.out.lt).trans c1; clear o1 c0 c1)
  go_still_tail 16, (by kernel_rfl)
  change wpList _ _ _ _ _ w1.drew
  have Z2 : Hid (w1.drew.heap[w.heap.size]? = some (.cells (List.replicate n (Value.int .i32 0)).toArray 21)) := z1
  have O2 := Lib.hid (O1.out.trans (Old.drew w1))
  clear O1 z1 c10 c11
  generalize w1.drew = w2 at Z2 O2 ⊢
  have HC : Hid (((l.drop at_).take n).length = n) := by unfold Hid; simp; omega
  have H2 := Lib.hid (HL.out.old O2.out)
  refine wpList_copy_splice rfl _ _ 29 29 rfl 21 Try.underlying29 (by kernel_rfl) (some ⟨w.heap.size, 0, none⟩) (some ⟨b, at_, none⟩) n n n (c - at_) rfl rfl w.heap.size 0 _ 21 Z2.out (((l.drop at_).take n).map (Value.int .i32)) (by rw [List.length_map, HC.out]; simp) (fun _ => ⟨rfl, _, rfl, (fun j v hj => by
      obtain ⟨h1, rfl⟩ := getElem_map_int hj
      have hadd : (⟨b, at_, none⟩ : Addr).add j = ⟨b, at_ + j, none⟩ := by unfold Addr.add; split <;> simp_all
      have := HC.out
      rw [hadd, gi_take (by omega), gi_drop]; exact H2.out.cell (at_ + j) (by omega))⟩) (by simp; omega) (one_map _) w.heap.size w O2.out (Nat.le_refl _) ?_; intro w3 h3 b3
  go_wp2_with fail
  go_ret
  exact ⟨_, rfl, b3, runes_of_row h3.out HC.out (by omega)⟩

theorem rslice_bwd (p b c at_ n : Nat) (l : List Int) (kv : Value) (w : World) (hp : PB w p (.slice (some ⟨b, 0, none⟩) l.length c) (.int .i64 at_) kv) (hL : LB w b c l) (h : n ≤ at_) (ha : at_ ≤ l.length) (hl : l.length ≤ 2147483647) (hn : 0 < n) :
    Calls Try.prog 10 #[.pointer (some ⟨p, 0, none⟩), .int .i64 (-(n : Int))] w fun e w' => ∃ v, e = .returned v ∧ Old w w' ∧ RunesAt w' v ((l.drop (at_ - n)).take n) := by
  have HP := Lib.hid hp
  have HL := Lib.hid hL
  have c0 := hp.c0
  have c1 := hp.c1
  have hc := hL.cap
  obtain ⟨hc1, hc2⟩ := hc
  unfold maxLen at hc2
  clear hp hL
  have d1 : decide (-(n : Int) > 0) = false := by simp
  obtain ⟨m, hm⟩ : ∃ m, at_ = m + n := ⟨at_ - n, by omega⟩
  have hmn : at_ - n = m := by omega
  rw [hmn]
  subst hm
  clear hmn h
  have e1 : IntKind.i64.wrap ((m : Int) + n + -(n : Int)) = m := by rw [Int.add_neg_cancel_right]; exact IntWalk.i64_in _ (by omega)
  have e2 : 0 ≤ (m : Int) + n := by omega
  have e4 : ((m : Int) + n).toNat = m + n := by omega
  have e3 : (m : Int) + n ≤ c := by omega
  have e5 : ¬ c = m := by omega
  go_enter Try.func10, Try.ntmps10
  go_wp2_with (at_make; refine wpList_make_runes rfl _ _ 29 21 rfl (by kernel_rfl) (by kernel_rfl) _ _ _ _ n rfl rfl rfl rfl (by omega) ?_; intro w1 z1 o1; have O1 := Lib.hid o1; have c10 := (o1.cell HP.out.lt).trans c0; have c11 := (o1.cell HP.out.lt).trans c1; clear o1 c0 c1)
  go_still_tail 16, (by kernel_rfl)
  change wpList _ _ _ _ _ w1.drew
  have Z2 : Hid (w1.drew.heap[w.heap.size]? = some (.cells (List.replicate n (Value.int .i32 0)).toArray 21)) := z1
  have O2 := Lib.hid (O1.out.trans (Old.drew w1))
  clear O1 z1 c10 c11
  generalize w1.drew = w2 at Z2 O2 ⊢
  have HC : Hid (((l.drop m).take n).length = n) := by unfold Hid; simp; omega
  have H2 := Lib.hid (HL.out.old O2.out)
  refine wpList_copy_splice rfl _ _ 29 29 rfl 21 Try.underlying29 (by kernel_rfl) (some ⟨w.heap.size, 0, none⟩) (some ⟨b, m, none⟩) n n n (c - m) rfl rfl w.heap.size 0 _ 21 Z2.out (((l.drop m).take n).map (Value.int .i32)) (by rw [List.length_map, HC.out]; simp) (fun _ => ⟨rfl, _, rfl, (fun j v hj => by
      obtain ⟨h1, rfl⟩ := getElem_map_int hj
      have hadd : (⟨b, m, none⟩ : Addr).add j = ⟨b, m + j, none⟩ := by unfold Addr.add; split <;> simp_all
      have := HC.out
      rw [hadd, gi_take (by omega), gi_drop]; exact H2.out.cell (m + j) (by omega))⟩) (by simp; omega) (one_map _) w.heap.size w O2.out (Nat.le_refl _) ?_; intro w3 h3 b3
  go_wp2_with fail
  go_ret
  exact ⟨_, rfl, b3, runes_of_row h3.out HC.out (by omega)⟩
end Go.Proofs.Ytlfmmmbafkelhaa
