/- goprompt.FormatSuggestions; impl.suggestions, impl.picks. -/
import Derived.Test.YtalkikljjffpmaaFms
import Derived.Test.YtalkikljjffpmaaAppNew
import Derived.Test.YtalkikljjffpmaaRows4
import Derived.Deep.Cut
namespace Go.Proofs.Ytalkikljjffpmaa
open Go.RowKit
set_option linter.unusedVariables false
set_option linter.unusedSimpArgs false
set_option linter.unnecessarySimpa false
set_option maxRecDepth 100000

theorem fm_any (v : Value) (L : List (Bs × Bs)) (m : Int) (w : World) (hr : PR w v L) (hp : ∀ p ∈ L, prT p.1 ∧ prT p.2 ∧ p.1.length ≤ 100 ∧ p.2.length ≤ 100) (hn : L.length ≤ 1000) (hm1 : 0 ≤ m) (hm2 : m ≤ 500) :
    Calls Try.prog 13 #[v, .int .i64 m] w fun e w' => ∃ v', e = .returned (.tuple #[v', .int .i64 (fmN L m)]) ∧ Old w w' ∧ PR w' v' (fmT L m) := by
  have H := fms_any v L m w hr hp hn hm1 hm2
  have HH := Lib.hid H
  obtain ⟨ad, c, rfl, -⟩ := hr
  clear H hp
  go_enter Try.func13, Try.ntmps13
  go_wp2_with (go_at_call 17; refine HH.out.mono ?_; rintro e w1 ⟨v', rfl, o1, t1⟩; have O1 := Lib.hid o1; have T1 := Lib.hid t1; clear o1 t1)
  go_ret2
  exact ⟨_, rfl, O1.out, T1.out⟩
theorem pairVs_app : ∀ (a b : List (Bs × Bs)), pairVs (a ++ b) = pairVs a ++ pairVs b
  | [], b => rfl
  | p :: a, b => by simp only [List.cons_append, pairVs, pairVs_app a b]
theorem PR.of_own {w : World} {base : Nat} {e : TypeId} {v : Value} {L : List (Bs × Bs)} {n : Nat} (h : w.ownsRow base e 2 v n (pairVs L)) (hn : n = L.length) : PR w v L := by
  subst hn
  obtain ⟨-, ⟨rfl, h⟩ | ⟨g, cap, cur, rfl, h1, h2, h3, h4, h5, h6⟩⟩ := h
  · exact ⟨none, 0, by rw [h], by omega, by unfold maxLen; omega, fun j hj => absurd hj (by omega)⟩
  · have hg : ∀ q, q < L.length * 2 → w.cell? ⟨g, q, none⟩ = (pairVs L)[q]? := fun q hq => by
      unfold World.cell?
      rw [h2, ← h6, List.getElem?_take_of_lt hq]
      simp
    refine ⟨_, _, rfl, h3, h4, fun j hj => ⟨g, 0, rfl, (Array.getElem?_eq_some_iff.1 h2).1, ?_, ?_⟩⟩
    · rw [Nat.zero_add, hg _ (by omega)]; exact (pairVs_get L j hj).1
    · rw [Nat.zero_add, hg _ (by omega)]; exact (pairVs_get L j hj).2
theorem info_pickQ : (Try.prog.info? 26).map (fun i => (i.zero, i.size, i.bytes)) = some (some (.agg #[.string ByteArray.empty, .string ByteArray.empty]), 2, 32) := by kernel_rfl
theorem pairVs_take {L : List (Bs × Bs)} {k : Nat} (h : k < L.length) : pairVs (L.take k) ++ [.string (tx L[k].1), .string (tx L[k].2)] = pairVs (L.take (k + 1)) := by
  rw [List.take_succ_eq_append_getElem h, pairVs_app]; rfl
set_option maxHeartbeats 2000000 in
theorem sg_any (v : Value) (L : List (Bs × Bs)) (w : World) (hr : PR w v L) (hn : L.length ≤ 1000) :
    Calls Try.prog 14 #[v] w fun e w' => ∃ v', e = .returned v' ∧ Old w w' ∧ PR w' v' L := by
  have HR := Lib.hid hr
  obtain ⟨ad, c, rfl, h1, h2, -⟩ := hr
  go_enter Try.func14, Try.ntmps14
  go_wp2_with fail
  go_loopw [3, 8] (fun out iv wr => ∃ k : Nat, k ≤ L.length ∧ iv = .int .i64 k ∧ wr.ownsRow w.heap.size 43 2 out k (pairVs (L.take k)) ∧ Old w wr) (fun _ iv _ => L.length - (intOf iv).toNat)
  case atStart => exact ⟨0, Nat.zero_le _, rfl, ⟨rfl, .inl ⟨rfl, rfl⟩⟩, Old.refl _⟩
  case round =>
    obtain ⟨k, hk, rfl, hown, hold⟩ := hrel
    have OW := Lib.hid hown
    have OO := Lib.hid hold
    clear hown hold
    by_cases hkn : k < L.length
    · obtain ⟨b, o, rfl, hb, c1, c2⟩ := (HR.out.old OO.out).at_ hkn
      have PT := Lib.hid (pairVs_take hkn)
      generalize L[k].1 = x at c1 PT
      generalize L[k].2 = y at c2 PT
      go_upto_region 5 with fail
      have oa : Old wr (wr.alloc (.cells #[.string (tx x), .string (tx y)] 26)) := Old.alloc _ _
      have na := heap_alloc_new wr (.cells #[.string (tx x), .string (tx y)] 26)
      have x0 := (bcell4 na 0).trans rfl
      have x1 := (bcell4 na 1).trans rfl
      have OA := Lib.hid (OO.out.trans oa)
      have WA := Lib.hid (own_old OW.out oa)
      generalize wr.alloc (.cells #[.string (tx x), .string (tx y)] 26) = wa at x0 x1 OA WA ⊢
      clear na oa c1 c2
      generalize wr.heap.size = g at x0 x1 ⊢
      go_wp2_with (at_builtin; refine wpList_append_new rfl _ _ 38 43 _ (.agg #[.string ByteArray.empty, .string ByteArray.empty]) 2 32 rfl Try.underlying38 info_sugQ rfl (by decide) w.heap.size _ k _ rfl WA.out 1 #[.string (tx x), .string (tx y)] rfl (by decide) rfl (by intro z hz; simp at hz; rcases hz with rfl | rfl <;> rfl) (by omega) (by omega) OA.out.size ?_; intro v' w5 hown1 hg1 hv1; obtain ⟨tb', tc', rfl, hat⟩ := hv1; have OW5 := Lib.hid hown1; have O5 := Lib.hid (OA.out.own (Nat.le_refl _) WA.out hg1); clear hown1 hg1 hat)
      refine ⟨⟨k + 1, by omega, by go_num, by rw [← PT.out]; exact OW5.out, O5.out⟩, ?_⟩
      simp [intOf]; omega
    · obtain rfl : k = L.length := by omega
      rw [List.take_length] at OW
      go_wp2_with fail
      go_ret
      exact ⟨_, rfl, OO.out, PR.of_own OW.out rfl⟩
set_option maxHeartbeats 2000000 in
theorem pk_any (v : Value) (L : List (Bs × Bs)) (w : World) (hr : PR w v L) (hn : L.length ≤ 1000) :
    Calls Try.prog 15 #[v] w fun e w' => ∃ v', e = .returned v' ∧ Old w w' ∧ PR w' v' L := by
  have HR := Lib.hid hr
  obtain ⟨ad, c, rfl, h1, h2, -⟩ := hr
  go_enter Try.func15, Try.ntmps15
  go_wp2_with fail
  go_loopw [3, 8] (fun out iv wr => ∃ k : Nat, k ≤ L.length ∧ iv = .int .i64 k ∧ wr.ownsRow w.heap.size 26 2 out k (pairVs (L.take k)) ∧ Old w wr) (fun _ iv _ => L.length - (intOf iv).toNat)
  case atStart => exact ⟨0, Nat.zero_le _, rfl, ⟨rfl, .inl ⟨rfl, rfl⟩⟩, Old.refl _⟩
  case round =>
    obtain ⟨k, hk, rfl, hown, hold⟩ := hrel
    have OW := Lib.hid hown
    have OO := Lib.hid hold
    clear hown hold
    by_cases hkn : k < L.length
    · obtain ⟨b, o, rfl, hb, c1, c2⟩ := (HR.out.old OO.out).at_ hkn
      have PT := Lib.hid (pairVs_take hkn)
      generalize L[k].1 = x at c1 PT
      generalize L[k].2 = y at c2 PT
      go_upto_region 5 with fail
      have oa : Old wr (wr.alloc (.cells #[.string (tx x), .string (tx y)] 43)) := Old.alloc _ _
      have na := heap_alloc_new wr (.cells #[.string (tx x), .string (tx y)] 43)
      have x0 := (bcell4 na 0).trans rfl
      have x1 := (bcell4 na 1).trans rfl
      have OA := Lib.hid (OO.out.trans oa)
      have WA := Lib.hid (own_old OW.out oa)
      generalize wr.alloc (.cells #[.string (tx x), .string (tx y)] 43) = wa at x0 x1 OA WA ⊢
      clear na oa c1 c2
      generalize wr.heap.size = g at x0 x1 ⊢
      go_wp2_with (at_builtin; refine wpList_append_new rfl _ _ 22 26 _ (.agg #[.string ByteArray.empty, .string ByteArray.empty]) 2 32 rfl Try.underlying22 info_pickQ rfl (by decide) w.heap.size _ k _ rfl WA.out 1 #[.string (tx x), .string (tx y)] rfl (by decide) rfl (by intro z hz; simp at hz; rcases hz with rfl | rfl <;> rfl) (by omega) (by omega) OA.out.size ?_; intro v' w5 hown1 hg1 hv1; obtain ⟨tb', tc', rfl, hat⟩ := hv1; have OW5 := Lib.hid hown1; have O5 := Lib.hid (OA.out.own (Nat.le_refl _) WA.out hg1); clear hown1 hg1 hat)
      refine ⟨⟨k + 1, by omega, by go_num, by rw [← PT.out]; exact OW5.out, O5.out⟩, ?_⟩
      simp [intOf]; omega
    · obtain rfl : k = L.length := by omega
      rw [List.take_length] at OW
      go_wp2_with fail
      go_ret
      exact ⟨_, rfl, OO.out, PR.of_own OW.out rfl⟩
end Go.Proofs.Ytalkikljjffpmaa
