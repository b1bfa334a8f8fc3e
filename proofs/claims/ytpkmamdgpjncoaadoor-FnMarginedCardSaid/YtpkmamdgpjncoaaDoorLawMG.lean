/- The law FnMargined, walked. -/
import Derived.Test.YtpkmamdgpjncoaaDoorMarh
import Derived.Test.YtpkmamdgpjncoaaDoorSpecP
import Derived.Test.YtpkmamdgpjncoaaDoorLawPA
namespace Go.Proofs.YtpkmamdgpjncoaaDoor
open Go.RowKit
set_option linter.unusedVariables false
set_option linter.unusedSimpArgs false
set_option linter.unnecessarySimpa false
set_option maxRecDepth 100000

theorem p16_iffM {s : ByteArray} : p16B s = true ↔ s.size ≤ 2000 ∧ plain s := by unfold p16B; simp
theorem padE_T (n : Nat) : ∀ (l o : List UInt8) (k : Nat), padE n (l.foldl (padS n) (o, k)) = o ++ padT blk n k l
  | [], o, k => by
    show (if k = 0 then o else o ++ blk (n - k)) = o ++ (if k = 0 then [] else blk (n - k))
    by_cases h : k = 0 <;> simp [h]
  | c :: l, o, k => by
    rw [List.foldl_cons]
    by_cases hc : c = 10
    · have e : padS n (o, k) c = (o ++ blk (n - k) ++ [10], 0) := by unfold padS; rw [if_pos hc]
      rw [e, padE_T n l]
      show _ = o ++ (if c = 10 then blk (n - k) ++ 10 :: padT blk n 0 l else _)
      rw [if_pos hc]
      simp
    · have e : padS n (o, k) c = (o ++ [c], k + 1) := by unfold padS; rw [if_neg hc]
      rw [e, padE_T n l]
      show _ = o ++ (if c = 10 then _ else c :: padT blk n (k + 1) l)
      rw [if_neg hc]
      simp
theorem padM_T (n : Nat) (l : List UInt8) : padM n l = joinN (mapRows (fun x => x ++ blk (n - x.length)) (splitL l)) := by
  rw [← padT_all]
  unfold padM padR
  rw [padE_T]
  rfl
theorem ind_join (n : Nat) (d : List UInt8) : (indR (blk n) d).1 = joinN (mapRows (fun y => blk n ++ y) (splitL d)) := by rw [indR_all, indT_all]
theorem indT_len (x : List UInt8) : ∀ (l : List UInt8) (s : Bool), (indT x s l).length ≤ l.length + l.length * x.length
  | [], s => by simp [indT]
  | c :: l, s => by
    have ih := indT_len x l (decide (c ≠ 10))
    show ((if s then [] else x) ++ c :: indT x (decide (c ≠ 10)) l).length ≤ _
    rw [List.length_append, List.length_cons, List.length_cons, Nat.add_mul, Nat.one_mul]
    generalize l.length * x.length = z at ih ⊢
    cases s
    · simp only [Bool.false_eq_true, if_false]; omega
    · simp only [if_true, List.length_nil]; omega
theorem indT_pln {x : List UInt8} (hx : pln x) : ∀ (l : List UInt8) (s : Bool), pln l → pln (indT x s l)
  | [], s, _ => by intro c hc; simp [indT] at hc
  | c :: l, s, h => by
    have ih := indT_pln hx l (decide (c ≠ 10)) (fun y hy => h y (List.mem_cons_of_mem _ hy))
    have hc := h c (by simp)
    intro y hy
    have hy2 : y ∈ (if s then [] else x) ++ c :: indT x (decide (c ≠ 10)) l := hy
    rcases List.mem_append.1 hy2 with hy3 | hy3
    · cases s
      · exact hx y hy3
      · cases hy3
    · rcases List.mem_cons.1 hy3 with rfl | hy4
      · exact hc
      · exact ih y hy4
theorem blk_cnt (n : Nat) : (blk n).countP nl = 0 := by
  rw [List.countP_eq_zero]
  intro a ha
  have := List.eq_of_mem_replicate ha
  subst this
  decide
theorem indT_cnt (n : Nat) : ∀ (l : List UInt8) (s : Bool), (indT (blk n) s l).countP nl = l.countP nl
  | [], s => rfl
  | c :: l, s => by
    have ih := indT_cnt n l (decide (c ≠ 10))
    show ((if s then [] else blk n) ++ c :: indT (blk n) (decide (c ≠ 10)) l).countP nl = _
    rw [List.countP_append, List.countP_cons, List.countP_cons, ih]
    cases s <;> simp [blk_cnt]
theorem padR_cnt (n : Nat) (l : List UInt8) : (padR n l).1.length ≤ l.length + l.countP nl * n := by
  have h : ∀ (l o : List UInt8) (k : Nat), (l.foldl (padS n) (o, k)).1.length ≤ o.length + l.length + l.countP nl * n := by
    intro l
    induction l with
    | nil => intro o k; simp
    | cons c l ih =>
      intro o k
      rw [List.foldl_cons, List.countP_cons, List.length_cons]
      by_cases hc : c = 10
      · have e : padS n (o, k) c = (o ++ blk (n - k) ++ [10], 0) := by unfold padS; rw [if_pos hc]
        have e2 : nl c = true := by rw [hc]; decide
        rw [e, e2]
        have := ih (o ++ blk (n - k) ++ [10]) 0
        simp only [List.length_append, blk_len, List.length_singleton, if_true, Nat.add_mul, Nat.one_mul] at this ⊢
        omega
      · have e : padS n (o, k) c = (o ++ [c], k + 1) := by unfold padS; rw [if_neg hc]
        rw [e]
        have := ih (o ++ [c]) (k + 1)
        have e3 : (if nl c = true then 1 else 0) * n = 0 := by
          have : nl c = false := by unfold nl; simp [hc]
          rw [this]; simp
        rw [Nat.add_mul, e3]
        simp only [List.length_append, List.length_singleton] at this
        omega
  have := h l [] 0
  simpa [padR] using this
theorem mg_sizes {width n : Nat} {d : List UInt8} (h1 : pln d) (h2 : d.length ≤ 2000) (h3 : n ≤ 50) (h4 : width ≤ 200) : mgOk width n d ∧ (indR (blk n) d).1.length ≤ 200000 ∧ (padM width (indR (blk n) d).1).length ≤ 1000000 := by
  have L : ∀ i, (indR (blk n) (d.take i)).1.length ≤ 102000 := by
    intro i
    rw [indR_all]
    have := indT_len (blk n) (d.take i) false
    rw [blk_len] at this
    have hi : (d.take i).length ≤ 2000 := by rw [List.length_take]; omega
    have hm : (d.take i).length * n ≤ 2000 * 50 := Nat.mul_le_mul hi h3
    omega
  have L0 : (indR (blk n) d).1.length ≤ 102000 := by have := L d.length; rwa [List.take_length] at this
  have C : (indR (blk n) d).1.countP nl ≤ 2000 := by
    rw [indR_all, indT_cnt]
    have := List.countP_le_length (p := nl) (l := d)
    omega
  have P : (padR width (indR (blk n) d).1).1.length ≤ 502000 := by
    have := padR_cnt width (indR (blk n) d).1
    have hm : (indR (blk n) d).1.countP nl * width ≤ 2000 * 200 := Nat.mul_le_mul C h4
    omega
  have Q : (padM width (indR (blk n) d).1).length ≤ 502200 := by
    unfold padM padE
    split
    · omega
    · rw [List.length_append, blk_len]; omega
  refine ⟨⟨h1, by omega, fun i _ => by have := L i; omega, ?_, by omega, by omega, fun i _ => by have := padR_mono width (indR (blk n) d).1 i; omega, by omega⟩, by omega, by omega⟩
  rw [indR_all]
  exact indT_pln (pln_blk n) d false h1
theorem mar_a : marM 3 1 [97] = [32, 97, 32] := rfl
set_option maxHeartbeats 4000000 in
theorem mg_main (d : List UInt8) (a b : Nat) (w : World) (h1 : pln d) (h2 : d.length ≤ 2000) (ha : a ≤ 200) (hb : b ≤ 50) (hS : p16B ⟨d.toArray⟩ = true) :
    Calls Tryd.prog 7 #[.string ⟨d.toArray⟩, .int .u8 a, .int .u8 b] w fun e w' => e = .returned (.bool true) ∧ Old w w' := by
  have hsz : (⟨d.toArray⟩ : ByteArray).size = d.length := by simp [ByteArray.size]
  obtain ⟨k1, k2, k3⟩ := mg_sizes h1 h2 hb ha
  have K1 := Lib.hid k1
  have K4 : Hid (mgOk 3 1 [97]) := (mg_sizes (pln_one (.inr ⟨by decide, by decide⟩)) (by simp) (by omega) (by omega)).1
  have e1 := ind_join b d
  have e2 := padM_T a (indR (blk b) d).1
  have E1 := Lib.hid e1
  have E2 := Lib.hid e2
  have SI : Hid (∀ w, Calls Tryd.prog 24 #[.string ⟨d.toArray⟩, .int .i64 b] w fun e w' => e = .returned (.string ⟨((indR (blk b) d).1).toArray⟩) ∧ Old w w') := fun w => by
    rw [e1]
    exact si_any b d w (by omega) (by omega) (by rw [← e1]; omega)
  have SP : Hid (∀ w, Calls Tryd.prog 23 #[.string ⟨((indR (blk b) d).1).toArray⟩, .int .i64 a] w fun e w' => e = .returned (.string ⟨(marM a b d).toArray⟩) ∧ Old w w') := fun w => by
    unfold marM
    rw [e2]
    exact sp_any a _ w (by omega) (by omega) (by rw [← e2]; omega)
  have E4 := Lib.hid mar_a
  have d1 : decide (((⟨d.toArray⟩ : ByteArray).size : Int) > 2147483647) = false := by rw [hsz]; simp; omega
  have d2 : decide ((a : Int) > 200) = false := by simp; omega
  have d3 : decide ((b : Int) > 50) = false := by simp; omega
  have wa : IntKind.u64.wrap (a : Int) = a := by have := IntKind.wrap_u64 (a : Int); rw [this]; omega
  have wb : IntKind.u64.wrap (b : Int) = b := by have := IntKind.wrap_u64 (b : Int); rw [this]; omega
  have wc : IntKind.i64.wrap (a : Int) = a := by have := IntKind.wrap_i64 (a : Int); rw [this]; omega
  have wd : IntKind.i64.wrap (b : Int) = b := by have := IntKind.wrap_i64 (b : Int); rw [this]; omega
  clear h1 e1 e2 k1
  go_enter Tryd.func7, Tryd.ntmps7
  go_wp2_with (first
    | (go_at_call 18; refine (p16_any _ _ (by rw [hsz]; omega)).mono ?_; rintro e w1 ⟨rfl, rfl⟩; rw [hS])
    | (go_at_call 22; with_reducible refine (imr_any a b d w (by omega) K1.out).mono ?_; rintro e w2 ⟨rfl, o2⟩; have O2 := Lib.hid o2; clear o2)
    | (go_at_call 24; with_reducible refine (SI.out w2).mono ?_; rintro e w3 ⟨rfl, o3⟩; have O3 := Lib.hid (O2.out.trans o3); clear o3)
    | (go_at_call 23; with_reducible refine (SP.out w3).mono ?_; rintro e w4 ⟨rfl, o4⟩; have O4 := Lib.hid (O3.out.trans o4); clear o4)
    | (go_at_call 22; refine (imr_any 3 1 [97] w4 (by simp) K4.out).mono ?_; rintro e w5 ⟨rfl, o5⟩; rw [E4.out]; have O5 := Lib.hid (O4.out.trans o5); clear o5))
  go_ret
  exact ⟨rfl, O5.out⟩
set_option maxHeartbeats 4000000 in
theorem lawMG_any (s : ByteArray) (x y : Int) (w : World) (hs : s.size ≤ 140737488351232) (hx : (Lit.int .u8 x).wf = true) (hy : (Lit.int .u8 y).wf = true) :
    Calls Tryd.prog 7 #[.string s, .int .u8 x, .int .u8 y] w fun e w' => e = .returned (.bool true) ∧ Below w.heap.size w w' := by
  obtain ⟨a, rfl, ha⟩ := u8_nat hx
  obtain ⟨b, rfl, hb⟩ := u8_nat hy
  clear hx hy
  by_cases h1 : s.size ≤ 2147483647
  · have d1 : decide ((s.size : Int) > 2147483647) = false := by simp; omega
    by_cases h2 : p16B s = true
    · by_cases h3 : a ≤ 200
      · by_cases h4 : b ≤ 50
        · obtain ⟨k1, k2⟩ := p16_iffM.1 h2
          obtain ⟨d, rfl⟩ : ∃ d : List UInt8, s = ⟨d.toArray⟩ := ⟨s.data.toList, by cases s; simp⟩
          refine (mg_main d a b w ?_ ?_ h3 h4 h2).mono (fun e w' h => h)
          · exact plain_pln k2
          · simpa [ByteArray.size] using k1
        · have d2 : decide ((a : Int) > 200) = false := by simp; omega
          have d3 : decide ((b : Int) > 50) = true := by simp; omega
          have H2 := Lib.hid h2
          clear h2
          go_enter Tryd.func7, Tryd.ntmps7
          go_wp2_with (go_at_call 18; refine (p16_any s w h1).mono ?_; rintro e w1 ⟨rfl, rfl⟩; rw [H2.out])
          go_ret
          exact ⟨rfl, Below.refl _ _⟩
      · have d2 : decide ((a : Int) > 200) = true := by simp; omega
        have H2 := Lib.hid h2
        clear h2
        go_enter Tryd.func7, Tryd.ntmps7
        go_wp2_with (go_at_call 18; refine (p16_any s w h1).mono ?_; rintro e w1 ⟨rfl, rfl⟩; rw [H2.out])
        go_ret
        exact ⟨rfl, Below.refl _ _⟩
    · have h2 : p16B s = false := by simpa using h2
      have H2 := Lib.hid h2
      clear h2
      go_enter Tryd.func7, Tryd.ntmps7
      go_wp2_with (go_at_call 18; refine (p16_any s w h1).mono ?_; rintro e w1 ⟨rfl, rfl⟩; rw [H2.out])
      go_ret
      exact ⟨rfl, Below.refl _ _⟩
  · have d1 : decide ((s.size : Int) > 2147483647) = true := by simp; omega
    go_enter Tryd.func7, Tryd.ntmps7
    go_wp2_with fail
    go_ret
    exact ⟨rfl, Below.refl _ _⟩
end Go.Proofs.YtpkmamdgpjncoaaDoor
