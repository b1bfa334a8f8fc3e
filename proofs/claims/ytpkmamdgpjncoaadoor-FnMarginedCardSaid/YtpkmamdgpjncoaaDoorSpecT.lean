/- spec.Together, spec.Blanks. -/
import Derived.Test.YtpkmamdgpjncoaaDoorSpecR
import Derived.Test.YtpkmamdgpjncoaaDoorStep
namespace Go.Proofs.YtpkmamdgpjncoaaDoor
open Go.RowKit
set_option linter.unusedVariables false
set_option linter.unusedSimpArgs false
set_option linter.unnecessarySimpa false
set_option maxRecDepth 100000

theorem cat_eq (a b : List UInt8) : (⟨a.toArray⟩ : ByteArray) ++ ⟨b.toArray⟩ = ⟨(a ++ b).toArray⟩ := tx_append a b
theorem txt_size (a : List UInt8) : (⟨a.toArray⟩ : ByteArray).size = a.length := by simp [ByteArray.size]
theorem joinN_snoc (a : List UInt8) : ∀ {t : List (List UInt8)}, t ≠ [] → joinN (t ++ [a]) = joinN t ++ 10 :: a
  | [], h => absurd rfl h
  | [b], _ => rfl
  | b :: c :: t, _ => by
    have ih := joinN_snoc a (t := c :: t) (by simp)
    show joinN (b :: ((c :: t) ++ [a])) = _
    rw [joinN_cons b (by simp), ih, joinN_cons b (by simp)]
    simp
theorem joinN_take (L : List (List UInt8)) (k : Nat) : (joinN (L.take k)).length ≤ (joinN L).length := by
  have h : ∀ (t u : List (List UInt8)), (joinN t).length ≤ (joinN (t ++ u)).length := by
    intro t u
    induction u generalizing t with
    | nil => simp
    | cons a u ih =>
      have e : t ++ a :: u = (t ++ [a]) ++ u := by simp
      rw [e]
      refine Nat.le_trans ?_ (ih (t ++ [a]))
      cases t with
      | nil => simp [joinN]
      | cons b t => rw [joinN_snoc a (by simp)]; simp
  have := h (L.take k) (L.drop k)
  rwa [List.take_append_drop] at this
theorem rowV_gv {L : List (List UInt8)} {k : Nat} (h : k < L.length) : gv (rowV L) k = .string ⟨L[k].toArray⟩ := by
  rw [gv_lt (by rw [rowV_len]; exact h)]
  simp [rowV]
set_option maxHeartbeats 2000000 in
theorem tog_any (L : List (List UInt8)) (v : Value) (base : Nat) (w : World) (own : w.ownsRow base 9 1 v L.length (rowV L)) (h1 : 1 ≤ L.length) (hl : (joinN L).length ≤ 1000000) (hL : L.length ≤ 2000000) :
    Calls Tryd.prog 32 #[v] w fun e w' => e = .returned (.string ⟨(joinN L).toArray⟩) ∧ w' = w := by
  obtain ⟨b, c, rfl⟩ := own_some own h1
  have hcap := own_lt own
  have CE : Hid (∀ k (h : k < L.length), w.cell? ⟨b, k, none⟩ = some (.string ⟨L[k].toArray⟩)) := fun k h => (own_cell own k h).trans (by rw [rowV_gv h])
  have hm := hcap.2.2.2
  have hc := hcap.2.2.1
  unfold maxLen at hm
  clear own hcap
  go_enter Tryd.func32, Tryd.ntmps32
  go_wp2_with fail
  go_loopw [3, 4] (fun ov iv wr => ∃ k : Nat, k ≤ L.length ∧ iv = .int .i64 k ∧ ov = .string ⟨(joinN (L.take k)).toArray⟩ ∧ wr = w) (fun _ iv _ => L.length - (intOf iv).toNat)
  case atStart => exact ⟨0, Nat.zero_le _, rfl, rfl, rfl⟩
  case round =>
    obtain ⟨k, hk, rfl, rfl, rfl⟩ := hrel
    by_cases hlt : k < L.length
    · have ck := CE.out k hlt
      have j1 := joinN_take L (k + 1)
      by_cases h0 : 0 < k
      · have hne : L.take k ≠ [] := by intro e; have := congrArg List.length e; rw [List.length_take, List.length_nil] at this; omega
        have e0 : joinN (L.take (k + 1)) = joinN (L.take k) ++ [10] ++ L[k] := by rw [List.take_succ_eq_append_getElem hlt, joinN_snoc _ hne]; simp
        have jl := j1
        rw [e0] at jl
        have E0 := Lib.hid e0
        have c1 := cat_eq (joinN (L.take k)) [10]
        have c2 := cat_eq (joinN (L.take k) ++ [10]) L[k]
        have s1 : ¬ 9223372036854775807 < (⟨(joinN (L.take k)).toArray⟩ : ByteArray).size + (⟨#[10]⟩ : ByteArray).size := by
          have e1 : (⟨#[10]⟩ : ByteArray).size = 1 := rfl
          rw [txt_size, e1]
          rw [List.length_append, List.length_append] at jl
          omega
        have s2 : ¬ 9223372036854775807 < (⟨(joinN (L.take k) ++ [10]).toArray⟩ : ByteArray).size + (⟨L[k].toArray⟩ : ByteArray).size := by
          rw [txt_size, txt_size]; rw [List.length_append] at jl; omega
        generalize L[k] = a at ck c2 s2 E0
        clear e0 j1 jl hne
        generalize joinN (L.take k) = x at c1 c2 s1 s2 E0 ⊢
        generalize hm1 : x ++ [10] = m1 at c1 c2 s2
        generalize hm2 : m1 ++ a = m2 at c2
        have M := Lib.hid (show m2 = joinN (L.take (k + 1)) by rw [E0.out, hm1, hm2])
        clear hm1 hm2
        go_wp2_with fail
        refine ⟨⟨k + 1, by omega, by go_num, by rw [M.out], trivial⟩, ?_⟩
        simp [intOf]; omega
      · obtain rfl : k = 0 := by omega
        have e0 : joinN (L.take (0 + 1)) = L[0] := by rw [List.take_succ_eq_append_getElem hlt]; rfl
        have E0 := Lib.hid e0
        have c1 : (⟨(joinN (L.take 0)).toArray⟩ : ByteArray) ++ ⟨L[0].toArray⟩ = ⟨L[0].toArray⟩ := by rw [cat_eq]; rfl
        have s1 : ¬ 9223372036854775807 < (⟨(joinN (L.take 0)).toArray⟩ : ByteArray).size + (⟨L[0].toArray⟩ : ByteArray).size := by
          rw [txt_size, txt_size, ← e0]
          have : (joinN (L.take 0)).length = 0 := rfl
          omega
        generalize L[0] = a at ck c1 s1 E0
        clear e0 j1
        generalize joinN (L.take 0) = x at c1 s1 ⊢
        go_wp2_with fail
        refine ⟨⟨1, by omega, by go_num, by rw [E0.out], trivial⟩, ?_⟩
        simp [intOf]; omega
    · obtain rfl : k = L.length := by omega
      rw [List.take_length]
      go_wp2_with fail
      go_ret
      exact ⟨rfl, rfl⟩
end Go.Proofs.YtpkmamdgpjncoaaDoor
