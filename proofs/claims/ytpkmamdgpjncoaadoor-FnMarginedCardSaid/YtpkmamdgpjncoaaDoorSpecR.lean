/- spec.Rows, spec.Together, spec.Blanks. -/
import Derived.Test.YtpkmamdgpjncoaaDoorProg
import Derived.Test.YtpkmamdgpjncoaaDoorApp
import Derived.Test.YtpkmamdgpjncoaaDoorPadL
import Derived.Test.YtpkmamdgpjncoaaDoorPadP
import Derived.LoopTactic
namespace Go.Proofs.YtpkmamdgpjncoaaDoor
open Go.RowKit
set_option linter.unusedVariables false
set_option linter.unusedSimpArgs false
set_option linter.unnecessarySimpa false
set_option maxRecDepth 100000

theorem info_strR : (Tryd.prog.info? 9).map (fun i => (i.zero, i.size, i.bytes)) = some (some (.string ByteArray.empty), 1, 16) := by kernel_rfl
/-- Texts as values. -/
def rowV (L : List (List UInt8)) : List Value := L.map fun a => Value.string ⟨a.toArray⟩
theorem rowV_len (L : List (List UInt8)) : (rowV L).length = L.length := by simp [rowV]
theorem rowV_snoc (L : List (List UInt8)) (a : List UInt8) : rowV L ++ [.string ⟨a.toArray⟩] = rowV (L ++ [a]) := by simp [rowV]
theorem ext_mid (d : List UInt8) (a b : Nat) : (⟨d.toArray⟩ : ByteArray).extract a b = ⟨((d.take b).drop a).toArray⟩ := by
  rw [extract_eq (⟨d.toArray⟩ : ByteArray) a b, List.drop_take]
  rfl
/-- How far spec.Rows has come. -/
def RI (d : List UInt8) (out : List (List UInt8)) (f i : Nat) : Prop := f ≤ i ∧ i ≤ d.length ∧ ∃ a t, splitL (d.drop i) = a :: t ∧ splitL d = out ++ ((d.take i).drop f ++ a) :: t
theorem splitL_some (l : List UInt8) : ∃ a t, splitL l = a :: t := by
  cases hs : splitL l with
  | nil => exact absurd hs (splitL_ne l)
  | cons a t => exact ⟨a, t, rfl⟩
theorem RI.start (d : List UInt8) : RI d [] 0 0 := by
  obtain ⟨a, t, h⟩ := splitL_some d
  exact ⟨Nat.le_refl _, Nat.zero_le _, a, t, by simpa using h, by simpa using h⟩
theorem RI.lf {d : List UInt8} {out : List (List UInt8)} {f i : Nat} (h : RI d out f i) (hi : i < d.length) (hc : d[i] = 10) : RI d (out ++ [(d.take i).drop f]) (i + 1) (i + 1) := by
  obtain ⟨h1, h2, a, t, h3, h4⟩ := h
  rw [List.drop_eq_getElem_cons hi, splitL_nl (by rw [hc]; decide)] at h3
  injection h3 with e1 e2
  subst e1 e2
  obtain ⟨a', t', h'⟩ := splitL_some (d.drop (i + 1))
  refine ⟨Nat.le_refl _, hi, a', t', h', ?_⟩
  rw [h4, h', List.append_nil]
  simp
theorem RI.other {d : List UInt8} {out : List (List UInt8)} {f i : Nat} (h : RI d out f i) (hi : i < d.length) (hc : d[i] ≠ 10) : RI d out f (i + 1) := by
  obtain ⟨h1, h2, a, t, h3, h4⟩ := h
  obtain ⟨a', t', e1, e2⟩ := splitL_cons (c := d[i]) (l := d.drop (i + 1)) (by unfold nl; simp [hc])
  rw [List.drop_eq_getElem_cons hi, e2] at h3
  injection h3 with e3 e4
  subst e3 e4
  refine ⟨by omega, hi, a', t', e1, ?_⟩
  rw [h4, List.take_succ_eq_append_getElem hi, List.drop_append_of_le_length (by simp; omega)]
  simp
theorem RI.last {d : List UInt8} {out : List (List UInt8)} {f : Nat} (h : RI d out f d.length) : splitL d = out ++ [(d.take d.length).drop f] := by
  obtain ⟨h1, h2, a, t, h3, h4⟩ := h
  rw [List.drop_length] at h3
  have e : splitL [] = [[]] := rfl
  rw [e] at h3
  injection h3 with e1 e2
  subst e1 e2
  rw [h4, List.append_nil]
theorem RI.len {d : List UInt8} {out : List (List UInt8)} {f i : Nat} (h : RI d out f i) : out.length ≤ d.length := by
  obtain ⟨h1, h2, a, t, h3, h4⟩ := h
  have e := splitL_len d
  rw [h4] at e
  have := List.countP_le_length (p := nl) (l := d)
  simp at e
  omega
set_option maxHeartbeats 4000000 in
theorem rows_any (d : List UInt8) (w : World) (hl : d.length ≤ 1000000) : Calls Tryd.prog 30 #[.string ⟨d.toArray⟩] w fun e w' => ∃ v, e = .returned v ∧ Old w w' ∧ w'.ownsRow w.heap.size 9 1 v (splitL d).length (rowV (splitL d)) := by
  have HS : (⟨d.toArray⟩ : ByteArray).size = d.length := by simp [ByteArray.size]
  have HG : Hid (∀ i (h : i < d.length) (h2 : i < (⟨d.toArray⟩ : ByteArray).size), (⟨d.toArray⟩ : ByteArray)[i]'h2 = d[i]) := fun i h h2 => rfl
  go_enter Tryd.func30, Tryd.ntmps30
  go_wp2_with fail
  go_loopw [3, 4, 5] (fun v fv iv wr => ((∃ (out : List (List UInt8)) (f i : Nat), RI d out f i ∧ fv = .int .i64 f ∧ iv = .int .i64 i ∧ wr.ownsRow w.heap.size 9 1 v out.length (rowV out)) ∨ (iv = .int .i64 (d.length + 1 : Nat) ∧ (∃ f : Nat, fv = .int .i64 f) ∧ wr.ownsRow w.heap.size 9 1 v (splitL d).length (rowV (splitL d)))) ∧ Old w wr) (fun _ _ iv _ => d.length + 1 - (intOf iv).toNat)
  case atStart => exact ⟨.inl ⟨[], 0, 0, RI.start d, rfl, rfl, ⟨rfl, .inl ⟨rfl, rfl⟩⟩⟩, Old.refl _⟩
  case round =>
    obtain ⟨hcase, hold⟩ := hrel
    have OO := Lib.hid hold
    clear hold
    rcases hcase with ⟨out, f, i, hri, rfl, rfl, hown⟩ | ⟨rfl, ⟨f, rfl⟩, hown⟩
    · have OW := Lib.hid hown
      have RR := Lib.hid hri
      have hil := hri.2.1
      have hfi := hri.1
      have hol := hri.len
      have hcap : f ≤ d.length := by omega
      have EX := ext_mid d f i
      clear hown hri
      by_cases hlt : i < d.length
      · have hg := HG.out i hlt (by rw [HS]; exact hlt)
        by_cases hc : d[i] = 10
        · have R2 := Lib.hid (RR.out.lf hlt hc)
          have SN := Lib.hid (rowV_snoc out ((d.take i).drop f))
          have hgn : (((⟨d.toArray⟩ : ByteArray)[i]'(by rw [HS]; exact hlt)).toNat : Int) = 10 := by rw [hg, hc]; rfl
          generalize (d.take i).drop f = x at EX R2 SN
          clear hg hc
          go_wp2_with (at_builtin; refine wpList_append1 rfl _ _ 28 9 9 (.string ByteArray.empty) _ 16 rfl Tryd.underlying28 info_strR rfl w.heap.size _ out.length _ rfl OW.out rfl rfl (by omega) (by omega) OO.out.size ?_; intro v' w5 hown1 hg1 hv1; obtain ⟨tb', tc', rfl⟩ := hv1; have OW2 := Lib.hid hown1; have O2 := Lib.hid (OO.out.own (Nat.le_refl _) OW.out hg1); clear hown1 hg1)
          refine ⟨⟨.inl ⟨_, i + 1, i + 1, R2.out, by go_num, by go_num, by rw [← SN.out]; simpa using OW2.out⟩, O2.out⟩, ?_⟩
          simp [intOf]; omega
        · have R2 := Lib.hid (RR.out.other hlt hc)
          have hgn : ((((⟨d.toArray⟩ : ByteArray)[i]'(by rw [HS]; exact hlt)).toNat : Int) == 10) = false := by
            rw [hg, beq_eq_false_iff_ne]
            intro e
            apply hc
            exact UInt8.toNat_inj.1 (by have : (d[i].toNat : Int) = ((10 : Nat) : Int) := e; exact_mod_cast this)
          clear hg hc
          go_wp2_with fail
          refine ⟨⟨.inl ⟨out, f, i + 1, R2.out, rfl, by go_num, OW.out⟩, OO.out⟩, ?_⟩
          simp [intOf]; omega
      · obtain rfl : i = d.length := by omega
        have R2 := Lib.hid RR.out.last
        have SN := Lib.hid (rowV_snoc out ((d.take d.length).drop f))
        generalize (d.take d.length).drop f = x at EX R2 SN
        go_wp2_with (at_builtin; refine wpList_append1 rfl _ _ 28 9 9 (.string ByteArray.empty) _ 16 rfl Tryd.underlying28 info_strR rfl w.heap.size _ out.length _ rfl OW.out rfl rfl (by omega) (by omega) OO.out.size ?_; intro v' w5 hown1 hg1 hv1; obtain ⟨tb', tc', rfl⟩ := hv1; have OW2 := Lib.hid hown1; have O2 := Lib.hid (OO.out.own (Nat.le_refl _) OW.out hg1); clear hown1 hg1)
        refine ⟨⟨.inr ⟨by go_num, ⟨d.length + 1, by go_num⟩, by rw [R2.out, ← SN.out]; simpa using OW2.out⟩, O2.out⟩, ?_⟩
        (try simp [intOf]) <;> omega
    · have OW := Lib.hid hown
      clear hown
      go_wp2_with fail
      go_ret
      exact ⟨_, rfl, OO.out, OW.out⟩
end Go.Proofs.YtpkmamdgpjncoaaDoor
