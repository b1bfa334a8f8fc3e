/- spec.Padded, spec.Indented. -/
import Derived.Test.YtpkmamdgpjncoaaDoorSpecB
import Derived.StillTailTactics
import Derived.Deep.RegionWith
namespace Go.Proofs.YtpkmamdgpjncoaaDoor
open Go.RowKit
set_option linter.unusedVariables false
set_option linter.unusedSimpArgs false
set_option linter.unnecessarySimpa false
set_option maxRecDepth 100000

theorem txt_list (a : List UInt8) : (⟨a.toArray⟩ : ByteArray).toList = a := by rw [ByteArray.toList_eq]
theorem nil_list : (⟨#[]⟩ : ByteArray).toList = [] := by rw [ByteArray.toList_eq]
theorem row_cell {w : World} {base b c : Nat} {g : List UInt8 → List UInt8} {L : List (List UInt8)} {k : Nat} (own : w.ownsRow base 9 1 (.slice (some ⟨b, 0, none⟩) L.length c) L.length (rowV (preR g L k))) (h : k < L.length) : w.cell? ⟨b, k, none⟩ = some (.string ⟨L[k].toArray⟩) := by
  rw [own_cell own k h, rowV_gv (by rw [preR_len]; exact h), preR_at g h]
theorem row_step {w w4 : World} {base b c : Nat} {g : List UInt8 → List UInt8} {L : List (List UInt8)} {k : Nat} (own : w.ownsRow base 9 1 (.slice (some ⟨b, 0, none⟩) L.length c) L.length (rowV (preR g L k))) (o : Old w w4) (h : k < L.length) (hg : k + 1 < L.length ∨ L[k] ≠ []) :
    (w4.setCell ⟨b, k, none⟩ (.string ⟨(g L[k]).toArray⟩)).ownsRow base 9 1 (.slice (some ⟨b, 0, none⟩) L.length c) L.length (rowV (preR g L (k + 1))) := by
  have o4 := fown_same (w' := w4) own (fun q hq => o.heap (fown_lt own hq).2)
  have e := own_set (k := k) o4 (.string ⟨(g L[k]).toArray⟩)
  rw [rowV_set] at e
  rw [preR_succ g h, mapRows_at g h, if_pos hg]
  exact e
theorem row_skip {g : List UInt8 → List UInt8} {L : List (List UInt8)} {k : Nat} (h : k < L.length) (hg : ¬ (k + 1 < L.length ∨ L[k] ≠ [])) : preR g L (k + 1) = preR g L k := by
  have he : L[k] = [] := by
    by_cases e : L[k] = []
    · exact e
    · exact absurd (.inr e) hg
  rw [preR_succ g h, mapRows_at g h, if_neg hg]
  have e2 := preR_at g h (by rw [preR_len]; exact h)
  rw [he] at e2
  rw [← e2, List.set_getElem_self]
theorem join_at (g : List UInt8 → List UInt8) {L : List (List UInt8)} {k : Nat} (h : k < L.length) (hg : k + 1 < L.length ∨ L[k] ≠ []) : (g L[k]).length ≤ (joinN (mapRows g L)).length := by
  have h2 : k < (mapRows g L).length := by rw [mapRows_len]; exact h
  have e : (mapRows g L)[k] = g L[k] := by rw [mapRows_at g h h2, if_pos hg]
  have j1 := joinN_take (mapRows g L) (k + 1)
  rw [List.take_succ_eq_append_getElem h2, e] at j1
  by_cases h0 : (mapRows g L).take k = []
  · rw [h0] at j1
    exact j1
  · rw [joinN_snoc _ h0] at j1
    simp at j1
    omega
set_option maxHeartbeats 4000000 in
theorem sp_any (width : Nat) (d : List UInt8) (w : World) (hw : width ≤ 1000) (hd : d.length ≤ 1000000) (hj : (joinN (mapRows (fun a => a ++ blk (width - a.length)) (splitL d))).length ≤ 1000000) :
    Calls Tryd.prog 23 #[.string ⟨d.toArray⟩, .int .i64 width] w fun e w' => e = .returned (.string ⟨(joinN (mapRows (fun a => a ++ blk (width - a.length)) (splitL d))).toArray⟩) ∧ Old w w' := by
  have hL1 := splitL_pos d
  have hL2 : (splitL d).length ≤ 1000001 := by have := splitL_len d; have := List.countP_le_length (p := nl) (l := d); omega
  obtain ⟨g, hg⟩ : ∃ g : List UInt8 → List UInt8, g = fun a => a ++ blk (width - a.length) := ⟨_, rfl⟩
  rw [← hg] at hj ⊢
  have HG := Lib.hid hg
  have HJ := Lib.hid hj
  have RW := Lib.hid (rows_any d w hd)
  generalize hLL : splitL d = L at hL1 hL2 HJ RW ⊢
  clear hLL hg hj
  go_enter Tryd.func23, Tryd.ntmps23
  go_wp2_with (go_at_call 30
               refine RW.out.mono ?_
               rintro e w1 ⟨v, rfl, o1, own⟩
               obtain ⟨b, c, rfl⟩ := own_some own hL1
               have OW := Lib.hid own
               have O1 := Lib.hid o1
               have hcap := own_lt own
               have hm := hcap.2.2.2
               have hc := hcap.2.2.1
               have HBB := Lib.hid hcap.1
               unfold maxLen at hm
               clear own o1 hcap)
  go_loopw [6] (fun iv wr => ∃ k : Nat, k ≤ L.length ∧ iv = .int .i64 k ∧ wr.ownsRow w.heap.size 9 1 (.slice (some ⟨b, 0, none⟩) L.length c) L.length (rowV (preR g L k)) ∧ Old w wr) (fun iv _ => L.length - (intOf iv).toNat)
  case atStart => exact ⟨0, Nat.zero_le _, rfl, by rw [preR_zero]; exact OW.out, O1.out⟩
  case round =>
    obtain ⟨k, hk, rfl, hown, hold⟩ := hrel
    have OR := Lib.hid hown
    have OO := Lib.hid hold
    clear hown hold
    by_cases hlt : k < L.length
    · have ck := row_cell OR.out hlt
      have fk := own_fr OR.out k
      have hcl := World.block_lt_of_cell? _ _ ck
      have HCL := Lib.hid hcl
      have CK := Lib.hid ck
      have FK := Lib.hid fk
      by_cases hgo : k + 1 < L.length ∨ L[k] ≠ []
      · have ST : Hid (∀ w4, Old wr w4 → (w4.setCell ⟨b, k, none⟩ (.string ⟨(g L[k]).toArray⟩)).ownsRow w.heap.size 9 1 (.slice (some ⟨b, 0, none⟩) L.length c) L.length (rowV (preR g L (k + 1)))) := fun w4 o => row_step OR.out o hlt hgo
        have JA := join_at g hlt hgo
        have hj := HJ.out
        have GE : g L[k] = L[k] ++ blk (width - L[k].length) := by rw [HG.out]
        rw [GE] at JA
        rw [GE] at ST
        have hgo2 : k + 1 < L.length ∨ ¬ L[k] = [] := hgo
        have tl := txt_list L[k]
        generalize L[k] = a at ck CK JA ST hgo2 tl
        clear GE hgo
        obtain ⟨z, hz⟩ : ∃ z : Int, z = (width : Int) - (a.length : Int) := ⟨_, rfl⟩
        have hzn : z.toNat = width - a.length := by omega
        have hzl : z ≤ 1000 := by omega
        rw [← hzn] at JA ST
        have hsub : IntKind.i64.wrap ((width : Int) - (a.length : Int)) = z := by
          have := IntKind.wrap_i64 ((width : Int) - (a.length : Int))
          rw [this]
          rw [List.length_append] at JA
          omega
        have c1 := cat_eq a (blk z.toNat)
        have s1 : ¬ 9223372036854775807 < (⟨a.toArray⟩ : ByteArray).size + (⟨(blk z.toNat).toArray⟩ : ByteArray).size := by rw [txt_size, txt_size]; rw [List.length_append] at JA; omega
        clear hz hzn

        by_cases hlast : k + 1 < L.length
        · have e1 : decide ((k : Int) + 1 < (L.length : Int)) = true := decide_eq_true (by omega)
          clear hgo2 tl
          go_wp2_with fail
          go_region_with (
            go_at_call 47
            refine (bln_any z wr.drew (by omega)).mono ?_
            rintro e w4 ⟨rfl, o4⟩
            have O4 := Lib.hid ((Old.drew wr).trans o4)
            have ck4 := (((Old.drew wr).trans o4).cell (o := k) HCL.out).trans CK.out
            have fk4 := (((Old.drew wr).trans o4).frozen (o := k) HCL.out).trans FK.out
            clear o4)
          all_goals
            go_wp2
            refine ⟨⟨k + 1, by omega, by go_num, ST.out _ O4.out, (OO.out.trans O4.out).stored HBB.out _⟩, ?_⟩
            simp [intOf]; omega

        · have hne : ¬ a = [] := hgo2.resolve_left hlast
          have e1 : decide ((k : Int) + 1 < (L.length : Int)) = false := decide_eq_false (by omega)
          have e2 : (a == ([] : List UInt8)) = false := by simpa using hne
          have nl0 := nil_list
          clear hgo2
          go_wp2_with fail
          go_region_with (
            go_at_call 47
            refine (bln_any z wr.drew (by omega)).mono ?_
            rintro e w4 ⟨rfl, o4⟩
            have O4 := Lib.hid ((Old.drew wr).trans o4)
            have ck4 := (((Old.drew wr).trans o4).cell (o := k) HCL.out).trans CK.out
            have fk4 := (((Old.drew wr).trans o4).frozen (o := k) HCL.out).trans FK.out
            clear o4)
          all_goals
            go_wp2
            refine ⟨⟨k + 1, by omega, by go_num, ST.out _ O4.out, (OO.out.trans O4.out).stored HBB.out _⟩, ?_⟩
            simp [intOf]; omega

      · have SK := Lib.hid (row_skip (g := g) hlt hgo)
        have he : L[k] = [] := by
          by_cases e : L[k] = []
          · exact e
          · exact absurd (.inr e) hgo
        rw [he] at ck
        have e1 : decide ((k : Int) + 1 < (L.length : Int)) = false := decide_eq_false (by omega)
        clear CK hgo he
        go_wp2_with fail
        refine ⟨⟨k + 1, by omega, by go_num, by rw [SK.out]; exact OR.out, OO.out⟩, ?_⟩
        simp [intOf]; omega
    · obtain rfl : k = L.length := by omega
      have OT : Hid (wr.ownsRow w.heap.size 9 1 (.slice (some ⟨b, 0, none⟩) L.length c) (mapRows g L).length (rowV (mapRows g L))) := by
        have h := OR.out
        rw [preR_all] at h
        unfold Hid
        rw [mapRows_len]
        exact h
      have h1 : 1 ≤ (mapRows g L).length := by rw [mapRows_len]; omega
      have h2 : (mapRows g L).length ≤ 2000000 := by rw [mapRows_len]; omega
      go_wp2_with (go_at_call 32; refine (tog_any (mapRows g L) _ w.heap.size wr OT.out h1 HJ.out h2).mono ?_; rintro e w5 ⟨rfl, rfl⟩)
      go_ret
      exact ⟨rfl, OO.out⟩
set_option maxHeartbeats 4000000 in
theorem si_any (n : Nat) (d : List UInt8) (w : World) (hw : n ≤ 1000) (hd : d.length ≤ 1000000) (hj : (joinN (mapRows (fun a => blk n ++ a) (splitL d))).length ≤ 1000000) :
    Calls Tryd.prog 24 #[.string ⟨d.toArray⟩, .int .i64 n] w fun e w' => e = .returned (.string ⟨(joinN (mapRows (fun a => blk n ++ a) (splitL d))).toArray⟩) ∧ Old w w' := by
  have hL1 := splitL_pos d
  have hL2 : (splitL d).length ≤ 1000001 := by have := splitL_len d; have := List.countP_le_length (p := nl) (l := d); omega
  obtain ⟨g, hg⟩ : ∃ g : List UInt8 → List UInt8, g = fun a => blk n ++ a := ⟨_, rfl⟩
  rw [← hg] at hj ⊢
  have HG := Lib.hid hg
  have HJ := Lib.hid hj
  have RW := Lib.hid (rows_any d w hd)
  generalize hLL : splitL d = L at hL1 hL2 HJ RW ⊢
  clear hLL hg hj
  go_enter Tryd.func24, Tryd.ntmps24
  go_wp2_with (go_at_call 30
               refine RW.out.mono ?_
               rintro e w1 ⟨v, rfl, o1, own⟩
               obtain ⟨b, c, rfl⟩ := own_some own hL1
               have OW := Lib.hid own
               have O1 := Lib.hid o1
               have hcap := own_lt own
               have hm := hcap.2.2.2
               have hc := hcap.2.2.1
               have HBB := Lib.hid hcap.1
               unfold maxLen at hm
               clear own o1 hcap)
  go_loopw [6] (fun iv wr => ∃ k : Nat, k ≤ L.length ∧ iv = .int .i64 k ∧ wr.ownsRow w.heap.size 9 1 (.slice (some ⟨b, 0, none⟩) L.length c) L.length (rowV (preR g L k)) ∧ Old w wr) (fun iv _ => L.length - (intOf iv).toNat)
  case atStart => exact ⟨0, Nat.zero_le _, rfl, by rw [preR_zero]; exact OW.out, O1.out⟩
  case round =>
    obtain ⟨k, hk, rfl, hown, hold⟩ := hrel
    have OR := Lib.hid hown
    have OO := Lib.hid hold
    clear hown hold
    by_cases hlt : k < L.length
    · have ck := row_cell OR.out hlt
      have fk := own_fr OR.out k
      have hcl := World.block_lt_of_cell? _ _ ck
      have HCL := Lib.hid hcl
      have CK := Lib.hid ck
      have FK := Lib.hid fk
      by_cases hgo : k + 1 < L.length ∨ L[k] ≠ []
      · have ST : Hid (∀ w4, Old wr w4 → (w4.setCell ⟨b, k, none⟩ (.string ⟨(g L[k]).toArray⟩)).ownsRow w.heap.size 9 1 (.slice (some ⟨b, 0, none⟩) L.length c) L.length (rowV (preR g L (k + 1)))) := fun w4 o => row_step OR.out o hlt hgo
        have JA := join_at g hlt hgo
        have hj := HJ.out
        have GE : g L[k] = blk n ++ L[k] := by rw [HG.out]
        rw [GE] at JA
        rw [GE] at ST
        have hgo2 : k + 1 < L.length ∨ ¬ L[k] = [] := hgo
        have tl := txt_list L[k]
        generalize L[k] = a at ck CK JA ST hgo2 tl
        clear GE hgo
        have tn : ((n : Int)).toNat = n := Int.toNat_natCast n
        have c1 := cat_eq (blk n) a
        have s1 : ¬ 9223372036854775807 < (⟨(blk n).toArray⟩ : ByteArray).size + (⟨a.toArray⟩ : ByteArray).size := by rw [txt_size, txt_size]; rw [List.length_append] at JA; omega

        by_cases hlast : k + 1 < L.length
        · have e1 : decide ((k : Int) + 1 < (L.length : Int)) = true := decide_eq_true (by omega)
          clear hgo2 tl
          go_wp2_with fail
          go_region_with (
            go_at_call 47
            refine (bln_any (n : Int) wr.drew (by omega)).mono ?_
            rintro e w4 ⟨rfl, o4⟩
            have O4 := Lib.hid ((Old.drew wr).trans o4)
            have ck4 := (((Old.drew wr).trans o4).cell (o := k) HCL.out).trans CK.out
            have fk4 := (((Old.drew wr).trans o4).frozen (o := k) HCL.out).trans FK.out
            clear o4)
          all_goals
            go_wp2
            refine ⟨⟨k + 1, by omega, by go_num, ST.out _ O4.out, (OO.out.trans O4.out).stored HBB.out _⟩, ?_⟩
            simp [intOf]; omega

        · have hne : ¬ a = [] := hgo2.resolve_left hlast
          have e1 : decide ((k : Int) + 1 < (L.length : Int)) = false := decide_eq_false (by omega)
          have e2 : (a == ([] : List UInt8)) = false := by simpa using hne
          have nl0 := nil_list
          clear hgo2
          go_wp2_with fail
          go_region_with (
            go_at_call 47
            refine (bln_any (n : Int) wr.drew (by omega)).mono ?_
            rintro e w4 ⟨rfl, o4⟩
            have O4 := Lib.hid ((Old.drew wr).trans o4)
            have ck4 := (((Old.drew wr).trans o4).cell (o := k) HCL.out).trans CK.out
            have fk4 := (((Old.drew wr).trans o4).frozen (o := k) HCL.out).trans FK.out
            clear o4)
          all_goals
            go_wp2
            refine ⟨⟨k + 1, by omega, by go_num, ST.out _ O4.out, (OO.out.trans O4.out).stored HBB.out _⟩, ?_⟩
            simp [intOf]; omega

      · have SK := Lib.hid (row_skip (g := g) hlt hgo)
        have he : L[k] = [] := by
          by_cases e : L[k] = []
          · exact e
          · exact absurd (.inr e) hgo
        rw [he] at ck
        have e1 : decide ((k : Int) + 1 < (L.length : Int)) = false := decide_eq_false (by omega)
        clear CK hgo he
        go_wp2_with fail
        refine ⟨⟨k + 1, by omega, by go_num, by rw [SK.out]; exact OR.out, OO.out⟩, ?_⟩
        simp [intOf]; omega
    · obtain rfl : k = L.length := by omega
      have OT : Hid (wr.ownsRow w.heap.size 9 1 (.slice (some ⟨b, 0, none⟩) L.length c) (mapRows g L).length (rowV (mapRows g L))) := by
        have h := OR.out
        rw [preR_all] at h
        unfold Hid
        rw [mapRows_len]
        exact h
      have h1 : 1 ≤ (mapRows g L).length := by rw [mapRows_len]; omega
      have h2 : (mapRows g L).length ≤ 2000000 := by rw [mapRows_len]; omega
      go_wp2_with (go_at_call 32; refine (tog_any (mapRows g L) _ w.heap.size wr OT.out h1 HJ.out h2).mono ?_; rintro e w5 ⟨rfl, rfl⟩)
      go_ret
      exact ⟨rfl, OO.out⟩
end Go.Proofs.YtpkmamdgpjncoaaDoor
