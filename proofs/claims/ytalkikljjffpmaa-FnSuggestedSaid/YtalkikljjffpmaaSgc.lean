/- impl.Suggested. (Under way.) -/
import Derived.Test.YtalkikljjffpmaaSgs
import Derived.Test.YtalkikljjffpmaaCaught
import Derived.Deep.Cut
import Derived.Deep.RegionHeld3
namespace Go.Proofs.Ytalkikljjffpmaa
open Go.RowKit
set_option linter.unusedVariables false
set_option linter.unusedSimpArgs false
set_option linter.unnecessarySimpa false
set_option maxRecDepth 100000

set_option maxHeartbeats 1000000 in
theorem sgc_any (p0 p1 p2 p3 : Nat) (v v2 : Value) (i3 : Int) (L : List (Bs × Bs)) (m : Int) (w : World) (c0 : w.cell? ⟨p0, 0, none⟩ = some v) (c1 : w.cell? ⟨p1, 0, none⟩ = some (.int .i64 m)) (c2 : w.cell? ⟨p2, 0, none⟩ = some v2) (c3 : w.cell? ⟨p3, 0, none⟩ = some (.int .i64 i3)) (f2 : w.frozen? ⟨p2, 0, none⟩ = false) (f3 : w.frozen? ⟨p3, 0, none⟩ = false)
    (hr : PR w v L) (hp : ∀ p ∈ L, prT p.1 ∧ prT p.2 ∧ p.1.length ≤ 100 ∧ p.2.length ≤ 100) (hn : L.length ≤ 1000) (hm1 : 0 ≤ m) (hm2 : m ≤ 500) (d23 : p3 ≠ p2) :
    Calls Try.prog 12 #[.pointer (some ⟨p0, 0, none⟩), .pointer (some ⟨p1, 0, none⟩), .pointer (some ⟨p2, 0, none⟩), .pointer (some ⟨p3, 0, none⟩)] w fun e w' => e = .returned (.tuple #[]) ∧ ∃ w1 v', Old w w1 ∧ PR w1 v' (fmT L m) ∧ w' = (w1.setCell ⟨p2, 0, none⟩ v').setCell ⟨p3, 0, none⟩ (.int .i64 (fmN L m)) := by
  have HR := Lib.hid hr
  have HP := Lib.hid hp
  obtain ⟨ad, c, rfl, -⟩ := hr
  clear hp
  go_enter Try.func12, Try.ntmps12
  go_wp2_with fail
  go_region_held3 (fun w' => w'.cell? ⟨p0, 0, none⟩ = some (.slice ad L.length c) ∧ w'.cell? ⟨p1, 0, none⟩ = some (.int .i64 m))
    (first | exact ⟨c0, c1⟩ | exact ⟨a1, a2⟩ | exact ⟨b1, b2⟩ | go_keep)
    ((first
      | (go_at_call 14; refine (sg_any _ L w.drew (HR.out.old (Old.drew w)) hn).mono ?_; rintro e w2 ⟨v1, rfl, o2', r2⟩; have o2 := (Old.drew w).trans o2'; have a1 := (o2.cell (o := 0) (World.block_lt_of_cell? w _ c0)).trans c0; have a2 := (o2.cell (o := 0) (World.block_lt_of_cell? w _ c1)).trans c1; have R2 := Lib.hid r2; have O2 := Lib.hid o2; clear o2 o2' r2)
      | (go_at_call 13; refine (fm_any _ L m _ R2.out HP.out hn hm1 hm2).mono ?_; rintro e w3 ⟨v3, rfl, o3, r3⟩; have b1 := (o3.cell (o := 0) (World.block_lt_of_cell? w2 _ a1)).trans a1; have b2 := (o3.cell (o := 0) (World.block_lt_of_cell? w2 _ a2)).trans a2; have R3 := Lib.hid r3; have O3 := Lib.hid (O2.out.trans o3); clear o3 r3)))
  all_goals
    have k2 := (O3.out.cell (o := 0) (World.block_lt_of_cell? w _ c2)).trans c2
    have k3 := (O3.out.cell (o := 0) (World.block_lt_of_cell? w _ c3)).trans c3
    have q2 := (O3.out.frozen (o := 0) (World.block_lt_of_cell? w _ c2)).trans f2
    have q3 := (O3.out.frozen (o := 0) (World.block_lt_of_cell? w _ c3)).trans f3
    have lf : (fmT L m).length ≤ 1000 := by
      unfold fmT
      split
      · simp
      · rw [List.length_zip, colT_len, colT_len]; simp [lefts, rights]; omega
    go_wp2_with (go_at_call 15; refine (pk_any _ _ _ R3.out lf).mono ?_; rintro e w4 ⟨v4, rfl, o4, r4⟩; have R4 := Lib.hid r4; obtain ⟨ad4, cc4, rfl, -⟩ := r4; have O4 := Lib.hid (O3.out.trans o4); have l2 := (O4.out.cell (o := 0) (World.block_lt_of_cell? w _ c2)).trans c2; have l3 := (O4.out.cell (o := 0) (World.block_lt_of_cell? w _ c3)).trans c3; have r2 := (O4.out.frozen (o := 0) (World.block_lt_of_cell? w _ c2)).trans f2; have r3 := (O4.out.frozen (o := 0) (World.block_lt_of_cell? w _ c3)).trans f3; have s3 := (far_cell4 w4 (p := p2) (i := 0) (q := p3) (j := 0) (.slice ad4 (fmT L m).length cc4) (Or.inl d23)).trans l3; have t3 := (frozen_setCell w4 ⟨p2, 0, none⟩ ⟨p3, 0, none⟩ (.slice ad4 (fmT L m).length cc4)).trans r3; clear k2 k3 q2 q3 o4)
    go_end0
    exact ⟨rfl, w4, _, O4.out, R4.out, rfl⟩
end Go.Proofs.Ytalkikljjffpmaa
