/- spec.Editor: signs are taken out. -/
import Derived.Test.YtlfmmmbafkelhaaDoorHeldG
import Derived.Test.YtlfmmmbafkelhaaDoorEditor
import Derived.Deep.RegionHeld3
import Derived.Deep.AppendLies
namespace Go.Proofs.YtlfmmmbafkelhaaDoor
open Go.RowKit
set_option linter.unusedVariables false
set_option linter.unusedSimpArgs false
set_option maxRecDepth 100000

section
variable {P : Program} {ops : Array Oper} {o : Oper} {a : Act} {K : Act → World → Prop} {Q : Exit → Act → World → Prop} {w : World} {E : Prop}
/-- 'append(v, x...)' of runes in a region that draws; x may be empty. -/
theorem step_append_uni (hgd : o.guard = none) (s x : Operand) (t e : TypeId) (ho : o.op = .call { callee := .builtin .append, args := #[s, x], argTypes := #[t, t] }) (ht : P.underlying t = some (.slice e))
    (hinfo : (P.info? e).map (fun i => (i.zero, i.size, i.bytes)) = some (some (.int .i32 0), 1, 4))
    (b n cap : Nat) (xs : List Value) (hs : a.eval s = .slice (some ⟨b, 0, none⟩) n cap) (hown : w.ownsRow 0 e 1 (.slice (some ⟨b, 0, none⟩) n cap) n xs)
    (ad : Addr) (m tc : Nat) (tl : List Int) (hm : tl.length = m) (hx : a.eval x = .slice (some ad) m tc) (hc : 0 < m → ∃ tb to, ad = ⟨tb, to, none⟩ ∧ ∀ j, j < tl.length → w.cell? ⟨tb, to + j, none⟩ = some (.int .i32 (gi tl j)))
    (hn : n + m ≤ 1000000)
    (h : ∀ g cap' w', w'.ownsRow 0 e 1 (.slice (some ⟨g, 0, none⟩) (n + m) cap') (n + m) (xs ++ tl.map (Value.int .i32)) → w.grownBy w' (some b) → (some b = some g ∨ g = w.heap.size) → K (a.put o.dst (.slice (some ⟨g, 0, none⟩) (n + m) cap')) w') :
    if Region.wanted o (yielded ops a.tmps) = true then Oper.wp P o a w K Q else E := by
  by_cases h0 : m = 0
  · subst h0
    have htl : tl = [] := List.eq_nil_of_length_eq_zero hm
    subst htl
    refine step_append_none hgd s x t e ho ht hinfo b n cap hs ad tc hx (own_lt hown).2.2.1 ?_
    exact h b cap w (by simpa using hown) ⟨rfl, rfl, rfl, Nat.le_refl _, fun _ _ _ => rfl⟩ (Or.inl rfl)
  · obtain ⟨tb, to, rfl, hcc⟩ := hc (by omega)
    exact step_append_runes hgd s x t e (.int .i32 0) ho ht hinfo rfl _ n xs hs hown tb to tc m tl hm hx hcc (by omega) hn h
end

theorem at_cell_alloc {w : World} {o : Obj} {E j : Nat} {v : Value} (hE : E < w.heap.size) (h : w.cell? ⟨E, j, none⟩ = some v) : (w.alloc o).cell? ⟨E, j, none⟩ = some v := ((Old.alloc w o).cell hE).trans h

/-- The line's new row is stored, and the cursor. -/
theorem ED.taken {w w5 : World} {E g cap n a fr : Nat} {l l' : List Int} {kv : Value} {xs : List Value} (h : ED w E l a kv) (o : Old w w5) (hown : w5.ownsRow 0 21 1 (.slice (some ⟨g, 0, none⟩) n cap) n xs) (hxs : xs = l'.map (Value.int .i32)) (hg : w.heap.size ≤ g) :
    ED ((w5.setCell ⟨E, 0, none⟩ (.slice (some ⟨g, 0, none⟩) n cap)).setCell ⟨E, 1, none⟩ (.int .i64 fr)) E l' fr kv := by
  subst hxs
  have hlt := h.lt
  have hnl : n = l'.length := by have := hown.1; rw [List.length_map] at this; omega
  subst hnl
  obtain ⟨lb, c, h1, h2, h3⟩ := h
  have h5 := (o.heap hlt).trans h1
  have h6 := heap_setCell_at h5 (j := 0) (.slice (some ⟨g, 0, none⟩) l'.length cap)
  have h7 := heap_setCell_at h6 (j := 1) (.int .i64 fr)
  refine ⟨g, cap, by simpa using h7, ((show LB w5 g cap l' from hown).other (by omega) _).other (by omega) _, by omega⟩
theorem ED.kept {w : World} {E a : Nat} {l : List Int} {kv x : Value} (h : ED w E l a kv) : ED (w.setCell ⟨E, 2, none⟩ x) E l a x := by
  obtain ⟨lb, c, h1, h2, h3⟩ := h
  have h6 := heap_setCell_at h1 (j := 2) x
  exact ⟨lb, c, by simpa using h6, h2.other h3 _, h3⟩
theorem cell1_store {w w4 : World} {E : Nat} {x y : Value} (hE : E < w.heap.size) (o : Old w w4) (h : w.cell? ⟨E, 1, none⟩ = some y) : (w4.setCell ⟨E, 0, none⟩ x).cell? ⟨E, 1, none⟩ = some y := by
  rw [World.cell?_setCell_other]
  · exact (o.cell hE).trans h
  · intro e; have := congrArg Addr.off e; simp at this
theorem own_empty (w : World) : (w.alloc (.cells #[] 21)).ownsRow 0 21 1 (.slice (some ⟨w.heap.size, 0, none⟩) 0 0) 0 [] := own_base (World.ownsRow_made w #[] 0 (Nat.le_refl _) (by unfold maxLen; omega) (by simp)) (Nat.zero_le _)

set_option maxHeartbeats 4000000 in
theorem take_no (E a fr to : Nat) (l : List Int) (kv : Value) (w2 : World) (h : ED w2 E l a kv) (hl : l.length ≤ 1000) (h1 : fr ≤ to) (h2 : to ≤ l.length) :
    Calls Tryd.prog 35 #[.pointer (some ⟨E, 0, none⟩), .int .i64 fr, .int .i64 to, .bool false] w2 fun e w' => e = .returned (.tuple #[]) ∧ ∃ kv', ED w' E (l.take fr ++ l.drop to) fr kv' ∧ Mod E E w2 w' := by
  have H := Lib.hid h
  have hE2 := h.lt
  obtain ⟨lb, c, g1, g2, g3⟩ := h
  have c0 : w2.cell? ⟨E, 0, none⟩ = some (.slice (some ⟨lb, 0, none⟩) l.length c) := cell_of_heap g1 0
  have c1 : w2.cell? ⟨E, 1, none⟩ = some (.int .i64 a) := cell_of_heap g1 1
  have f0 := free_of_heap g1 0
  have f1 := free_of_heap g1 1
  have hcap := g2.cap
  obtain ⟨hcap1, hcap2⟩ := hcap
  unfold maxLen at hcap2
  have LW := Lib.hid g2
  clear g1 g2
  have i1 : (fr : Int) ≤ to := by omega
  have i2 : (to : Int) ≤ l.length := by omega
  have i3 : (fr : Int) ≤ c := by omega
  have i4 : fr ≤ c := by omega
  have i5 : to ≤ c := by omega
  have i6 : (to : Int) ≤ c := by omega
  have OM := own_empty
  have C1 : Hid (∀ W, Old w2 W → 0 < fr → ∃ tb q, (⟨lb, 0, none⟩ : Addr) = ⟨tb, q, none⟩ ∧ ∀ j, j < (l.take fr).length → (W.alloc (.cells #[] 21)).cell? ⟨tb, q + j, none⟩ = some (.int .i32 (gi (l.take fr) j))) := fun W o _ => ⟨lb, 0, rfl, fun j hj => by rw [Nat.zero_add, gi_take (by simp at hj; omega)]; exact ((LW.out.old o).old (Old.alloc W _)).cell j (by simp at hj; omega)⟩
  by_cases hcc : c = to
  · subst hcc
    go_enter Tryd.func35, Tryd.ntmps35
    go_wp2_with fail
    refine wp_region_noPanic ?_
    refine wp_region_G (fun w' => w'.cell? ⟨E, 0, none⟩ = some (.slice (some ⟨lb, 0, none⟩) l.length c)) 18 (by kernel_rfl) (by (try dsimp only); (first | exact c0 | exact (at_cell_alloc hE2 c0) | exact h4 | exact h3 | exact HHELD | (go_keep; done))) (fun hHeld0 => ?_)
    refine wpAnyG_take (i := 0) (v := ?_) rfl (by kernel_rfl) (by kernel_rfl) (by kernel_rfl) (by kernel_rfl) (by kernel_rfl) (fun _ _ _ h => h) (Or.inl ⟨by rfl, ?_⟩) (by assumption) ?_
    rotate_left
    · (intro w hSw; (try dsimp only at hSw); go_simp; try with_reducible rfl)
    try simp only [Act.put, List.getElem_toArray, List.getElem_cons_succ, List.getElem_cons_zero, List.setIfInBounds_toArray, List.set_cons_zero, List.set_cons_succ]
    refine wpAnyG_take (i := 2) (v := ?_) rfl (by kernel_rfl) (by kernel_rfl) (by kernel_rfl) (by kernel_rfl) (by kernel_rfl) (fun _ _ _ h => h) (Or.inl ⟨by rfl, ?_⟩) (by assumption) ?_
    rotate_left
    · (intro w hSw; (try dsimp only at hSw); go_simp; try with_reducible rfl)
    try simp only [Act.put, List.getElem_toArray, List.getElem_cons_succ, List.getElem_cons_zero, List.setIfInBounds_toArray, List.set_cons_zero, List.set_cons_succ]
    refine wpAnyG_take (i := 3) (v := ?_) rfl (by kernel_rfl) (by kernel_rfl) (by kernel_rfl) (by kernel_rfl) (by kernel_rfl) (fun _ _ _ h => h) (Or.inl ⟨by rfl, ?_⟩) (by assumption) ?_
    rotate_left
    · (intro w hSw; (try dsimp only at hSw); go_simp; try with_reducible rfl)
    try simp only [Act.put, List.getElem_toArray, List.getElem_cons_succ, List.getElem_cons_zero, List.setIfInBounds_toArray, List.set_cons_zero, List.set_cons_succ]
    refine wpAnyG_take (i := 4) (v := ?_) rfl (by kernel_rfl) (by kernel_rfl) (by kernel_rfl) (by kernel_rfl) (by kernel_rfl) (fun _ _ _ h => h) (Or.inl ⟨by rfl, ?_⟩) (by assumption) ?_
    rotate_left
    · (intro w hSw; (try dsimp only at hSw); go_simp; try with_reducible rfl)
    try simp only [Act.put, List.getElem_toArray, List.getElem_cons_succ, List.getElem_cons_zero, List.setIfInBounds_toArray, List.set_cons_zero, List.set_cons_succ]
    refine wpAnyG_take (i := 5) (v := ?_) rfl (by kernel_rfl) (by kernel_rfl) (by kernel_rfl) (by kernel_rfl) (by kernel_rfl) (fun _ _ _ h => h) (Or.inl ⟨by rfl, ?_⟩) (by assumption) ?_
    rotate_left
    · (intro w hSw; (try dsimp only at hSw); go_simp; try with_reducible rfl)
    try simp only [Act.put, List.getElem_toArray, List.getElem_cons_succ, List.getElem_cons_zero, List.setIfInBounds_toArray, List.set_cons_zero, List.set_cons_succ]
    refine wpAnyG_take (i := 6) (v := ?_) rfl (by kernel_rfl) (by kernel_rfl) (by kernel_rfl) (by kernel_rfl) (by kernel_rfl) (fun _ _ _ h => h) (Or.inl ⟨by rfl, ?_⟩) (by assumption) ?_
    rotate_left
    · (intro w hSw; (try dsimp only at hSw); go_simp; try with_reducible rfl)
    try simp only [Act.put, List.getElem_toArray, List.getElem_cons_succ, List.getElem_cons_zero, List.setIfInBounds_toArray, List.set_cons_zero, List.set_cons_succ]
    refine wpAnyG_take (i := 7) (v := ?_) rfl (by kernel_rfl) (by kernel_rfl) (by kernel_rfl) (by kernel_rfl) (by kernel_rfl) (fun _ _ _ h => h) (Or.inl ⟨by rfl, ?_⟩) (by assumption) ?_
    rotate_left
    · (intro w hSw; (try dsimp only at hSw); go_simp; try with_reducible rfl)
    try simp only [Act.put, List.getElem_toArray, List.getElem_cons_succ, List.getElem_cons_zero, List.setIfInBounds_toArray, List.set_cons_zero, List.set_cons_succ]
    refine wpAnyG_take (i := 9) (v := ?_) rfl (by kernel_rfl) (by kernel_rfl) (by kernel_rfl) (by kernel_rfl) (by kernel_rfl) (fun _ _ _ h => h) (Or.inl ⟨by rfl, ?_⟩) (by assumption) ?_
    rotate_left
    · (intro w hSw; (try dsimp only at hSw); go_simp; try with_reducible rfl)
    try simp only [Act.put, List.getElem_toArray, List.getElem_cons_succ, List.getElem_cons_zero, List.setIfInBounds_toArray, List.set_cons_zero, List.set_cons_succ]
    refine wpAnyG_take (i := 10) (v := ?_) rfl (by kernel_rfl) (by kernel_rfl) (by kernel_rfl) (by kernel_rfl) (by kernel_rfl) (fun _ _ _ h => h) (Or.inl ⟨by rfl, ?_⟩) (by assumption) ?_
    rotate_left
    · (intro w hSw; (try dsimp only at hSw); go_simp; try with_reducible rfl)
    try simp only [Act.put, List.getElem_toArray, List.getElem_cons_succ, List.getElem_cons_zero, List.setIfInBounds_toArray, List.set_cons_zero, List.set_cons_succ]
    refine wpAnyG_take (i := 11) (v := ?_) rfl (by kernel_rfl) (by kernel_rfl) (by kernel_rfl) (by kernel_rfl) (by kernel_rfl) (fun _ _ _ h => h) (Or.inl ⟨by rfl, ?_⟩) (by assumption) ?_
    rotate_left
    · (intro w hSw; (try dsimp only at hSw); go_simp; try with_reducible rfl)
    try simp only [Act.put, List.getElem_toArray, List.getElem_cons_succ, List.getElem_cons_zero, List.setIfInBounds_toArray, List.set_cons_zero, List.set_cons_succ]
    refine wpAnyG_take (i := 12) (v := ?_) rfl (by kernel_rfl) (by kernel_rfl) (by kernel_rfl) (by kernel_rfl) (by kernel_rfl) (fun _ _ _ h => h) (Or.inl ⟨by rfl, ?_⟩) (by assumption) ?_
    rotate_left
    · (intro w hSw; (try dsimp only at hSw); go_simp; try with_reducible rfl)
    try simp only [Act.put, List.getElem_toArray, List.getElem_cons_succ, List.getElem_cons_zero, List.setIfInBounds_toArray, List.set_cons_zero, List.set_cons_succ]
    refine wpAnyG_take (i := 13) (v := ?_) rfl (by kernel_rfl) (by kernel_rfl) (by kernel_rfl) (by kernel_rfl) (by kernel_rfl) (fun _ _ _ h => h) (Or.inl ⟨by rfl, ?_⟩) (by assumption) ?_
    rotate_left
    · (intro w hSw; (try dsimp only at hSw); go_simp; try with_reducible rfl)
    try simp only [Act.put, List.getElem_toArray, List.getElem_cons_succ, List.getElem_cons_zero, List.setIfInBounds_toArray, List.set_cons_zero, List.set_cons_succ]
    refine wpAnyG_take (i := 14) (v := ?_) rfl (by kernel_rfl) (by kernel_rfl) (by kernel_rfl) (by kernel_rfl) (by kernel_rfl) (fun _ _ _ h => h) (Or.inl ⟨by rfl, ?_⟩) (by assumption) ?_
    rotate_left
    · (intro w hSw; (try dsimp only at hSw); go_simp; try with_reducible rfl)
    try simp only [Act.put, List.getElem_toArray, List.getElem_cons_succ, List.getElem_cons_zero, List.setIfInBounds_toArray, List.set_cons_zero, List.set_cons_succ]
    refine wpAnyG_one (i := 1) (by kernel_rfl) rfl (fun K hK => ?_)
    go_simp
    refine hK.out _ _ ?_ (fun hHeld1 => ?_)
    · (try dsimp only)
      (first | exact c0 | exact (at_cell_alloc hE2 c0) | exact h4 | exact h3 | exact hHeld0 | (go_keep; done))
    clear hK K hHeld0
    try simp only [Act.put, List.getElem_toArray, List.getElem_cons_succ, List.getElem_cons_zero, List.setIfInBounds_toArray, List.set_cons_zero, List.set_cons_succ]
    refine wpAnyG_one (i := 8) (by kernel_rfl) rfl (fun K hK => ?_)
    (refine step_append_uni rfl (.tmp 22) (.tmp 28) 54 21 rfl Tryd.underlying54 info_r w2.drew.heap.size 0 0 [] rfl (OM w2.drew) ⟨lb, 0, none⟩ fr c (l.take fr) (by rw [List.length_take]; omega) rfl (C1.out w2.drew (Old.drew w2)) (by omega) ?_; intro g3 cap3 w3 hown3 hg3 hb3; have O3 := Lib.hid (((Old.drew w2).trans (Old.alloc w2.drew _)).grown hg3 (fun q hq => by have e : w2.drew.heap.size = q := Option.some.inj hq; rw [← e]; exact Nat.le_refl _)); have h3 := (O3.out.cell hE2).trans c0; have W3 := Lib.hid hown3; have HG3 : Hid (w2.heap.size ≤ g3) := (by rcases hb3 with e | e; have e2 : w2.drew.heap.size = g3 := Option.some.inj e; rw [← e2]; exact Nat.le_refl _; rw [e]; exact (Old.alloc w2.drew _).size); clear hown3 hg3 hb3)
    refine hK.out _ _ ?_ (fun hHeld2 => ?_)
    · (try dsimp only)
      (first | exact c0 | exact (at_cell_alloc hE2 c0) | exact h4 | exact h3 | exact hHeld1 | (go_keep; done))
    clear hK K hHeld1
    try simp only [Act.put, List.getElem_toArray, List.getElem_cons_succ, List.getElem_cons_zero, List.setIfInBounds_toArray, List.set_cons_zero, List.set_cons_succ]
    refine wpAnyG_one (i := 15) (by kernel_rfl) rfl (fun K hK => ?_)
    (refine step_append_uni rfl (.tmp 29) (.tmp 35) 54 21 rfl Tryd.underlying54 info_r g3 (0 + fr) cap3 _ rfl W3.out ⟨lb, 0, none⟩ 0 0 [] rfl rfl (fun h => absurd h (by omega)) (by omega) ?_; intro g4 cap4 w4 hown4 hg4 hb4; have O4 := Lib.hid (O3.out.grown hg4 (fun q hq => by have e : g3 = q := Option.some.inj hq; rw [← e]; exact HG3.out)); have h4 := (O4.out.cell hE2).trans c0; have f4 := (O4.out.frozen (o := 0) hE2).trans f0; have W4 := Lib.hid hown4; have HG4 : Hid (w2.heap.size ≤ g4) := (by rcases hb4 with e | e; have e2 : g3 = g4 := Option.some.inj e; rw [← e2]; exact HG3.out; rw [e]; exact O3.out.size); clear hown4 hg4 hb4)
    refine hK.out _ _ ?_ (fun hHeld3 => ?_)
    · (try dsimp only)
      (first | exact c0 | exact (at_cell_alloc hE2 c0) | exact h4 | exact h3 | exact hHeld2 | (go_keep; done))
    clear hK K hHeld2
    try simp only [Act.put, List.getElem_toArray, List.getElem_cons_succ, List.getElem_cons_zero, List.setIfInBounds_toArray, List.set_cons_zero, List.set_cons_succ]
    refine wpAnyG_one (i := 16) (by kernel_rfl) rfl (fun K hK => ?_)
    go_simp
    refine hK.out _ _ ?_ (fun hHeld4 => ?_)
    · (try dsimp only)
      (first | exact c0 | exact (at_cell_alloc hE2 c0) | exact h4 | exact h3 | exact hHeld3 | (go_keep; done))
    clear hK K hHeld3
    try simp only [Act.put, List.getElem_toArray, List.getElem_cons_succ, List.getElem_cons_zero, List.setIfInBounds_toArray, List.set_cons_zero, List.set_cons_succ]
    refine wpAnyG_take (i := 17) (v := ?_) rfl (by kernel_rfl) (by kernel_rfl) (by kernel_rfl) (by kernel_rfl) (by kernel_rfl) (fun _ _ _ h => h) (Or.inl ⟨by rfl, ?_⟩) (by assumption) ?_
    rotate_left
    · (intro w hSw; (try dsimp only at hSw); go_simp; try with_reducible rfl)
    try simp only [Act.put, List.getElem_toArray, List.getElem_cons_succ, List.getElem_cons_zero, List.setIfInBounds_toArray, List.set_cons_zero, List.set_cons_succ]
    refine wpAnyG_last (i := 18) (by kernel_rfl) rfl (by kernel_rfl) (fun K hK => ?_)
    go_simp
    refine hK.out _ _ ?_
    clear hK K
    try simp only [Act.put, List.getElem_toArray, List.getElem_cons_succ, List.getElem_cons_zero, List.setIfInBounds_toArray, List.set_cons_zero, List.set_cons_succ]
    refine wpAnyG_done (by kernel_rfl) ?_ _
    refine NoPanic.normal ?_
    have W4b := W4.out
    rw [Nat.zero_add, Nat.add_zero] at W4b
    have TK := Lib.hid (H.out.taken (fr := fr) O4.out W4b (l' := l.take fr ++ l.drop c) (by rw [List.drop_eq_nil_of_le hcap1]; simp) HG4.out)
    have d1 : (w4.setCell ⟨E, 0, none⟩ (.slice (some ⟨g4, 0, none⟩) fr cap4)).cell? ⟨E, 1, none⟩ = some (.int .i64 a) := cell1_store hE2 O4.out c1
    have d2 : (w4.setCell ⟨E, 0, none⟩ (.slice (some ⟨g4, 0, none⟩) fr cap4)).frozen? ⟨E, 1, none⟩ = false := by rw [World.frozen?_setCell]; exact (O4.out.frozen (o := 1) hE2).trans f1
    have MM := Lib.hid ((((Mod.of_old (p := E) (b := E) O4.out).stored E 0 (.slice (some ⟨g4, 0, none⟩) fr cap4) (Or.inl rfl))).stored E 1 (.int .i64 fr) (Or.inl rfl))
    clear W4b O3 O4 W3 W4 HG3 HG4 h3 h4 f4 H LW C1 OM c0 c1 f0 f1
    go_wp2_with fail
    go_end0
    exact ⟨rfl, kv, TK.out, MM.out⟩
  · go_enter Tryd.func35, Tryd.ntmps35
    go_wp2_with fail
    refine wp_region_noPanic ?_
    refine wp_region_G (fun w' => w'.cell? ⟨E, 0, none⟩ = some (.slice (some ⟨lb, 0, none⟩) l.length c)) 18 (by kernel_rfl) (by (try dsimp only); (first | exact c0 | exact (at_cell_alloc hE2 c0) | exact h4 | exact h3 | exact HHELD | (go_keep; done))) (fun hHeld0 => ?_)
    refine wpAnyG_take (i := 0) (v := ?_) rfl (by kernel_rfl) (by kernel_rfl) (by kernel_rfl) (by kernel_rfl) (by kernel_rfl) (fun _ _ _ h => h) (Or.inl ⟨by rfl, ?_⟩) (by assumption) ?_
    rotate_left
    · (intro w hSw; (try dsimp only at hSw); go_simp; try with_reducible rfl)
    try simp only [Act.put, List.getElem_toArray, List.getElem_cons_succ, List.getElem_cons_zero, List.setIfInBounds_toArray, List.set_cons_zero, List.set_cons_succ]
    refine wpAnyG_take (i := 2) (v := ?_) rfl (by kernel_rfl) (by kernel_rfl) (by kernel_rfl) (by kernel_rfl) (by kernel_rfl) (fun _ _ _ h => h) (Or.inl ⟨by rfl, ?_⟩) (by assumption) ?_
    rotate_left
    · (intro w hSw; (try dsimp only at hSw); go_simp; try with_reducible rfl)
    try simp only [Act.put, List.getElem_toArray, List.getElem_cons_succ, List.getElem_cons_zero, List.setIfInBounds_toArray, List.set_cons_zero, List.set_cons_succ]
    refine wpAnyG_take (i := 3) (v := ?_) rfl (by kernel_rfl) (by kernel_rfl) (by kernel_rfl) (by kernel_rfl) (by kernel_rfl) (fun _ _ _ h => h) (Or.inl ⟨by rfl, ?_⟩) (by assumption) ?_
    rotate_left
    · (intro w hSw; (try dsimp only at hSw); go_simp; try with_reducible rfl)
    try simp only [Act.put, List.getElem_toArray, List.getElem_cons_succ, List.getElem_cons_zero, List.setIfInBounds_toArray, List.set_cons_zero, List.set_cons_succ]
    refine wpAnyG_take (i := 4) (v := ?_) rfl (by kernel_rfl) (by kernel_rfl) (by kernel_rfl) (by kernel_rfl) (by kernel_rfl) (fun _ _ _ h => h) (Or.inl ⟨by rfl, ?_⟩) (by assumption) ?_
    rotate_left
    · (intro w hSw; (try dsimp only at hSw); go_simp; try with_reducible rfl)
    try simp only [Act.put, List.getElem_toArray, List.getElem_cons_succ, List.getElem_cons_zero, List.setIfInBounds_toArray, List.set_cons_zero, List.set_cons_succ]
    refine wpAnyG_take (i := 5) (v := ?_) rfl (by kernel_rfl) (by kernel_rfl) (by kernel_rfl) (by kernel_rfl) (by kernel_rfl) (fun _ _ _ h => h) (Or.inl ⟨by rfl, ?_⟩) (by assumption) ?_
    rotate_left
    · (intro w hSw; (try dsimp only at hSw); go_simp; try with_reducible rfl)
    try simp only [Act.put, List.getElem_toArray, List.getElem_cons_succ, List.getElem_cons_zero, List.setIfInBounds_toArray, List.set_cons_zero, List.set_cons_succ]
    refine wpAnyG_take (i := 6) (v := ?_) rfl (by kernel_rfl) (by kernel_rfl) (by kernel_rfl) (by kernel_rfl) (by kernel_rfl) (fun _ _ _ h => h) (Or.inl ⟨by rfl, ?_⟩) (by assumption) ?_
    rotate_left
    · (intro w hSw; (try dsimp only at hSw); go_simp; try with_reducible rfl)
    try simp only [Act.put, List.getElem_toArray, List.getElem_cons_succ, List.getElem_cons_zero, List.setIfInBounds_toArray, List.set_cons_zero, List.set_cons_succ]
    refine wpAnyG_take (i := 7) (v := ?_) rfl (by kernel_rfl) (by kernel_rfl) (by kernel_rfl) (by kernel_rfl) (by kernel_rfl) (fun _ _ _ h => h) (Or.inl ⟨by rfl, ?_⟩) (by assumption) ?_
    rotate_left
    · (intro w hSw; (try dsimp only at hSw); go_simp; try with_reducible rfl)
    try simp only [Act.put, List.getElem_toArray, List.getElem_cons_succ, List.getElem_cons_zero, List.setIfInBounds_toArray, List.set_cons_zero, List.set_cons_succ]
    refine wpAnyG_take (i := 9) (v := ?_) rfl (by kernel_rfl) (by kernel_rfl) (by kernel_rfl) (by kernel_rfl) (by kernel_rfl) (fun _ _ _ h => h) (Or.inl ⟨by rfl, ?_⟩) (by assumption) ?_
    rotate_left
    · (intro w hSw; (try dsimp only at hSw); go_simp; try with_reducible rfl)
    try simp only [Act.put, List.getElem_toArray, List.getElem_cons_succ, List.getElem_cons_zero, List.setIfInBounds_toArray, List.set_cons_zero, List.set_cons_succ]
    refine wpAnyG_take (i := 10) (v := ?_) rfl (by kernel_rfl) (by kernel_rfl) (by kernel_rfl) (by kernel_rfl) (by kernel_rfl) (fun _ _ _ h => h) (Or.inl ⟨by rfl, ?_⟩) (by assumption) ?_
    rotate_left
    · (intro w hSw; (try dsimp only at hSw); go_simp; try with_reducible rfl)
    try simp only [Act.put, List.getElem_toArray, List.getElem_cons_succ, List.getElem_cons_zero, List.setIfInBounds_toArray, List.set_cons_zero, List.set_cons_succ]
    refine wpAnyG_take (i := 11) (v := ?_) rfl (by kernel_rfl) (by kernel_rfl) (by kernel_rfl) (by kernel_rfl) (by kernel_rfl) (fun _ _ _ h => h) (Or.inl ⟨by rfl, ?_⟩) (by assumption) ?_
    rotate_left
    · (intro w hSw; (try dsimp only at hSw); go_simp; try with_reducible rfl)
    try simp only [Act.put, List.getElem_toArray, List.getElem_cons_succ, List.getElem_cons_zero, List.setIfInBounds_toArray, List.set_cons_zero, List.set_cons_succ]
    refine wpAnyG_take (i := 12) (v := ?_) rfl (by kernel_rfl) (by kernel_rfl) (by kernel_rfl) (by kernel_rfl) (by kernel_rfl) (fun _ _ _ h => h) (Or.inl ⟨by rfl, ?_⟩) (by assumption) ?_
    rotate_left
    · (intro w hSw; (try dsimp only at hSw); go_simp; try with_reducible rfl)
    try simp only [Act.put, List.getElem_toArray, List.getElem_cons_succ, List.getElem_cons_zero, List.setIfInBounds_toArray, List.set_cons_zero, List.set_cons_succ]
    refine wpAnyG_take (i := 13) (v := ?_) rfl (by kernel_rfl) (by kernel_rfl) (by kernel_rfl) (by kernel_rfl) (by kernel_rfl) (fun _ _ _ h => h) (Or.inl ⟨by rfl, ?_⟩) (by assumption) ?_
    rotate_left
    · (intro w hSw; (try dsimp only at hSw); go_simp; try with_reducible rfl)
    try simp only [Act.put, List.getElem_toArray, List.getElem_cons_succ, List.getElem_cons_zero, List.setIfInBounds_toArray, List.set_cons_zero, List.set_cons_succ]
    refine wpAnyG_take (i := 14) (v := ?_) rfl (by kernel_rfl) (by kernel_rfl) (by kernel_rfl) (by kernel_rfl) (by kernel_rfl) (fun _ _ _ h => h) (Or.inl ⟨by rfl, ?_⟩) (by assumption) ?_
    rotate_left
    · (intro w hSw; (try dsimp only at hSw); go_simp; try with_reducible rfl)
    try simp only [Act.put, List.getElem_toArray, List.getElem_cons_succ, List.getElem_cons_zero, List.setIfInBounds_toArray, List.set_cons_zero, List.set_cons_succ]
    refine wpAnyG_one (i := 1) (by kernel_rfl) rfl (fun K hK => ?_)
    go_simp
    refine hK.out _ _ ?_ (fun hHeld1 => ?_)
    · (try dsimp only)
      (first | exact c0 | exact (at_cell_alloc hE2 c0) | exact h4 | exact h3 | exact hHeld0 | (go_keep; done))
    clear hK K hHeld0
    try simp only [Act.put, List.getElem_toArray, List.getElem_cons_succ, List.getElem_cons_zero, List.setIfInBounds_toArray, List.set_cons_zero, List.set_cons_succ]
    refine wpAnyG_one (i := 8) (by kernel_rfl) rfl (fun K hK => ?_)
    (refine step_append_uni rfl (.tmp 22) (.tmp 28) 54 21 rfl Tryd.underlying54 info_r w2.drew.heap.size 0 0 [] rfl (OM w2.drew) ⟨lb, 0, none⟩ fr c (l.take fr) (by rw [List.length_take]; omega) rfl (C1.out w2.drew (Old.drew w2)) (by omega) ?_; intro g3 cap3 w3 hown3 hg3 hb3; have O3 := Lib.hid (((Old.drew w2).trans (Old.alloc w2.drew _)).grown hg3 (fun q hq => by have e : w2.drew.heap.size = q := Option.some.inj hq; rw [← e]; exact Nat.le_refl _)); have h3 := (O3.out.cell hE2).trans c0; have W3 := Lib.hid hown3; have HG3 : Hid (w2.heap.size ≤ g3) := (by rcases hb3 with e | e; have e2 : w2.drew.heap.size = g3 := Option.some.inj e; rw [← e2]; exact Nat.le_refl _; rw [e]; exact (Old.alloc w2.drew _).size); clear hown3 hg3 hb3)
    refine hK.out _ _ ?_ (fun hHeld2 => ?_)
    · (try dsimp only)
      (first | exact c0 | exact (at_cell_alloc hE2 c0) | exact h4 | exact h3 | exact hHeld1 | (go_keep; done))
    clear hK K hHeld1
    try simp only [Act.put, List.getElem_toArray, List.getElem_cons_succ, List.getElem_cons_zero, List.setIfInBounds_toArray, List.set_cons_zero, List.set_cons_succ]
    refine wpAnyG_one (i := 15) (by kernel_rfl) rfl (fun K hK => ?_)
    (refine step_append_uni rfl (.tmp 29) (.tmp 35) 54 21 rfl Tryd.underlying54 info_r g3 (0 + fr) cap3 _ rfl W3.out ⟨lb, to, none⟩ (l.length - to) (c - to) (l.drop to) (by rw [List.length_drop]) rfl (fun _ => ⟨lb, to, rfl, fun j hj => by rw [gi_drop]; exact (LW.out.old O3.out).cell (to + j) (by simp at hj; omega)⟩) (by omega) ?_; intro g4 cap4 w4 hown4 hg4 hb4; have O4 := Lib.hid (O3.out.grown hg4 (fun q hq => by have e : g3 = q := Option.some.inj hq; rw [← e]; exact HG3.out)); have h4 := (O4.out.cell hE2).trans c0; have f4 := (O4.out.frozen (o := 0) hE2).trans f0; have W4 := Lib.hid hown4; have HG4 : Hid (w2.heap.size ≤ g4) := (by rcases hb4 with e | e; have e2 : g3 = g4 := Option.some.inj e; rw [← e2]; exact HG3.out; rw [e]; exact O3.out.size); clear hown4 hg4 hb4)
    refine hK.out _ _ ?_ (fun hHeld3 => ?_)
    · (try dsimp only)
      (first | exact c0 | exact (at_cell_alloc hE2 c0) | exact h4 | exact h3 | exact hHeld2 | (go_keep; done))
    clear hK K hHeld2
    try simp only [Act.put, List.getElem_toArray, List.getElem_cons_succ, List.getElem_cons_zero, List.setIfInBounds_toArray, List.set_cons_zero, List.set_cons_succ]
    refine wpAnyG_one (i := 16) (by kernel_rfl) rfl (fun K hK => ?_)
    go_simp
    refine hK.out _ _ ?_ (fun hHeld4 => ?_)
    · (try dsimp only)
      (first | exact c0 | exact (at_cell_alloc hE2 c0) | exact h4 | exact h3 | exact hHeld3 | (go_keep; done))
    clear hK K hHeld3
    try simp only [Act.put, List.getElem_toArray, List.getElem_cons_succ, List.getElem_cons_zero, List.setIfInBounds_toArray, List.set_cons_zero, List.set_cons_succ]
    refine wpAnyG_take (i := 17) (v := ?_) rfl (by kernel_rfl) (by kernel_rfl) (by kernel_rfl) (by kernel_rfl) (by kernel_rfl) (fun _ _ _ h => h) (Or.inl ⟨by rfl, ?_⟩) (by assumption) ?_
    rotate_left
    · (intro w hSw; (try dsimp only at hSw); go_simp; try with_reducible rfl)
    try simp only [Act.put, List.getElem_toArray, List.getElem_cons_succ, List.getElem_cons_zero, List.setIfInBounds_toArray, List.set_cons_zero, List.set_cons_succ]
    refine wpAnyG_last (i := 18) (by kernel_rfl) rfl (by kernel_rfl) (fun K hK => ?_)
    go_simp
    refine hK.out _ _ ?_
    clear hK K
    try simp only [Act.put, List.getElem_toArray, List.getElem_cons_succ, List.getElem_cons_zero, List.setIfInBounds_toArray, List.set_cons_zero, List.set_cons_succ]
    refine wpAnyG_done (by kernel_rfl) ?_ _
    refine NoPanic.normal ?_
    have W4b := W4.out
    rw [Nat.zero_add] at W4b
    have TK := Lib.hid (H.out.taken (fr := fr) O4.out W4b (l' := l.take fr ++ l.drop to) (by simp) HG4.out)
    have d1 : (w4.setCell ⟨E, 0, none⟩ (.slice (some ⟨g4, 0, none⟩) (fr + (l.length - to)) cap4)).cell? ⟨E, 1, none⟩ = some (.int .i64 a) := cell1_store hE2 O4.out c1
    have d2 : (w4.setCell ⟨E, 0, none⟩ (.slice (some ⟨g4, 0, none⟩) (fr + (l.length - to)) cap4)).frozen? ⟨E, 1, none⟩ = false := by rw [World.frozen?_setCell]; exact (O4.out.frozen (o := 1) hE2).trans f1
    have MM := Lib.hid ((((Mod.of_old (p := E) (b := E) O4.out).stored E 0 (.slice (some ⟨g4, 0, none⟩) (fr + (l.length - to)) cap4) (Or.inl rfl))).stored E 1 (.int .i64 fr) (Or.inl rfl))
    clear W4b O3 O4 W3 W4 HG3 HG4 h3 h4 f4 H LW C1 OM c0 c1 f0 f1
    go_wp2_with fail
    go_end0
    exact ⟨rfl, kv, TK.out, MM.out⟩
end Go.Proofs.YtlfmmmbafkelhaaDoor
