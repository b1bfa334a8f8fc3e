/- The completion manager: the walks of its steps. -/
import Derived.Test.YtbkdppfjmfepiaaCM0
import Derived.Test.YtbkdppfjmfepiaaApp
import Derived.RegionTactic
import Derived.BigRegion
import Derived.Deep.RegionHeld3
namespace Go.Proofs.Ytbkdppfjmfepiaa
open Go.RowKit
set_option linter.unusedVariables false
set_option linter.unusedSimpArgs false
set_option linter.unnecessarySimpa false
set_option maxRecDepth 100000

/-- Block p is a manager whose list is in variable lb; tmp is T0. -/
def CMx (w : World) (p lb : Nat) (T0 T : Value) (m : Nat) (s : CS) : Prop :=
  (∃ sep sh, w.heap[p]? = some (.cells #[.int .i64 s.1, T0, .int .u16 m, .func (.func 97) #[] #[.pointer (some ⟨lb, 0, none⟩)], .int .i64 s.2, sep, sh] 126)) ∧ w.cell? ⟨lb, 0, none⟩ = some T ∧ lb ≠ p

theorem hcell {w : World} {b : Nat} {C : Array Value} {t : TypeId} {fr : Nat × Nat} (h : w.heap[b]? = some (.cells C t fr)) (j : Nat) : w.cell? ⟨b, j, none⟩ = C[j]? := by
  unfold World.cell?; rw [h]; simp
theorem hfree {w : World} {b : Nat} {C : Array Value} {t : TypeId} (h : w.heap[b]? = some (.cells C t)) (j : Nat) : w.frozen? ⟨b, j, none⟩ = false := by
  unfold World.frozen?; rw [h]; simp
theorem hset {w : World} {b j : Nat} {C : Array Value} {t : TypeId} {fr : Nat × Nat} (h : w.heap[b]? = some (.cells C t fr)) (v : Value) : (w.setCell ⟨b, j, none⟩ v).heap[b]? = some (.cells (C.setIfInBounds j v) t fr) := by
  unfold World.setCell; simp [Array.getElem?_modify, h]

theorem far_cell (w : World) {p i q j : Nat} (v : Value) (h : q ≠ p ∨ j ≠ i) : (w.setCell ⟨p, i, none⟩ v).cell? ⟨q, j, none⟩ = w.cell? ⟨q, j, none⟩ := by
  rw [World.cell?_setCell_other]
  intro e
  have e1 := congrArg Addr.block e
  have e2 := congrArg Addr.off e
  simp at e1 e2
  omega

section
variable {w w' : World} {p lb : Nat} {T0 T : Value} {m : Nat} {s : CS}
theorem CMx.c0 (h : CMx w p lb T0 T m s) : w.cell? ⟨p, 0, none⟩ = some (.int .i64 s.1) := by obtain ⟨⟨_, _, h⟩, _⟩ := h; exact hcell h 0
theorem CMx.c1 (h : CMx w p lb T0 T m s) : w.cell? ⟨p, 1, none⟩ = some T0 := by obtain ⟨⟨_, _, h⟩, _⟩ := h; exact hcell h 1
theorem CMx.c2 (h : CMx w p lb T0 T m s) : w.cell? ⟨p, 2, none⟩ = some (.int .u16 m) := by obtain ⟨⟨_, _, h⟩, _⟩ := h; exact hcell h 2
theorem CMx.c3 (h : CMx w p lb T0 T m s) : w.cell? ⟨p, 3, none⟩ = some (.func (.func 97) #[] #[.pointer (some ⟨lb, 0, none⟩)]) := by obtain ⟨⟨_, _, h⟩, _⟩ := h; exact hcell h 3
theorem CMx.c4 (h : CMx w p lb T0 T m s) : w.cell? ⟨p, 4, none⟩ = some (.int .i64 s.2) := by obtain ⟨⟨_, _, h⟩, _⟩ := h; exact hcell h 4
theorem CMx.free (h : CMx w p lb T0 T m s) (j : Nat) : w.frozen? ⟨p, j, none⟩ = false := by obtain ⟨⟨_, _, h⟩, _⟩ := h; exact hfree h j
theorem CMx.lt (h : CMx w p lb T0 T m s) : p < w.heap.size := by obtain ⟨⟨_, _, h⟩, _⟩ := h; exact (Array.getElem?_eq_some_iff.1 h).1
theorem CMx.old (h : CMx w p lb T0 T m s) (o : Old w w') : CMx w' p lb T0 T m s := by
  have hl := h.lt
  obtain ⟨⟨a, b, h1⟩, h2, h3⟩ := h
  exact ⟨⟨a, b, (o.heap hl).trans h1⟩, (o.cell (World.block_lt_of_cell? w _ h2)).trans h2, h3⟩
theorem CMx.keep (h : CMx w p lb T0 T m s) (j : Nat) (v : Value) : (w.setCell ⟨p, j, none⟩ v).cell? ⟨lb, 0, none⟩ = some T := by
  obtain ⟨_, h2, h3⟩ := h
  rw [World.cell?_setCell_other]
  · exact h2
  · exact fun e => h3 (congrArg Addr.block e).symm
theorem CMx.set0 (h : CMx w p lb T0 T m s) (x : Int) : CMx (w.setCell ⟨p, 0, none⟩ (.int .i64 x)) p lb T0 T m (x, s.2) := by
  have hk := h.keep 0 (.int .i64 x)
  obtain ⟨⟨a, b, h1⟩, h2, h3⟩ := h
  exact ⟨⟨a, b, by rw [hset h1]; simp⟩, hk, h3⟩
theorem CMx.set4 (h : CMx w p lb T0 T m s) (x : Int) : CMx (w.setCell ⟨p, 4, none⟩ (.int .i64 x)) p lb T0 T m (s.1, x) := by
  have hk := h.keep 4 (.int .i64 x)
  obtain ⟨⟨a, b, h1⟩, h2, h3⟩ := h
  exact ⟨⟨a, b, by rw [hset h1]; simp⟩, hk, h3⟩
theorem CMx.set1 (h : CMx w p lb T0 T m s) (x : Value) : CMx (w.setCell ⟨p, 1, none⟩ x) p lb x T m s := by
  have hk := h.keep 1 x
  obtain ⟨⟨a, b, h1⟩, h2, h3⟩ := h
  exact ⟨⟨a, b, by rw [hset h1]; simp⟩, hk, h3⟩
end

theorem closure_any (cs : Array Value) (ta : Option Addr) (n tc : Nat) (lb : Nat) (w : World) (h : w.cell? ⟨lb, 0, none⟩ = some (.slice ta n tc)) :
    Calls Try.prog 97 #[.agg cs, .pointer (some ⟨lb, 0, none⟩)] w fun e w' => e = .returned (.slice ta n tc) ∧ Old w w' := by
  have hl : lb < w.heap.size := World.block_lt_of_cell? w _ h
  have h1 : (w.alloc (.cells cs 122)).cell? ⟨lb, 0, none⟩ = some (.slice ta n tc) := (World.cell?_alloc_past (w := w) (.cells cs 122) lb 0 hl).trans h
  go_enter Try.func97, Try.ntmps97
  go_wp2_with fail
  go_ret
  exact ⟨rfl, Old.alloc _ _⟩
theorem ndoc_any (w : World) : Calls Try.prog 117 #[] w fun e w' => e = .returned (.pointer (some ⟨w.heap.size, 0, none⟩)) ∧ Old w w' ∧ w'.cell? ⟨w.heap.size, 0, none⟩ = some (.string { data := #[] }) ∧ w'.cell? ⟨w.heap.size, 1, none⟩ = some (.int .i64 0) := by
  go_enter Try.func117, Try.ntmps117
  go_wp2_with fail
  go_ret
  exact ⟨rfl, Old.alloc _ _, (hcell (heap_alloc_new w _) 0).trans rfl, (hcell (heap_alloc_new w _) 1).trans rfl⟩
theorem Update_any (p lb : Nat) (T0 : Value) (ta : Option Addr) (n tc : Nat) (m : Nat) (s : CS) (w : World) (h : CMx w p lb T0 (.slice ta n tc) m s) :
    Calls Try.prog 116 #[.pointer (some ⟨p, 0, none⟩), .agg #[.string { data := #[] }, .int .i64 0]] w fun e w' => e = .returned (.tuple #[]) ∧ CMx w' p lb (.slice ta n tc) (.slice ta n tc) m s ∧ But p w w' := by
  have H := Lib.hid h
  have h1 := h.old (Old.alloc w (.cells #[.string { data := #[] }, .int .i64 0] 122))
  have H1 := Lib.hid h1
  have c3 := h1.c3
  have d0 : (w.alloc (.cells #[.string { data := #[] }, .int .i64 0] 122)).cell? ⟨w.heap.size, 0, none⟩ = some (.string { data := #[] }) := (hcell (heap_alloc_new w _) 0).trans rfl
  have d1 : (w.alloc (.cells #[.string { data := #[] }, .int .i64 0] 122)).cell? ⟨w.heap.size, 1, none⟩ = some (.int .i64 0) := (hcell (heap_alloc_new w _) 1).trans rfl
  clear h h1
  go_enter Try.func116, Try.ntmps116
  go_wp2_with fail
  have HW := H1.out
  have O1 : Hid (Old w (w.alloc (.cells #[.string { data := #[] }, .int .i64 0] 122))) := Old.alloc _ _
  generalize w.alloc (.cells #[.string { data := #[] }, .int .i64 0] 122) = w1 at H1 HW O1 c3 d0 d1 ⊢
  have lbc := Lib.hid HW.2.1
  clear HW
  have nl := H1.out.2.2
  have f1 := H1.out.free 1
  have nd : w.heap.size ≠ p := by have := H.out.lt; omega
  go_region_held3 (fun w' => w'.cell? ⟨p, 3, none⟩ = some (.func (.func 97) #[] #[.pointer (some ⟨lb, 0, none⟩)]) ∧ w'.cell? ⟨w.heap.size, 0, none⟩ = some (.string { data := #[] }) ∧ w'.cell? ⟨w.heap.size, 1, none⟩ = some (.int .i64 0))
    (first | exact ⟨a1, a2, a3⟩ | exact ⟨g1, g2, g3⟩ | go_keep)
    ((go_at_call 97; refine (closure_any _ ta n tc lb w1.drew lbc.out).mono ?_; rintro e w2 ⟨rfl, o2⟩; have hlt := H1.out.lt; have a1 := (o2.cell (o := 3) H1.out.lt).trans H1.out.c3; have a2 := (o2.cell (o := 0) (World.block_lt_of_cell? w1 _ d0)).trans d0; have a3 := (o2.cell (o := 1) (World.block_lt_of_cell? w1 _ d1)).trans d1; have e1 : w2.cell? ⟨p, 1, none⟩ = some T0 := (o2.cell H1.out.lt).trans H1.out.c1; have f1 : w2.frozen? ⟨p, 1, none⟩ = false := (o2.frozen H1.out.lt).trans (H1.out.free 1); have g1 := (far_cell w2 (p := p) (i := 1) (q := p) (j := 3) (.slice ta n tc) (Or.inr (by decide))).trans a1; have g2 := (far_cell w2 (p := p) (i := 1) (q := w.heap.size) (j := 0) (.slice ta n tc) (Or.inl nd)).trans a2; have g3 := (far_cell w2 (p := p) (i := 1) (q := w.heap.size) (j := 1) (.slice ta n tc) (Or.inl nd)).trans a3; have O2 := Lib.hid o2; clear o2))
  all_goals
    go_wp2_with fail
    go_end0
    exact ⟨rfl, ((H1.out.old (Old.drew w1)).old O2.out).set1 _, (((But.of_old O1.out).then_old (Old.drew w1)).then_old O2.out).stored 1 _⟩

theorem reset_any (p lb : Nat) (T0 : Value) (ta : Option Addr) (n tc : Nat) (m : Nat) (s : CS) (w : World) (h : CMx w p lb T0 (.slice ta n tc) m s) :
    Calls Try.prog 98 #[.pointer (some ⟨p, 0, none⟩)] w fun e w' => e = .returned (.tuple #[]) ∧ CMx w' p lb (.slice ta n tc) (.slice ta n tc) m (-1, 0) ∧ But p w w' := by
  have H := Lib.hid h
  have c0 := h.c0
  have f0 := h.free 0
  have h2 := h.set0 (-1)
  have c4 := h2.c4
  have f4 := h2.free 4
  have H3 := Lib.hid (h2.set4 0)
  clear h h2
  go_enter Try.func98, Try.ntmps98
  go_wp2_with (first
    | (go_at_call 117; refine (ndoc_any _).mono ?_; rintro e w2 ⟨rfl, o2, d0, d1⟩; simp only [World.setCell, Array.size_modify] at d0 d1; have H4 := Lib.hid (H3.out.old o2); have O2 := Lib.hid o2; clear o2)
    | (go_at_call 116; refine (Update_any p lb T0 ta n tc m (-1, 0) w2 H4.out).mono ?_; rintro e w3 ⟨rfl, h3, b3⟩; have H5 := Lib.hid h3; have B3 := Lib.hid b3; clear h3 b3))
  go_end0
  exact ⟨rfl, H5.out, ((((But.refl p w).stored 0 _).stored 4 _).then_old O2.out).trans B3.out⟩

theorem place_any (p lb : Nat) (T0 T : Value) (m : Nat) (s : CS) (w : World) (h : CMx w p lb T0 T m s) :
    Calls Try.prog 46 #[.pointer (some ⟨p, 0, none⟩)] w fun e w' => e = .returned (.tuple #[.int .i64 s.1, .int .i64 s.2]) ∧ Old w w' := by
  have c0 := h.c0
  have c4 := h.c4
  clear h
  go_enter Try.func46, Try.ntmps46
  go_wp2_with fail
  go_quiet (fail)
  go_wp2_with fail
  go_ret2
  exact ⟨rfl, Old.drewN _ _⟩

/-- The bounds that keep a manager's numbers small. -/
def csSmall (n m : Nat) (s : CS) : Prop := n ≤ 1000 ∧ m ≤ 65535 ∧ -2 ≤ s.1 ∧ s.1 ≤ 1001 ∧ 0 ≤ s.2 ∧ s.2 ≤ 1001

set_option maxHeartbeats 1000000 in
theorem upd_any (p lb : Nat) (ta : Option Addr) (n tc m : Nat) (s : CS) (w : World) (h : CMx w p lb (.slice ta n tc) (.slice ta n tc) m s) (hs : csSmall n m s) :
    Calls Try.prog 118 #[.pointer (some ⟨p, 0, none⟩)] w fun e w' => e = .returned (.tuple #[]) ∧ CMx w' p lb (.slice ta n tc) (.slice ta n tc) m (csUpd n m s) ∧ But p w w' := by
  obtain ⟨a, b⟩ := s
  obtain ⟨s1, s2, s3, s4, s5, s6⟩ := hs
  simp only at s3 s4 s5 s6
  have H := Lib.hid h
  have c0 : w.cell? ⟨p, 0, none⟩ = some (.int .i64 a) := h.c0
  have c1 := h.c1
  have c2 := h.c2
  have f0 := h.free 0
  have c4 := (h.set0 (n - 1)).c4
  clear h
  have hdm : ((n : Int) < (m : Int)) ↔ n < m := by omega
  by_cases hm : n < m
  all_goals
    by_cases h1 : (n : Int) ≤ a
    · have R := h1
      go_enter Try.func118, Try.ntmps118
      go_wp2_with fail
      go_quiet (fail)
      go_wp2_with (go_at_call 98; refine (reset_any p lb _ ta n tc m (a, b) _ (H.out.old (Old.drewN w nq))).mono ?_; rintro e w3 ⟨rfl, h3, b3⟩)
      go_end0
      refine ⟨rfl, ?_, (But.of_old (Old.drewN w nq)).trans b3⟩
      simpa [csUpd, R] using h3
    · by_cases h2 : a < -1
      · have R1 := h1
        have R2 := h2
        go_enter Try.func118, Try.ntmps118
        go_wp2_with fail
        go_quiet (fail)
        have H1 := Lib.hid (H.out.old (Old.drewN w nq))
        have O1 := Lib.hid (Old.drewN w nq)
        clear c0 c1 c2 f0 c4
        generalize w.drewN nq = w1 at H1 O1 ⊢
        have c0 : w1.cell? ⟨p, 0, none⟩ = some (.int .i64 a) := H1.out.c0
        have c1 := H1.out.c1
        have f0 := H1.out.free 0
        have d1 := (H1.out.set0 (n - 1)).c1
        have d4 := (H1.out.set0 (n - 1)).c4
        have g4 := (H1.out.set0 (n - 1)).free 4
        go_wp2_with fail
        go_end0
        refine ⟨rfl, ?_, ((But.of_old O1.out).stored 0 _).stored 4 _⟩
        have h3 := (H1.out.set0 (n - 1)).set4 ((n : Int) - min (m : Int) (n : Int))
        have hmin : min (m : Int) n = (if n < m then (n : Int) else m) := by omega
        simp only [hm, if_true, if_false] at hmin
        have hu : csUpd n m (a, b) = ((n : Int) - 1, (n : Int) - min (m : Int) n) := by unfold csUpd; rw [if_neg (show ¬ (n : Int) ≤ (a, b).1 from by show ¬ (n : Int) ≤ a; omega), if_pos (show (a, b).1 < -1 from by show a < -1; omega)]
        rw [hu]
        rw [hmin] at h3 ⊢
        simpa using h3
      · have R1 := h1
        have R2 := h2
        go_enter Try.func118, Try.ntmps118
        go_wp2_with fail
        go_quiet (fail)
        have H1 := Lib.hid (H.out.old (Old.drewN w nq))
        have O1 := Lib.hid (Old.drewN w nq)
        go_wp2_with fail
        go_end0
        have hu : csUpd n m (a, b) = (a, b) := by unfold csUpd; rw [if_neg (show ¬ (n : Int) ≤ (a, b).1 from by show ¬ (n : Int) ≤ a; omega), if_neg (show ¬ (a, b).1 < -1 from by show ¬ a < -1; omega)]
        refine ⟨rfl, ?_, But.of_old O1.out⟩
        rw [hu]
        exact H1.out

set_option maxHeartbeats 1000000 in
theorem next_any (p lb : Nat) (ta : Option Addr) (n tc m : Nat) (s : CS) (w : World) (h : CMx w p lb (.slice ta n tc) (.slice ta n tc) m s) (hs : csOk n m s) (hn : n ≤ 1000) (hm1 : 1 ≤ m) (hm : m ≤ 1000) :
    Calls Try.prog 99 #[.pointer (some ⟨p, 0, none⟩)] w fun e w' => e = .returned (.tuple #[]) ∧ CMx w' p lb (.slice ta n tc) (.slice ta n tc) m (csNext n m s) ∧ But p w w' := by
  obtain ⟨a, b⟩ := s
  have H := Lib.hid h
  have hab : -1 ≤ a ∧ a ≤ 1000 ∧ 0 ≤ b ∧ b ≤ 1000 := by unfold csOk at hs; simp only at hs; omega
  obtain ⟨a1, a2, b1, b2⟩ := hab
  have c0 : w.cell? ⟨p, 0, none⟩ = some (.int .i64 a) := h.c0
  have c2 := h.c2
  have c4 : w.cell? ⟨p, 4, none⟩ = some (.int .i64 b) := h.c4
  have e1 : IntKind.i64.wrap (b + m) = b + m := IntWalk.i64_in _ (by omega)
  have e2 : IntKind.i64.wrap (b + m - 1) = b + m - 1 := IntWalk.i64_in _ (by omega)
  clear h hs
  cases hq : (b + (m : Int) - 1 == a)
  all_goals
    go_enter Try.func99, Try.ntmps99
    go_wp2_with fail
    go_quiet (fail)
    have H1 := Lib.hid (H.out.old (Old.drewN w nq))
    have O1 := Lib.hid (Old.drewN w nq)
    clear c0 c2 c4 e1 e2
    generalize w.drewN nq = w1 at H1 O1 ⊢
    have HQ := Lib.hid hq
    clear hq
  · have c0 : w1.cell? ⟨p, 0, none⟩ = some (.int .i64 a) := H1.out.c0
    have f0 := H1.out.free 0
    have H2 := Lib.hid (H1.out.set0 (a + 1))
    go_wp2_with (go_at_call 118; refine (upd_any p lb ta n tc m (a + 1, b) _ H2.out ⟨by omega, by omega, by simp only; omega, by simp only; omega, by simp only; omega, by simp only; omega⟩).mono ?_; rintro e w3 ⟨rfl, h3, b3⟩; have H3 := Lib.hid h3; have B3 := Lib.hid b3; clear h3 b3)
    go_end0
    refine ⟨rfl, ?_, ((But.of_old O1.out).stored 0 _).trans B3.out⟩
    have hq : ¬ (b + (m : Int) - 1 = a) := by simpa using HQ.out
    have : csNext n m (a, b) = csUpd n m (a + 1, b) := by unfold csNext; simp only [hq, if_false]
    rw [this]; exact H3.out
  · have c4 : w1.cell? ⟨p, 4, none⟩ = some (.int .i64 b) := H1.out.c4
    have f4 := H1.out.free 4
    have c0 : (w1.setCell ⟨p, 4, none⟩ (.int .i64 (b + 1))).cell? ⟨p, 0, none⟩ = some (.int .i64 a) := (H1.out.set4 (b + 1)).c0
    have f0 := (H1.out.set4 (b + 1)).free 0
    have H2 := Lib.hid ((H1.out.set4 (b + 1)).set0 (a + 1))
    go_wp2_with (go_at_call 118; refine (upd_any p lb ta n tc m (a + 1, b + 1) _ H2.out ⟨by omega, by omega, by simp only; omega, by simp only; omega, by simp only; omega, by simp only; omega⟩).mono ?_; rintro e w3 ⟨rfl, h3, b3⟩; have H3 := Lib.hid h3; have B3 := Lib.hid b3; clear h3 b3)
    go_end0
    refine ⟨rfl, ?_, (((But.of_old O1.out).stored 4 _).stored 0 _).trans B3.out⟩
    have hq : (b + (m : Int) - 1 = a) := by simpa using HQ.out
    have : csNext n m (a, b) = csUpd n m (a + 1, b + 1) := by unfold csNext; simp only [hq, if_true]
    rw [this]; exact H3.out

set_option maxHeartbeats 1000000 in
theorem prev_any (p lb : Nat) (ta : Option Addr) (n tc m : Nat) (s : CS) (w : World) (h : CMx w p lb (.slice ta n tc) (.slice ta n tc) m s) (hs : csOk n m s) (hn : n ≤ 1000) (hm1 : 1 ≤ m) (hm : m ≤ 1000) :
    Calls Try.prog 100 #[.pointer (some ⟨p, 0, none⟩)] w fun e w' => e = .returned (.tuple #[]) ∧ CMx w' p lb (.slice ta n tc) (.slice ta n tc) m (csPrev n m s) ∧ But p w w' := by
  obtain ⟨a, b⟩ := s
  have H := Lib.hid h
  have hab : -1 ≤ a ∧ a ≤ 1000 ∧ 0 ≤ b ∧ b ≤ 1000 := by unfold csOk at hs; simp only at hs; omega
  obtain ⟨a1, a2, b1, b2⟩ := hab
  have c0 : w.cell? ⟨p, 0, none⟩ = some (.int .i64 a) := h.c0
  have c4 : w.cell? ⟨p, 4, none⟩ = some (.int .i64 b) := h.c4
  clear h hs
  by_cases hq1 : b = a
  · by_cases hq2 : 0 < a
    · subst hq1
      have Q2 := Lib.hid hq2
      go_enter Try.func100, Try.ntmps100
      go_wp2_with fail
      go_quiet (fail)
      have H1 := Lib.hid (H.out.old (Old.drewN w nq))
      have O1 := Lib.hid (Old.drewN w nq)
      clear c0 c4 hq2
      generalize w.drewN nq = w1 at H1 O1 ⊢
      have c4 : w1.cell? ⟨p, 4, none⟩ = some (.int .i64 b) := H1.out.c4
      have f4 := H1.out.free 4
      have c0 : (w1.setCell ⟨p, 4, none⟩ (.int .i64 (b - 1))).cell? ⟨p, 0, none⟩ = some (.int .i64 b) := (H1.out.set4 (b - 1)).c0
      have f0 := (H1.out.set4 (b - 1)).free 0
      have H2 := Lib.hid ((H1.out.set4 (b - 1)).set0 (b - 1))
      go_wp2_with (go_at_call 118; refine (upd_any p lb ta n tc m (b - 1, b - 1) _ H2.out (by have := Q2.out; exact ⟨by omega, by omega, by simp only; omega, by simp only; omega, by simp only; omega, by simp only; omega⟩)).mono ?_; rintro e w3 ⟨rfl, h3, b3⟩; have H3 := Lib.hid h3; have B3 := Lib.hid b3; clear h3 b3)
      go_end0
      refine ⟨rfl, ?_, (((But.of_old O1.out).stored 4 _).stored 0 _).trans B3.out⟩
      have : csPrev n m (b, b) = csUpd n m (b - 1, b - 1) := by unfold csPrev; simp only [Q2.out, and_self, if_true]
      rw [this]; exact H3.out
    · subst hq1
      have Q2 := Lib.hid hq2
      go_enter Try.func100, Try.ntmps100
      go_wp2_with fail
      go_quiet (fail)
      have H1 := Lib.hid (H.out.old (Old.drewN w nq))
      have O1 := Lib.hid (Old.drewN w nq)
      clear c0 c4
      generalize w.drewN nq = w1 at H1 O1 ⊢
      have c0 : w1.cell? ⟨p, 0, none⟩ = some (.int .i64 b) := H1.out.c0
      have f0 := H1.out.free 0
      have H2 := Lib.hid (H1.out.set0 (b - 1))
      go_wp2_with (go_at_call 118; refine (upd_any p lb ta n tc m (b - 1, b) _ H2.out (by have := Q2.out; exact ⟨by omega, by omega, by simp only; omega, by simp only; omega, by simp only; omega, by simp only; omega⟩)).mono ?_; rintro e w3 ⟨rfl, h3, b3⟩; have H3 := Lib.hid h3; have B3 := Lib.hid b3; clear h3 b3)
      go_end0
      refine ⟨rfl, ?_, ((But.of_old O1.out).stored 0 _).trans B3.out⟩
      have : csPrev n m (b, b) = csUpd n m (b - 1, b) := by unfold csPrev; rw [if_neg (fun hx => by have h1 := Q2.out; have h2 : 0 < b := hx.2; omega)]
      rw [this]; exact H3.out
  · have Q1 := Lib.hid hq1
    have d1 : (b == a) = false := by simpa using hq1
    clear hq1
    go_enter Try.func100, Try.ntmps100
    go_wp2_with fail
    go_quiet (fail)
    have H1 := Lib.hid (H.out.old (Old.drewN w nq))
    have O1 := Lib.hid (Old.drewN w nq)
    clear c0 c4
    generalize w.drewN nq = w1 at H1 O1 ⊢
    have c0 : w1.cell? ⟨p, 0, none⟩ = some (.int .i64 a) := H1.out.c0
    have f0 := H1.out.free 0
    have H2 := Lib.hid (H1.out.set0 (a - 1))
    go_wp2_with (go_at_call 118; refine (upd_any p lb ta n tc m (a - 1, b) _ H2.out ⟨by omega, by omega, by simp only; omega, by simp only; omega, by simp only; omega, by simp only; omega⟩).mono ?_; rintro e w3 ⟨rfl, h3, b3⟩; have H3 := Lib.hid h3; have B3 := Lib.hid b3; clear h3 b3)
    go_end0
    refine ⟨rfl, ?_, ((But.of_old O1.out).stored 0 _).trans B3.out⟩
    have : csPrev n m (a, b) = csUpd n m (a - 1, b) := by unfold csPrev; rw [if_neg (fun hx => Q1.out hx.1)]
    rw [this]; exact H3.out
end Go.Proofs.Ytbkdppfjmfepiaa
