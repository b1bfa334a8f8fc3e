/- The completion manager: made, and led through steps. -/
import Derived.Test.YtbkdppfjmfepiaaCM1
import Derived.Test.YtbkdppfjmfepiaaArgs
namespace Go.Proofs.Ytbkdppfjmfepiaa
open Go.RowKit
set_option linter.unusedVariables false
set_option linter.unusedSimpArgs false
set_option linter.unnecessarySimpa false
set_option maxRecDepth 100000

theorem But.own {p : Nat} {a b c : World} {base n : Nat} {e : TypeId} {v : Value} {xs : List Value} (h : But p a b) (hb : a.heap.size ≤ base) (ho : b.ownsRow base e 1 v n xs) (hg : b.grownBy c v.ownBlock) : But p a c := by
  have hr : ∀ k, v.ownBlock = some k → a.heap.size ≤ k := fun k hk => by
    rcases ho.2 with ⟨rfl, _⟩ | ⟨g, cap, cur, rfl, h1, _⟩
    · cases hk
    · simp [Value.ownBlock] at hk; omega
  exact ⟨hg.os.trans h.os, hg.tape.trans h.tape, hg.output.trans h.output, Nat.le_trans h.size hg.size, fun k hk h1 =>
    (hg.block k (Nat.lt_of_lt_of_le hk h.size) (fun e => absurd (hr k e.symm) (by omega))).trans (h.block k hk h1)⟩
theorem CMx.lbl {w : World} {p lb : Nat} {T0 T : Value} {m : Nat} {s : CS} (h : CMx w p lb T0 T m s) : lb < w.heap.size := World.block_lt_of_cell? w _ h.2.1
theorem CMx.own {w w' : World} {p lb : Nat} {T0 T : Value} {m : Nat} {s : CS} (h : CMx w p lb T0 T m s) {base n : Nat} {e : TypeId} {v : Value} {xs : List Value} (h1 : p < base) (h2 : lb < base)
    (ho : w.ownsRow base e 1 v n xs) (hg : w.grownBy w' v.ownBlock) : CMx w' p lb T0 T m s := by
  have hr : ∀ k, v.ownBlock = some k → base ≤ k := fun k hk => by
    rcases ho.2 with ⟨rfl, _⟩ | ⟨g, cap, cur, rfl, h1, _⟩
    · cases hk
    · simp [Value.ownBlock] at hk; omega
  have hl := h.lt
  have hl2 := h.lbl
  obtain ⟨⟨a, b, q1⟩, q2, q3⟩ := h
  refine ⟨⟨a, b, (hg.block p hl (fun e => absurd (hr p e.symm) (by omega))).trans q1⟩, ?_, q3⟩
  exact (World.cell?_of_block (w := w) (a := ⟨lb, 0, none⟩) (hg.block lb hl2 (fun e => absurd (hr lb e.symm) (by omega)))).trans q2

section
variable {P : Program} {ops : Array Oper} {rest : List Oper} {o : Oper} {a : Act} {Q : Exit → Act → World → Prop} {w : World}
/-- 'make([]T, n)' of whatever elements: a new row. -/
theorem wpList_make_new (hg : o.guard = none) (l c : Operand) (t e : TypeId) (z : Value) (size bytes : Nat) (hop : o.op = Op.makeSlice t l c) (h1 : P.underlying t = some (.slice e)) (hinfo : (P.info? e).map (fun i => (i.zero, i.size, i.bytes)) = some (some z, size, bytes)) (hby : bytes ≤ 64)
    (kl kc : IntKind) (L C : Int) (n : Nat) (hl : a.eval l = .int kl L) (hc : a.eval c = .int kc C) (hL : L = (n : Int)) (hC : C = (n : Int)) (hn : n ≤ 2147483648)
    (h : ∀ w', Old w w' → wpList P ops Q rest (a.put o.dst (.slice (some ⟨w.heap.size, 0, none⟩) n n)) w') :
    wpList P ops Q (o :: rest) a w := by
  cases hi : P.info? e with
  | none => rw [hi] at hinfo; cases hinfo
  | some i =>
    rw [hi] at hinfo
    simp only [Option.map_some, Option.some.injEq, Prod.mk.injEq] at hinfo
    obtain ⟨hz0, hz1, hz2⟩ := hinfo
    have hb : i.bytes * n ≤ 64 * 2147483648 := by rw [hz2]; exact Nat.mul_le_mul hby hn
    refine wpList_make_full w hg l c t hop w.heap.size e i z size h1 hi hz0 hz1 kl kc L C n hl hc hL hC (by omega) (by unfold maxLen; omega) (Nat.le_refl _) ?_
    intro w' hown hgr
    exact h w' ((Old.refl w).grown hgr (by simp))
end

theorem new_cm (lb m : Nat) (w : World) : Calls Try.prog 96 #[.func (.func 97) #[] #[.pointer (some ⟨lb, 0, none⟩)], .int .u16 m] w fun e w' => e = .returned (.pointer (some ⟨w.heap.size, 0, none⟩)) ∧ Old w w' ∧
    ∃ sep sh, w'.heap[w.heap.size]? = some (.cells #[.int .i64 (-1), .slice none 0 0, .int .u16 m, .func (.func 97) #[] #[.pointer (some ⟨lb, 0, none⟩)], .int .i64 0, sep, sh] 126) := by
  go_enter Try.func96, Try.ntmps96
  go_wp2_with fail
  go_ret
  exact ⟨rfl, Old.alloc _ _, _, _, heap_alloc_new w _⟩

theorem man_any (n m : Nat) (w : World) (hn : n ≤ 1000) (hm : m ≤ 1000) : Calls Try.prog 44 #[.int .i64 n, .int .i64 m] w fun e w' => ∃ p lb ta tc, e = .returned (.pointer (some ⟨p, 0, none⟩)) ∧ Old w w' ∧ w.heap.size ≤ p ∧
    CMx w' p lb (.slice ta n tc) (.slice ta n tc) m (-1, 0) := by
  have hmf : ∀ (fn : Fn) (first cap : Array Value) (w : World), (Instr.makeFunc fn first cap).run Try.prog w = .ok (.func fn first cap) w := fun _ _ _ _ => rfl
  have e1 : IntKind.u16.wrap (m : Int) = m := by have := IntKind.wrap_u16 (m : Int); rw [this]; omega
  have hinfo : (Try.prog.info? 137).map (fun i => (i.zero, i.size, i.bytes)) = some (some (.agg #[.string { data := #[] }, .string { data := #[] }]), 2, 32) := by kernel_rfl
  have HI := Lib.hid hinfo
  clear hinfo
  go_enter Try.func44, Try.ntmps44
  go_wp2_with (first
    | (at_make; refine wpList_make_new rfl _ _ 105 137 _ 2 32 rfl Try.underlying105 HI.out (by omega) _ _ _ _ n rfl rfl rfl rfl (by omega) ?_; intro w1 o1; have O1 := Lib.hid o1; clear o1)
    | (go_at_call 96; refine (new_cm w1.heap.size m _).mono ?_; rintro e w2 ⟨rfl, o2, sep, sh, hp⟩
       have HX : Hid (CMx w2 (w1.heap.size + 1) w1.heap.size (.slice none 0 0) (.slice (some ⟨w.heap.size, 0, none⟩) n n) m (-1, 0)) := by
         have hs : (w1.alloc (.cells #[.slice (some ⟨w.heap.size, 0, none⟩) n n] 105)).heap.size = w1.heap.size + 1 := by simp
         rw [hs] at hp
         exact ⟨⟨sep, sh, hp⟩, (o2.cell (by omega)).trans ((hcell (heap_alloc_new w1 _) 0).trans rfl), by omega⟩
       have O2 := Lib.hid ((O1.out.then_alloc _).trans o2)
       clear o2 hp)
    | (go_at_call 98; refine (reset_any (w1.heap.size + 1) w1.heap.size _ _ n n m _ w2 HX.out).mono ?_; rintro e w3 ⟨rfl, h3, b3⟩; have H3 := Lib.hid h3; have B3 := Lib.hid b3; clear h3 b3))
  go_ret
  exact ⟨_, _, _, _, rfl, (O2.out.but B3.out (by have := O1.out.size; omega)), by have := O1.out.size; omega, H3.out⟩

set_option maxHeartbeats 1000000 in
theorem choose_any (p lb : Nat) (ta : Option Addr) (n tc m : Nat) (s : CS) (k : Int) (w : World) (h : CMx w p lb (.slice ta n tc) (.slice ta n tc) m s) (hs : csOk n m s) (hn : n ≤ 1000) (hm1 : 1 ≤ m) (hm : m ≤ 1000) :
    Calls Try.prog 45 #[.pointer (some ⟨p, 0, none⟩), .int .u8 k] w fun e w' => e = .returned (.tuple #[]) ∧ CMx w' p lb (.slice ta n tc) (.slice ta n tc) m (csStep n m s k) ∧ But p w w' := by
  have H := Lib.hid h
  have S := Lib.hid hs
  clear h hs
  by_cases h1 : k = 1
  · subst h1
    go_enter Try.func45, Try.ntmps45
    go_wp2_with (go_at_call 99; refine (next_any p lb ta n tc m s w H.out S.out hn hm1 hm).mono ?_; rintro e w3 ⟨rfl, h3, b3⟩; have H3 := Lib.hid h3; have B3 := Lib.hid b3; clear h3 b3)
    go_end0
    exact ⟨rfl, H3.out, B3.out⟩
  · by_cases h2 : k = 2
    · subst h2
      go_enter Try.func45, Try.ntmps45
      go_wp2_with (go_at_call 100; refine (prev_any p lb ta n tc m s w H.out S.out hn hm1 hm).mono ?_; rintro e w3 ⟨rfl, h3, b3⟩; have H3 := Lib.hid h3; have B3 := Lib.hid b3; clear h3 b3)
      go_end0
      exact ⟨rfl, H3.out, B3.out⟩
    · by_cases h3 : k = 3
      · subst h3
        go_enter Try.func45, Try.ntmps45
        go_wp2_with (go_at_call 98; refine (reset_any p lb _ ta n tc m s w H.out).mono ?_; rintro e w3 ⟨rfl, h3, b3⟩; have H3 := Lib.hid h3; have B3 := Lib.hid b3; clear h3 b3)
        go_end0
        exact ⟨rfl, H3.out, B3.out⟩
      · have d1 : (k == 1) = false := by simpa using h1
        have d2 : (k == 2) = false := by simpa using h2
        have d3 : (k == 3) = false := by simpa using h3
        have R : Hid (csStep n m s k = s) := by unfold Hid csStep; rw [if_neg h1, if_neg h2, if_neg h3]
        clear h1 h2 h3
        go_enter Try.func45, Try.ntmps45
        go_wp2_with fail
        go_end0
        exact ⟨rfl, by rw [R.out]; exact H.out, But.refl _ _⟩

theorem choose_spec (a n k : Int) (w : World) (ha : -1 ≤ a) (ha2 : a ≤ 1000) (hn : 0 ≤ n) (hn2 : n ≤ 1000) :
    Calls Try.prog 15 #[.int .i64 a, .int .i64 n, .int .u8 k] w fun e w' => e = .returned (.int .i64 (choose1 a n k)) ∧ w' = w := by
  by_cases h1 : k = 1
  · subst h1
    by_cases h2 : a + 1 < n
    · go_enter Try.func15, Try.ntmps15
      go_wp2_with fail
      go_ret
      exact ⟨ret_int (by unfold choose1; rw [if_pos ⟨rfl, by omega⟩]), rfl⟩
    · go_enter Try.func15, Try.ntmps15
      go_wp2_with fail
      go_ret
      exact ⟨ret_int (by unfold choose1; rw [if_neg (by omega), if_neg (by omega), if_neg (by omega)]), rfl⟩
  · by_cases h2 : k = 2
    · subst h2
      by_cases h3 : a < 0
      · go_enter Try.func15, Try.ntmps15
        go_wp2_with fail
        go_ret
        exact ⟨ret_int (by unfold choose1; rw [if_neg (by omega), if_pos ⟨rfl, by omega⟩]), rfl⟩
      · go_enter Try.func15, Try.ntmps15
        go_wp2_with fail
        go_ret
        exact ⟨ret_int (by unfold choose1; rw [if_neg (by omega), if_neg (by omega), if_pos rfl]), rfl⟩
    · have d1 : (k == 1) = false := by simpa using h1
      have d2 : (k == 2) = false := by simpa using h2
      have R : Hid (choose1 a n k = -1) := by unfold Hid choose1; rw [if_neg (fun h => h1 h.1), if_neg (fun h => h2 h.1), if_neg h2]
      clear h1 h2
      go_enter Try.func15, Try.ntmps15
      go_wp2_with fail
      go_ret
      exact ⟨ret_int R.out, rfl⟩
end Go.Proofs.Ytbkdppfjmfepiaa
