/- A render in memory: lines wrapped, room made. -/
import Derived.Test.YtnfpcpjiljjdfaaWr
import Derived.Test.YtnfpcpjiljjdfaaCaught
import Derived.LoopTactic
namespace Go.Proofs.Ytnfpcpjiljjdfaa
open Go.RowKit
set_option linter.unusedVariables false
set_option linter.unusedSimpArgs false
set_option linter.unnecessarySimpa false
set_option maxRecDepth 100000

/-- Block rb is a render whose writer is block wb, of c columns. -/
def RR (w : World) (rb wb c : Nat) : Prop := w.cell? ⟨rb, 0, none⟩ = some (.iface 110 (.pointer (some ⟨wb, 0, none⟩))) ∧ w.cell? ⟨rb, 6, none⟩ = some (.int .u16 c)
theorem RR.lt {w : World} {rb wb c : Nat} (h : RR w rb wb c) : rb < w.heap.size := World.block_lt_of_cell? w _ h.1
theorem RR.old {w w' : World} {rb wb c : Nat} (h : RR w rb wb c) (o : Old w w') : RR w' rb wb c := ⟨(o.cell h.lt).trans h.1, (o.cell h.lt).trans h.2⟩
theorem RR.low {w w' : World} {rb wb c base : Nat} (h : RR w rb wb c) (l : Low base wb w w') (h1 : rb < base) (h2 : rb ≠ wb) : RR w' rb wb c := ⟨(l.cell h1 h2).trans h.1, (l.cell h1 h2).trans h.2⟩

section
variable {P : Program} {ops : Array Oper} {rest : List Oper} {o : Oper} {a : Act} {Q : Exit → Act → World → Prop} {w : World}
theorem wpList_build (hgd : o.guard = none) (t : TypeId) (parts : Array (Nat × Operand)) (ho : o.op = .build t parts) (v : Value) (hr : ∀ W, (Instr.build t (parts.map fun (i, x) => (i, a.eval x))).run P W = .ok v W) (h : wpList P ops Q rest (a.put o.dst v) w) :
    wpList P ops Q (o :: rest) a w :=
  wpList_plain hgd fun _ hK => by
    unfold Oper.wp execOp
    simp only [ho, Sem.run_bind, Sem.run_pure, hr, Result.andThen_ok]
    exact hK _ _ h
end

def renderV (wb : Nat) (p : ByteArray) (c r : Nat) : Value :=
  .agg #[.iface 110 (.pointer (some ⟨wb, 0, none⟩)), .string p, .func (.func 92) #[] #[], .nilFunc, .string { data := #[] }, .int .u16 r, .int .u16 c, .int .i64 0,
    .int .i64 13, .int .i64 0, .int .i64 0, .int .i64 0, .int .i64 11, .int .i64 0, .int .i64 16, .int .i64 7, .int .i64 1, .int .i64 15, .int .i64 1, .int .i64 15, .int .i64 16, .int .i64 7, .int .i64 9, .int .i64 7]

set_option maxHeartbeats 4000000 in
theorem new_any (p : ByteArray) (c r : Nat) (w : World) : Calls Try.prog 38 #[.string p, .int .u16 c, .int .u16 r] w fun e w' => e = .returned (.pointer (some ⟨w.heap.size + 1, 0, none⟩)) ∧ Old w w' ∧ RR w' (w.heap.size + 1) w.heap.size c ∧
    w'.heap[w.heap.size]? = some (.cells #[.slice none 0 0] 112) ∧ w'.heap.size = w.heap.size + 2 := by
  go_enter Try.func38, Try.ntmps38
  go_wp2_with (refine wpList_build rfl 119 #[(1, .tmp 7), (0, .tmp 10), (2, .func 92), (5, .tmp 11), (6, .tmp 12), (8, .const (.int .i64 13)), (9, .const (.int .i64 0)), (10, .const (.int .i64 0)), (11, .const (.int .i64 0)), (12, .const (.int .i64 11)), (13, .const (.int .i64 0)), (14, .const (.int .i64 16)), (15, .const (.int .i64 7)), (16, .const (.int .i64 1)), (17, .const (.int .i64 15)), (18, .const (.int .i64 1)), (19, .const (.int .i64 15)), (20, .const (.int .i64 16)), (21, .const (.int .i64 7)), (22, .const (.int .i64 9)), (23, .const (.int .i64 7))] rfl (renderV w.heap.size p c r) (fun _ => by kernel_rfl) ?_; unfold renderV)
  go_ret
  have h1 : (w.alloc (.cells #[.slice none 0 0] 112)).heap.size = w.heap.size + 1 := by simp
  have h2 := heap_alloc_new (w.alloc (.cells #[.slice none 0 0] 112)) (.cells (renderV w.heap.size p c r).cells 119)
  rw [h1] at h2
  refine ⟨rfl, (Old.alloc _ _).then_alloc _, ⟨(heap_cell h2 0).trans rfl, (heap_cell h2 6).trans rfl⟩, ?_, by simp⟩
  exact (heap_alloc_old _ _ (by omega)).trans (heap_alloc_new w _)

/-- x, so many times. -/
def repN (x : List Int) : Nat → List Int
  | 0 => []
  | k + 1 => repN x k ++ x
theorem repN_len (x : List Int) : ∀ k, (repN x k).length = k * x.length
  | 0 => by simp [repN]
  | k + 1 => by rw [repN, List.length_append, repN_len x k, Nat.succ_mul]

/-- A writer's bytes as a string. -/
theorem wb_string {w : World} {base : Nat} {bv : Value} {t : ByteArray} (h : w.ownsRow base 5 1 bv t.size ((nums t).map (Value.int .u8))) : (convert 26 9 bv).run Try.prog w = .ok (.string t) w := by
  by_cases h0 : t.size = 0
  · have ht : t = ⟨#[]⟩ := by
      obtain ⟨d⟩ := t
      have : d.size = 0 := h0
      rw [Array.eq_empty_of_size_eq_zero this]
    rcases h.2 with ⟨rfl, _⟩ | ⟨g, cap, cur, rfl, _⟩
    · rw [run_convert_bytes_string w 26 9 5 none 0 0 Try.underlying26 Try.underlying5 Try.underlying9, ht]; rfl
    · exact bytes_back (P := Try.prog) w 26 9 5 g cap t Try.underlying26 Try.underlying5 Try.underlying9 (fun j hj => by omega)
  · obtain ⟨g, c, rfl⟩ := own_some h (by omega)
    exact bytes_back (P := Try.prog) w 26 9 5 g c t Try.underlying26 Try.underlying5 Try.underlying9 (own_cown h)

theorem bytes_any (rb wb c base : Nat) (s : List Int) (w : World) (hr : RR w rb wb c) (h : WB w wb base s) :
    Calls Try.prog 42 #[.pointer (some ⟨rb, 0, none⟩)] w fun e w' => w' = w ∧ ∃ bv, e = .returned bv ∧ w.ownsRow base 5 1 bv s.length (s.map (Value.int .u8)) := by
  obtain ⟨bv, h1, h2, h3, h4⟩ := h
  have c0 := hr.1
  have c1 : w.cell? ⟨wb, 0, none⟩ = some bv := (heap_cell h1 0).trans rfl
  have H2 := Lib.hid h2
  clear h1 h2 hr
  have ta : ∀ W : World, (Instr.typeAssert (.iface 110 (.pointer (some ⟨wb, 0, none⟩))) 116 110 false).run Try.prog W = .ok (.pointer (some ⟨wb, 0, none⟩)) W := fun _ => by kernel_rfl
  go_enter Try.func42, Try.ntmps42
  go_wp2_with fail
  go_ret
  exact ⟨rfl, bv, rfl, H2.out⟩

set_option maxHeartbeats 1000000 in
theorem area_any (rb wb c base n : Nat) (s : List Int) (w : World) (hr : RR w rb wb c) (h : WB w wb base s) (hb : rb < base) (hne : rb ≠ wb) (hn : n ≤ 100) (hs : s.length ≤ 1000) :
    Calls Try.prog 95 #[.pointer (some ⟨rb, 0, none⟩), .int .i64 n] w fun e w' => e = .returned (.tuple #[]) ∧ WB w' wb base (s ++ repN [27, 68] n ++ repN [27, 77] n) ∧ Low base wb w w' := by
  have HR := Lib.hid hr
  have HW := Lib.hid h
  have HN := Lib.hid hne
  clear h hr hne
  go_enter Try.func95, Try.ntmps95
  go_wp2_with fail
  go_loopw [4] (fun i wr => ∃ k : Nat, k ≤ n ∧ i = .int .i64 k ∧ WB wr wb base (s ++ repN [27, 68] k) ∧ Low base wb w wr) (fun i _ => n - (intOf i).toNat)
  case atStart => exact ⟨0, Nat.zero_le _, rfl, by simpa [repN] using HW.out, Low.refl _ _ _⟩
  case round =>
    obtain ⟨k, hk, rfl, hw, hl⟩ := hrel
    have W1 := Lib.hid hw
    have L1 := Lib.hid hl
    clear hw hl
    by_cases hkn : k < n
    · have c0 := (HR.out.low L1.out hb HN.out).1
      go_wp2_with (show Calls Try.prog 176 #[.pointer (some ⟨wb, 0, none⟩)] _ _; refine (down_any wb base _ _ W1.out (by rw [List.length_append, repN_len]; simp; omega)).mono ?_; rintro e w2 ⟨rfl, h2, l2⟩; have W2 := Lib.hid h2; have L2 := Lib.hid l2; clear h2 l2)
      go_roundw
      case rel => exact ⟨k + 1, by omega, by go_num, by rw [repN, ← List.append_assoc]; exact W2.out, L1.out.trans L2.out⟩
      case measure => simp [intOf]; omega
    · have hkn' : k = n := by omega
      subst hkn'
      obtain ⟨w0, rfl⟩ : ∃ w0 : World, w0 = wr := ⟨_, rfl⟩
      go_wp2_with fail
      go_loopw [5] (fun i wr => ∃ j : Nat, j ≤ k ∧ i = .int .i64 j ∧ WB wr wb base (s ++ repN [27, 68] k ++ repN [27, 77] j) ∧ Low base wb w wr) (fun i _ => k - (intOf i).toNat)
      case atStart => exact ⟨0, Nat.zero_le _, rfl, by simpa [repN] using W1.out, L1.out⟩
      case round =>
        obtain ⟨j, hj, rfl, hw, hl⟩ := hrel
        have W3 := Lib.hid hw
        have L3 := Lib.hid hl
        clear hw hl
        by_cases hjn : j < k
        · have c0 := (HR.out.low L3.out hb HN.out).1
          go_wp2_with (show Calls Try.prog 177 #[.pointer (some ⟨wb, 0, none⟩)] _ _; refine (up_any wb base _ _ W3.out (by rw [List.length_append, List.length_append, repN_len, repN_len]; simp; omega)).mono ?_; rintro e w2 ⟨rfl, h2, l2⟩; have W2 := Lib.hid h2; have L2 := Lib.hid l2; clear h2 l2)
          go_roundw
          case rel => exact ⟨j + 1, by omega, by go_num, by rw [repN, ← List.append_assoc]; exact W2.out, L3.out.trans L2.out⟩
          case measure => simp [intOf]; omega
        · have hjn' : j = k := by omega
          subst hjn'
          go_wp2_with fail
          go_end0
          exact ⟨rfl, W3.out, L3.out⟩

/-- x's bytes, so many times. -/
def repB (u : ByteArray) : Nat → ByteArray
  | 0 => ByteArray.empty
  | k + 1 => repB u k ++ u
theorem nums_repB (u : ByteArray) : ∀ k, nums (repB u k) = repN (nums u) k
  | 0 => rfl
  | k + 1 => by rw [repB, repN, ← nums_repB u k]; unfold nums; rw [ByteArray.data_append, Array.toList_append, List.map_append]
theorem size_repB (u : ByteArray) : ∀ k, (repB u k).size = k * u.size
  | 0 => by simp [repB]
  | k + 1 => by rw [repB, ByteArray.size_append, size_repB u k, Nat.succ_mul]
theorem nums_app (a b : ByteArray) : nums (a ++ b) = nums a ++ nums b := by unfold nums; rw [ByteArray.data_append, Array.toList_append, List.map_append]
def dn : ByteArray := ⟨#[27, 68]⟩
def upw : ByteArray := ⟨#[27, 77]⟩
theorem nums_dn : nums dn = [27, 68] := rfl
theorem nums_up : nums upw = [27, 77] := rfl

theorem Area_any (rb wb c base n : Nat) (s : List Int) (w : World) (hr : RR w rb wb c) (h : WB w wb base s) (hb : rb < base) (hne : rb ≠ wb) (hn : n ≤ 100) (hs : s.length ≤ 1000) :
    Calls Try.prog 43 #[.pointer (some ⟨rb, 0, none⟩), .int .i64 n] w fun e w' => e = .returned (.tuple #[]) ∧ WB w' wb base (s ++ repN [27, 68] n ++ repN [27, 77] n) ∧ Low base wb w w' := by
  go_enter Try.func43, Try.ntmps43
  go_wp2_with (go_at_call 95; refine (area_any rb wb c base n s w hr h hb hne hn hs).mono ?_; rintro e w1 ⟨rfl, h1, l1⟩)
  go_end0
  exact ⟨rfl, h1, l1⟩

theorem prepared_any (n : Nat) (w : World) (hn : n ≤ 100) :
    Calls Try.prog 12 #[.int .i64 n] w fun e w' => e = .returned (.tuple #[.string (repB dn n ++ repB upw n), .bool true]) ∧ Old w w' := by
  go_enter Try.func12, Try.ntmps12
  go_wp2_with (first
    | (go_at_call 38; refine (new_any _ 1 1 w).mono ?_; rintro e w1 ⟨rfl, o1, r1, h1, s1⟩; have O1 := Lib.hid o1; have R1 := Lib.hid r1; have H1 := Lib.hid h1; have S1 := Lib.hid s1; clear o1 r1 h1 s1)
    | (go_at_call 43; refine (Area_any (w.heap.size + 1) w.heap.size 1 (w.heap.size + 2) n [] w1 R1.out ⟨_, H1.out, by simpa using World.ownsRow_nil w1 _ _ _, by omega, by have := S1.out; omega⟩ (by omega) (by omega) hn (by simp)).mono ?_; rintro e w2 ⟨rfl, h2, l2⟩; have H2 := Lib.hid h2; have L2 := Lib.hid l2; clear h2 l2)
    | (go_at_call 42; refine (bytes_any (w.heap.size + 1) w.heap.size 1 (w.heap.size + 2) _ w2 (R1.out.low L2.out (by omega) (by omega)) H2.out).mono ?_; rintro e w3 ⟨rfl, bv, rfl, hown⟩
       have hq : ([] ++ repN [27, 68] n ++ repN [27, 77] n) = nums (repB dn n ++ repB upw n) := by rw [nums_app, nums_repB, nums_repB, nums_dn, nums_up]; rfl
       rw [hq, length_nums] at hown
       have cv := wb_string hown
       clear hq hown))
  go_ret2
  exact ⟨rfl, O1.out.low L2.out (Nat.le_refl _) (by omega)⟩

/-- What ends a full line. -/
def wrapsB (place c : Nat) : ByteArray := if 0 < place ∧ place % c = 0 then ⟨#[10]⟩ else ⟨#[]⟩

set_option maxHeartbeats 1000000 in
theorem wrap_any (rb wb c base place : Nat) (w : World) (hr : RR w rb wb c) (h : WB w wb base []) (hb : rb < base) (hne : rb ≠ wb) (hp : place ≤ 10000) (hc : 1 ≤ c) (hc2 : c ≤ 200) :
    Calls Try.prog 94 #[.pointer (some ⟨rb, 0, none⟩), .int .i64 place] w fun e w' => e = .returned (.tuple #[]) ∧ WB w' wb base (nums (wrapsB place c)) ∧ Low base wb w w' := by
  have c0 := hr.1
  have c6 := hr.2
  have H := Lib.hid h
  have hle := h
  obtain ⟨_, _, _, _, hle⟩ := hle
  have hc0 : ((c : Int) == 0) = false := by rw [beq_eq_false_iff_ne]; omega
  clear hr h
  by_cases h1 : 0 < place
  · cases h2 : ((place : Int) % (c : Int) == 0)
    · have hq : ¬ (place % c = 0) := by
        have : ¬ ((place : Int) % (c : Int) = 0) := by simpa using h2
        intro e; apply this; exact_mod_cast e
      have HQ : Hid (wrapsB place c = ⟨#[]⟩) := by unfold Hid wrapsB; rw [if_neg (fun x => hq x.2)]
      clear hq
      go_enter Try.func94, Try.ntmps94
      go_wp2_with fail
      go_end0
      exact ⟨rfl, by rw [HQ.out]; exact H.out, Low.refl _ _ _⟩
    · have hq : place % c = 0 := by
        have : ((place : Int) % (c : Int) = 0) := by simpa using h2
        exact_mod_cast this
      have HQ : Hid (wrapsB place c = ⟨#[10]⟩) := by unfold Hid wrapsB; rw [if_pos ⟨h1, hq⟩]
      clear hq
      go_enter Try.func94, Try.ntmps94
      go_wp2_with (show Calls Try.prog 178 #[.pointer (some ⟨wb, 0, none⟩), _] _ _; refine (raw_any wb base w.heap.size 0 1 1 [] [10] _ (H.out.old (Old.alloc _ _)) rfl (one_at w 10) (by omega) (by simp)).mono ?_; rintro e w2 ⟨rfl, h2, l2⟩; have W2 := Lib.hid h2; have L2 := Lib.hid l2; clear h2 l2)
      go_end0
      exact ⟨rfl, by rw [HQ.out]; exact W2.out, (Low.of_old (Old.alloc _ _) hle).trans L2.out⟩
  · have HQ : Hid (wrapsB place c = ⟨#[]⟩) := by unfold Hid wrapsB; rw [if_neg (fun x => h1 x.1)]
    go_enter Try.func94, Try.ntmps94
    go_wp2_with fail
    go_end0
    exact ⟨rfl, by rw [HQ.out]; exact H.out, Low.refl _ _ _⟩

theorem Wrap_any (rb wb c base place : Nat) (w : World) (hr : RR w rb wb c) (h : WB w wb base []) (hb : rb < base) (hne : rb ≠ wb) (hp : place ≤ 10000) (hc : 1 ≤ c) (hc2 : c ≤ 200) :
    Calls Try.prog 41 #[.pointer (some ⟨rb, 0, none⟩), .int .i64 place] w fun e w' => e = .returned (.tuple #[]) ∧ WB w' wb base (nums (wrapsB place c)) ∧ Low base wb w w' := by
  go_enter Try.func41, Try.ntmps41
  go_wp2_with (go_at_call 94; refine (wrap_any rb wb c base place w hr h hb hne hp hc hc2).mono ?_; rintro e w1 ⟨rfl, h1, l1⟩)
  go_end0
  exact ⟨rfl, h1, l1⟩

theorem lw1_any (v q rb wb c base place : Nat) (w : World) (hv : w.cell? ⟨v, 0, none⟩ = some (.pointer (some ⟨rb, 0, none⟩))) (hq : w.cell? ⟨q, 0, none⟩ = some (.int .i64 place)) (hr : RR w rb wb c) (h : WB w wb base []) (hb : rb < base) (hne : rb ≠ wb) (hp : place ≤ 10000) (hc : 1 ≤ c) (hc2 : c ≤ 200) :
    Calls Try.prog 40 #[.pointer (some ⟨v, 0, none⟩), .pointer (some ⟨q, 0, none⟩)] w fun e w' => e = .returned (.tuple #[]) ∧ WB w' wb base (nums (wrapsB place c)) ∧ Low base wb w w' := by
  have HR := Lib.hid hr
  have HW := Lib.hid h
  have HN := Lib.hid hne
  clear hr h hne
  go_enter Try.func40, Try.ntmps40
  go_wp2_with (go_at_call 41; refine (Wrap_any rb wb c base place w HR.out HW.out hb HN.out hp hc hc2).mono ?_; rintro e w1 ⟨rfl, h1, l1⟩)
  go_end0
  exact ⟨rfl, h1, l1⟩

theorem win_any (c : Nat) (w : World) (hc : c ≤ 200) : Calls Try.prog 37 #[.int .i64 c, .int .i64 0] w fun e w' => e = .returned (.bool true) ∧ w' = w := by
  go_enter Try.func37, Try.ntmps37
  go_wp2_with fail
  go_ret
  exact ⟨rfl, rfl⟩

/-- The closure within caught. -/
theorem lwc_any (v q rb wb c place : Nat) (w : World) (hv : w.cell? ⟨v, 0, none⟩ = some (.pointer (some ⟨rb, 0, none⟩))) (hq : w.cell? ⟨q, 0, none⟩ = some (.int .i64 place)) (hr : RR w rb wb c) (h : w.heap[wb]? = some (.cells #[.slice none 0 0] 112)) (hne : rb ≠ wb) (hp : place ≤ 10000) (hc : 1 ≤ c) (hc2 : c ≤ 200) :
    Calls Try.prog 39 #[.func (.func 40) #[] #[.pointer (some ⟨v, 0, none⟩), .pointer (some ⟨q, 0, none⟩)]] w fun e w' => e = .returned (.bool true) ∧ WB w' wb (w.heap.size + 1) (nums (wrapsB place c)) ∧ Low w.heap.size wb w w' := by
  have hwl : wb < w.heap.size := (Array.getElem?_eq_some_iff.1 h).1
  have o1 : Old w (w.alloc (.cells #[.bool false] 4)) := Old.alloc _ _
  have s1 : (w.alloc (.cells #[.bool false] 4)).heap.size = w.heap.size + 1 := by simp
  have z1 := heap_alloc_new w (.cells #[.bool false] 4)
  have hcl := lw1_any v q rb wb c (w.heap.size + 1) place (w.alloc (.cells #[.bool false] 4)) ((o1.cell (World.block_lt_of_cell? w _ hv)).trans hv) ((o1.cell (World.block_lt_of_cell? w _ hq)).trans hq) (hr.old o1)
    ⟨_, (o1.heap hwl).trans h, by simpa using World.ownsRow_nil _ _ _ _, by omega, by omega⟩ (by have := hr.lt; omega) hne hp hc hc2
  refine (caught_ok 40 _ w (fun w' => WB w' wb (w.heap.size + 1) (nums (wrapsB place c)) ∧ Low (w.heap.size + 1) wb (w.alloc (.cells #[.bool false] 4)) w') (fun _ => rfl) (hcl.mono ?_)).mono ?_
  · rintro e w2 ⟨rfl, h2, l2⟩
    exact ⟨rfl, (l2.block w.heap.size (by omega) (by omega)).trans z1, h2, l2⟩
  · rintro e w3 ⟨rfl, w2, ⟨h2, l2⟩, rfl⟩
    obtain ⟨bv, g1, g2, g3, g4⟩ := h2
    refine ⟨rfl, ⟨bv, (Below.heap_setCell w2 ⟨w.heap.size, 0, none⟩ _ wb (by simp; omega)).trans g1, own_same g2 (fun g hg _ => Below.heap_setCell w2 ⟨w.heap.size, 0, none⟩ _ g (by simp; omega)), by omega, by simpa [World.setCell] using g4⟩, l2.os, l2.tape, l2.output, by have := l2.size; rw [s1] at this; simp [World.setCell]; omega, fun k hk h1 => ?_⟩
    rw [Below.heap_setCell w2 ⟨w.heap.size, 0, none⟩ _ k (by simp; omega), l2.block k (by omega) h1]
    exact heap_alloc_old _ _ hk

set_option maxHeartbeats 1000000 in
theorem lineWrapped_any (place c : Nat) (w : World) (hp : place ≤ 10000) (hc : 1 ≤ c) (hc2 : c ≤ 200) :
    Calls Try.prog 11 #[.int .i64 place, .int .i64 c] w fun e w' => e = .returned (.tuple #[.string (wrapsB place c), .bool true]) ∧ Old w w' := by
  have hmf : ∀ (fn : Fn) (first cap : Array Value) (w : World), (Instr.makeFunc fn first cap).run Try.prog w = .ok (.func fn first cap) w := fun _ _ _ _ => rfl
  have e1 : IntKind.u16.wrap (c : Int) = c := by have := IntKind.wrap_u16 (c : Int); rw [this]; omega
  have hq0 : (w.alloc (.cells #[.int .i64 place] 3)).cell? ⟨w.heap.size, 0, none⟩ = some (.int .i64 place) := (heap_cell (heap_alloc_new w _) 0).trans rfl
  have HQ := Lib.hid hq0
  have hS : (w.alloc (.cells #[.int .i64 place] 3)).heap.size = w.heap.size + 1 := by simp
  have HS := Lib.hid hS
  clear hq0 hS
  go_enter Try.func11, Try.ntmps11
  go_wp2_with (first
    | (go_at_call 37; refine (win_any c _ hc2).mono ?_; rintro e w0 ⟨rfl, rfl⟩)
    | (go_at_call 38; refine (new_any _ c 0 _).mono ?_; rintro e w1 ⟨rfl, o1, r1, h1, s1⟩; rw [HS.out] at r1 h1 s1 ⊢; have O1 := Lib.hid o1; have R1 := Lib.hid r1; have H1 := Lib.hid h1; have S1 := Lib.hid s1; clear o1 r1 h1 s1)
    | (go_at_call 39
       have hv0 := heap_alloc_new w1 (.cells #[.pointer (some ⟨w.heap.size + 1 + 1, 0, none⟩)] 69)
       have oA : Old w1 (w1.alloc (.cells #[.pointer (some ⟨w.heap.size + 1 + 1, 0, none⟩)] 69)) := Old.alloc _ _
       have sA : (w1.alloc (.cells #[.pointer (some ⟨w.heap.size + 1 + 1, 0, none⟩)] 69)).heap.size = w1.heap.size + 1 := by simp
       have SA := Lib.hid sA
       have OA := Lib.hid oA
       refine (lwc_any w1.heap.size w.heap.size (w.heap.size + 1 + 1) (w.heap.size + 1) c place _ ((heap_cell hv0 0).trans rfl) ((oA.cell (by have := S1.out; omega)).trans ((O1.out.cell (by have := HS.out; omega)).trans HQ.out)) (R1.out.old oA) ((oA.heap (by have := S1.out; omega)).trans H1.out) (by omega) hp hc hc2).mono ?_
       clear hv0 oA sA
       rintro e w2 ⟨rfl, h2, l2⟩
       rw [SA.out] at h2 l2
       have cv2 : w2.cell? ⟨w1.heap.size, 0, none⟩ = some (.pointer (some ⟨w.heap.size + 1 + 1, 0, none⟩)) := (l2.cell (by omega) (by have := S1.out; omega)).trans ((heap_cell (heap_alloc_new w1 _) 0).trans rfl)
       have H2 := Lib.hid h2
       have L2 := Lib.hid l2
       clear h2 l2)
    | (go_at_call 42
       refine (bytes_any (w.heap.size + 1 + 1) (w.heap.size + 1) c _ _ w2 ((R1.out.old OA.out).low L2.out (by have := S1.out; omega) (by omega)) H2.out).mono ?_
       rintro e w3 ⟨rfl, bv, rfl, hown⟩
       rw [length_nums] at hown
       have cv := wb_string hown
       clear hown))
  go_ret2
  exact ⟨rfl, (((Old.alloc w _).trans O1.out).trans OA.out).low L2.out (by omega) (by have := S1.out; omega)⟩
end Go.Proofs.Ytnfpcpjiljjdfaa
