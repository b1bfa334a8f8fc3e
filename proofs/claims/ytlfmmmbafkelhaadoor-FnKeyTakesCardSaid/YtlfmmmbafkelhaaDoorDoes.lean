/- spec.Editor.Do of the steps that take out. -/
import Derived.Test.YtlfmmmbafkelhaaDoorTakeK
import Derived.StillTailTactics
namespace Go.Proofs.YtlfmmmbafkelhaaDoor
open Go.RowKit
set_option linter.unusedVariables false
set_option linter.unusedSimpArgs false
set_option maxRecDepth 100000

theorem ED.cells {w : World} {E a : Nat} {l : List Int} {kv : Value} (h : ED w E l a kv) : ∃ lb c, (∀ o, (w.alloc o).cell? ⟨E, 0, none⟩ = some (.slice (some ⟨lb, 0, none⟩) l.length c)) ∧ (∀ o, (w.alloc o).cell? ⟨E, 1, none⟩ = some (.int .i64 a)) ∧ (∀ o, (w.alloc o).cell? ⟨E, 3, none⟩ = some (.bool false)) ∧ (∀ o, (w.alloc o).cell? ⟨E, 4, none⟩ = some (.bool false)) := by
  obtain ⟨lb, c, h1, h2, h3⟩ := h
  exact ⟨lb, c, fun o => cell_of_heap (at_alloc h1) 0, fun o => cell_of_heap (at_alloc h1) 1, fun o => cell_of_heap (at_alloc h1) 3, fun o => cell_of_heap (at_alloc h1) 4⟩
/-- What Editor.more does. -/
def Mores (E : Nat) (op : Int) (l : List Int) (a : Nat) (l' : List Int) (a' : Nat) : Prop :=
  ∀ (kv : Value) (w : World), ED w E l a kv → l.length ≤ 1000 → a ≤ l.length → Calls Tryd.prog 39 #[.pointer (some ⟨E, 0, none⟩), (opk op).v] w fun e w' => e = .returned (.int .i64 (-1)) ∧ ∃ kv', ED w' E l' a' kv' ∧ Mod E E w w'
theorem mod_alloc {E : Nat} {w w' : World} {o : Obj} (m : Mod E E (w.alloc o) w') (hE : E < w.heap.size) : Mod E E w w' := (Mod.of_old (Old.alloc w o)).trans m (Or.inl rfl)

theorem more_k15 (E : Nat) (l : List Int) (a : Nat) : Mores E 15 l a (l.take a ++ l.drop l.length) a := by
  intro kv w h hl hal
  have HA : Hid (∀ o, ED (w.alloc o) E l a kv) := fun o => h.old (Old.alloc w o)
  have hE := h.lt
  obtain ⟨lb, c, c0, c1, c3, c4⟩ := h.cells
  clear h
  unfold KeyS.v opk
  go_enter Tryd.func39, Tryd.ntmps39
  go_wp2_with (go_at_call 35; refine (take_keep E a a l.length l kv _ (HA.out _) hl (by omega) (by omega)).mono ?_; rintro e w2 ⟨rfl, kv', ed2, m2⟩; have E2 := Lib.hid ed2; have M2 := Lib.hid (mod_alloc m2 hE); clear ed2 m2 HA)
  go_ret
  exact ⟨rfl, kv', E2.out, M2.out⟩
theorem do_k15 (E : Nat) (l : List Int) (a : Nat) : Does E 15 l a (l.take a ++ l.drop l.length) a (-1) := by
  intro kv w h hl hal
  have HA : Hid (∀ o, ED (w.alloc o) E l a kv) := fun o => h.old (Old.alloc w o)
  have hE := h.lt
  obtain ⟨lb, c, c0, c1, c3, c4⟩ := h.cells
  clear h
  have MC := Lib.hid (more_k15 E l a)
  unfold Mores at MC
  unfold KeyS.v opk at *
  go_enter Tryd.func19, Tryd.ntmps19
  go_wp2_with (go_at_call 39; refine (MC.out kv _ (HA.out _) hl hal).mono ?_; rintro e w2 ⟨rfl, kv', ed2, m2⟩; have E2 := Lib.hid ed2; have M2 := Lib.hid (mod_alloc m2 hE); clear ed2 m2 HA MC)
  go_ret
  exact ⟨rfl, kv', E2.out, M2.out⟩

theorem more_k16 (E : Nat) (l : List Int) (a : Nat) (h0 : a ≠ 0) : Mores E 16 l a (l.take 0 ++ l.drop a) 0 := by
  intro kv w h hl hal
  have HA : Hid (∀ o, ED (w.alloc o) E l a kv) := fun o => h.old (Old.alloc w o)
  have hE := h.lt
  obtain ⟨lb, c, c0, c1, c3, c4⟩ := h.cells
  clear h
  have d0 : decide ((0 : Int) < a) = true := by simp; omega
  unfold KeyS.v opk
  go_enter Tryd.func39, Tryd.ntmps39
  go_wp2_with (go_at_call 35; refine (take_keep E a 0 a l kv _ (HA.out _) hl (by omega) (by omega)).mono ?_; rintro e w2 ⟨rfl, kv', ed2, m2⟩; have E2 := Lib.hid ed2; have M2 := Lib.hid (mod_alloc m2 hE); clear ed2 m2 HA)
  go_ret
  exact ⟨rfl, kv', E2.out, M2.out⟩
theorem do_k16 (E : Nat) (l : List Int) (a : Nat) (h0 : a ≠ 0) : Does E 16 l a (l.take 0 ++ l.drop a) 0 (-1) := by
  intro kv w h hl hal
  have HA : Hid (∀ o, ED (w.alloc o) E l a kv) := fun o => h.old (Old.alloc w o)
  have hE := h.lt
  obtain ⟨lb, c, c0, c1, c3, c4⟩ := h.cells
  clear h
  have MC := Lib.hid (more_k16 E l a h0)
  unfold Mores at MC
  unfold KeyS.v opk at *
  go_enter Tryd.func19, Tryd.ntmps19
  go_wp2_with (go_at_call 39; refine (MC.out kv _ (HA.out _) hl hal).mono ?_; rintro e w2 ⟨rfl, kv', ed2, m2⟩; have E2 := Lib.hid ed2; have M2 := Lib.hid (mod_alloc m2 hE); clear ed2 m2 HA MC)
  go_ret
  exact ⟨rfl, kv', E2.out, M2.out⟩

theorem more_k16z (E : Nat) (l : List Int) : Mores E 16 l 0 l 0 := by
  intro kv w h hl hal
  have HA : Hid (∀ o, ED (w.alloc o) E l 0 kv) := fun o => h.old (Old.alloc w o)
  obtain ⟨lb, c, c0, c1, c3, c4⟩ := h.cells
  have c1' : ∀ o, (w.alloc o).cell? ⟨E, 1, none⟩ = some (.int .i64 0) := c1
  clear h c1
  unfold KeyS.v opk
  go_enter Tryd.func39, Tryd.ntmps39
  go_wp2_with fail
  go_ret
  exact ⟨rfl, kv, HA.out _, Mod.of_old (Old.alloc w _)⟩
theorem do_k16z (E : Nat) (l : List Int) : Does E 16 l 0 l 0 (-1) := by
  intro kv w h hl hal
  have HA : Hid (∀ o, ED (w.alloc o) E l 0 kv) := fun o => h.old (Old.alloc w o)
  have hE := h.lt
  obtain ⟨lb, c, c0, c1, c3, c4⟩ := h.cells
  clear h
  have MC := Lib.hid (more_k16z E l)
  unfold Mores at MC
  unfold KeyS.v opk at *
  go_enter Tryd.func19, Tryd.ntmps19
  go_wp2_with (go_at_call 39; refine (MC.out kv _ (HA.out _) hl hal).mono ?_; rintro e w2 ⟨rfl, kv', ed2, m2⟩; have E2 := Lib.hid ed2; have M2 := Lib.hid (mod_alloc m2 hE); clear ed2 m2 HA MC)
  go_ret
  exact ⟨rfl, kv', E2.out, M2.out⟩
theorem do_k9 (E : Nat) (l : List Int) (a : Nat) : Does E 9 l a (l.take 0 ++ l.drop l.length) 0 (-1) := by
  intro kv w h hl hal
  have HA : Hid (∀ o, ED (w.alloc o) E l a kv) := fun o => h.old (Old.alloc w o)
  have hE := h.lt
  obtain ⟨lb, c, c0, c1, c3, c4⟩ := h.cells
  clear h
  unfold KeyS.v opk
  go_enter Tryd.func19, Tryd.ntmps19
  go_wp2_with (go_at_call 35; refine (take_keep E a 0 l.length l kv _ (HA.out _) hl (Nat.zero_le _) (Nat.le_refl _)).mono ?_; rintro e w2 ⟨rfl, kv', ed2, m2⟩; have E2 := Lib.hid ed2; have M2 := Lib.hid (mod_alloc m2 hE); clear ed2 m2 HA)
  go_ret
  exact ⟨rfl, kv', E2.out, M2.out⟩
theorem do_k6e (E : Nat) (l : List Int) : Does E 6 l l.length l l.length 0 := by
  intro kv w h hl hal
  have HA : Hid (∀ o, ED (w.alloc o) E l l.length kv) := fun o => h.old (Old.alloc w o)
  obtain ⟨lb, c, c0, c1, c3, c4⟩ := h.cells
  clear h
  unfold KeyS.v opk
  go_enter Tryd.func19, Tryd.ntmps19
  go_wp2_with fail
  go_ret
  exact ⟨rfl, kv, HA.out _, Mod.of_old (Old.alloc w _)⟩
theorem do_k6 (E : Nat) (l : List Int) (a : Nat) (h0 : a < l.length) : Does E 6 l a (l.take a ++ l.drop (a + 1)) a 1 := by
  intro kv w h hl hal
  have HA : Hid (∀ o, ED (w.alloc o) E l a kv) := fun o => h.old (Old.alloc w o)
  have hE := h.lt
  obtain ⟨lb, c, c0, c1, c3, c4⟩ := h.cells
  clear h
  have d0 : ((a : Int) == (l.length : Int)) = false := by simp; omega
  have e1 : IntKind.i64.wrap ((a : Int) + 1) = (a : Int) + 1 := IntWalk.i64_in _ (by omega)
  unfold KeyS.v opk
  go_enter Tryd.func19, Tryd.ntmps19
  go_wp2_with fail
  have H0 := Lib.hid (HA.out (.cells #[.int .i64 6, .string { data := #[] }, .int .i64 0, .bool false, .bool false] 28))
  have O0 := Lib.hid (Old.alloc w (.cells #[.int .i64 6, .string { data := #[] }, .int .i64 0, .bool false, .bool false] 28))
  have b0 := c0 (.cells #[.int .i64 6, .string { data := #[] }, .int .i64 0, .bool false, .bool false] 28)
  have b1 := c1 (.cells #[.int .i64 6, .string { data := #[] }, .int .i64 0, .bool false, .bool false] 28)
  clear HA c0 c1 c3 c4
  generalize w.alloc (.cells #[.int .i64 6, .string { data := #[] }, .int .i64 0, .bool false, .bool false] 28) = w0 at H0 O0 b0 b1 ⊢
  go_still_tail 10, (by kernel_rfl)
  change wpList _ _ _ _ _ w0.drew
  have HD := Lib.hid (H0.out.old (Old.drew w0))
  have OD := Lib.hid (O0.out.trans (Old.drew w0))
  clear H0 O0 b0 b1
  generalize w0.drew = w1 at HD OD ⊢
  go_wp2_with (go_at_call 35; refine (take_keep E a a (a + 1) l kv _ HD.out hl (by omega) (by omega)).mono ?_; rintro e w2 ⟨rfl, kv', ed2, m2⟩; have E2 := Lib.hid ed2; have M2 := Lib.hid ((Mod.of_old (p := E) (b := E) OD.out).trans m2 (Or.inl rfl)); clear ed2 m2 HD OD)
  go_ret
  exact ⟨rfl, kv', E2.out, M2.out⟩
theorem do_k7z (E : Nat) (l : List Int) : Does E 7 l 0 l 0 (-1) := by
  intro kv w h hl hal
  have HA : Hid (∀ o, ED (w.alloc o) E l 0 kv) := fun o => h.old (Old.alloc w o)
  obtain ⟨lb, c, c0, c1, c3, c4⟩ := h.cells
  have c1' : ∀ o, (w.alloc o).cell? ⟨E, 1, none⟩ = some (.int .i64 0) := c1
  clear h c1
  unfold KeyS.v opk
  go_enter Tryd.func19, Tryd.ntmps19
  go_wp2_with fail
  go_ret
  exact ⟨rfl, kv, HA.out _, Mod.of_old (Old.alloc w _)⟩
theorem do_k7 (E : Nat) (l : List Int) (a : Nat) : Does E 7 l (a + 1) (l.take a ++ l.drop (a + 1)) a (-1) := by
  intro kv w h hl hal
  have HA : Hid (∀ o, ED (w.alloc o) E l (a + 1) kv) := fun o => h.old (Old.alloc w o)
  have hE := h.lt
  obtain ⟨lb, c, c0, c1, c3, c4⟩ := h.cells
  have c1' : ∀ o, (w.alloc o).cell? ⟨E, 1, none⟩ = some (.int .i64 ((a : Int) + 1)) := c1
  clear h c1
  have d0 : decide ((0 : Int) < (a : Int) + 1) = true := by rw [decide_eq_true_eq]; omega
  have e1 : IntKind.i64.wrap (a : Int) = a := IntWalk.i64_in _ (by omega)
  unfold KeyS.v opk
  go_enter Tryd.func19, Tryd.ntmps19
  go_wp2_with fail
  have H0 := Lib.hid (HA.out (.cells #[.int .i64 7, .string { data := #[] }, .int .i64 0, .bool false, .bool false] 28))
  have O0 := Lib.hid (Old.alloc w (.cells #[.int .i64 7, .string { data := #[] }, .int .i64 0, .bool false, .bool false] 28))
  have b0 := c0 (.cells #[.int .i64 7, .string { data := #[] }, .int .i64 0, .bool false, .bool false] 28)
  have b1 := c1' (.cells #[.int .i64 7, .string { data := #[] }, .int .i64 0, .bool false, .bool false] 28)
  clear HA c0 c1' c3 c4
  generalize w.alloc (.cells #[.int .i64 7, .string { data := #[] }, .int .i64 0, .bool false, .bool false] 28) = w0 at H0 O0 b0 b1 ⊢
  go_still_tail 10, (by kernel_rfl)
  change wpList _ _ _ _ _ w0.drew
  have HD := Lib.hid (H0.out.old (Old.drew w0))
  have OD := Lib.hid (O0.out.trans (Old.drew w0))
  clear H0 O0 b0 b1
  generalize w0.drew = w1 at HD OD ⊢
  go_wp2_with (go_at_call 35; refine (take_no E (a + 1) a (a + 1) l kv _ HD.out hl (by omega) (by omega)).mono ?_; rintro e w2 ⟨rfl, kv', ed2, m2⟩; have E2 := Lib.hid ed2; have M2 := Lib.hid ((Mod.of_old (p := E) (b := E) OD.out).trans m2 (Or.inl rfl)); clear ed2 m2 HD OD)
  go_ret
  exact ⟨rfl, kv', E2.out, M2.out⟩
end Go.Proofs.YtlfmmmbafkelhaaDoor
