/- impl.Keyed: the line behind some steps, and what they tell. -/
import Derived.Test.YtlfmmmbafkelhaaDoorLoop
import Derived.Test.YtlfmmmbafkelhaaDoorCaught
import Derived.Deep.RegionHeld3
namespace Go.Proofs.YtlfmmmbafkelhaaDoor
open Go.RowKit
set_option linter.unusedVariables false
set_option linter.unusedSimpArgs false
set_option maxRecDepth 100000

/-- The steps in memory: a slice of structs of five cells. -/
def KeysAt (w : World) (v : Value) (n : Nat) (ks : Nat → KeyS) : Prop :=
  ∃ kb ko kc, v = .slice (some ⟨kb, ko, none⟩) n kc ∧ n ≤ kc ∧ kc ≤ maxLen ∧ ∀ j, j < n → ∀ i, i < 5 → w.cell? ⟨kb, ko + j * 5 + i, none⟩ = some ((ks j).cs.getD i undef)


theorem own_base_le {w : World} {b0 b1 : Nat} {e : TypeId} {sz n : Nat} {v : Value} {xs : List Value} (h : w.ownsRow b0 e sz v n xs) (hb : b1 ≤ b0) : w.ownsRow b1 e sz v n xs := by
  refine ⟨h.1, ?_⟩
  rcases h.2 with h | ⟨g, cap, cur, hv, h1, h2⟩
  · exact .inl h
  · exact .inr ⟨g, cap, cur, hv, Nat.le_trans hb h1, h2⟩

theorem KI.caught {W w1 : World} {o : Obj} {p F T b : Nat} {st : St} {tl : List Int} (h : KI (W.alloc o) w1 p F T b st tl) (hc : w1.heap[W.heap.size]? = some (.cells #[.bool false] 4)) (hp0 : p < W.heap.size) (hF0 : F < W.heap.size) (hT0 : T < W.heap.size) :
    KI W (w1.setCell ⟨W.heap.size, 0, none⟩ (.bool true)) p F T b st tl := by
  have hs : (W.alloc o).heap.size = W.heap.size + 1 := by simp
  have ha : ∀ k, k ≠ W.heap.size → (w1.setCell ⟨W.heap.size, 0, none⟩ (.bool true)).heap[k]? = w1.heap[k]? := fun k hk => Below.heap_setCell w1 ⟨W.heap.size, 0, none⟩ _ k hk
  have hsz : (w1.setCell ⟨W.heap.size, 0, none⟩ (.bool true)).heap.size = w1.heap.size := by simp [World.setCell]
  have h1 := h.size
  have h2 := h.new
  obtain ⟨tv, hT1, hT2, hT3⟩ := h.hT
  refine ⟨h.os, h.tape, h.output, by rw [hsz]; omega, fun k hk g1 g2 g3 => (ha k (by omega)).trans ((h.kept k (by omega) g1 g2 g3).trans ((Old.alloc W o).heap hk)), ?_, by omega, (ha F (by omega)).trans h.hF, ⟨tv, (ha T (by omega)).trans hT1, own_base_le (own_keep hT2 (fun g hg => ?_)) (Old.alloc W o).size, hT3⟩⟩
  · exact h.rb.keep (k := W.heap.size) (fun i _ hi => ha i hi) (by rw [hsz]; exact Nat.le_refl _) (by omega) (h.rb.ne_of_type hc (by decide)) (fun x => by rw [heap1_cell hc]; simp)
  · have := (own_type hT2 hg).1
    exact ha g (by omega)

set_option maxHeartbeats 1000000 in
theorem caught_all (L R F T p kb ko n kc : Nat) (ks : Nat → KeyS) (sts : Nat → St) (tl : Nat → Int) (s : ByteArray) (k : Nat) (W : World)
    (hL : W.heap[L]? = some (.cells #[.slice (some ⟨kb, ko, none⟩) n kc] 29)) (hR : W.heap[R]? = some (.cells #[.pointer (some ⟨p, 0, none⟩)] 63))
    (hF : W.heap[F]? = some (.cells #[.bool true] 4)) (hT : W.heap[T]? = some (.cells #[.slice none 0 0] 39))
    (hP : PB W p (.slice none 0 0) (.int .i64 0) (.slice none 0 0))
    (hks : ∀ j, j < n → ∀ i, i < 5 → W.cell? ⟨kb, ko + j * 5 + i, none⟩ = some ((ks j).cs.getD i undef))
    (hkn : n ≤ kc) (hkc : kc ≤ maxLen) (hn : 1 ≤ n) (hn2 : n ≤ 1000)
    (hkp : kb ≠ p ∧ kb ≠ F ∧ kb ≠ T)
    (h0 : ks 0 = setk s k) (ht0 : tl 0 = -1) (h1 : sts 1 = ⟨runes s, k, [], T⟩) (hs : s.size ≤ 1000) (hk : k ≤ (runes s).length) (hl : (runes s).length ≤ 1000)
    (hst : ∀ j, 1 ≤ j → j < n → ∀ b w, RB w p b (sts j) → Keyed p b (ks j) (sts (j + 1)) (tl j) w) (htt : ∀ j, (sts j).t = T) :
    Calls Tryd.prog 49 #[.func (.func 50) #[] #[.pointer (some ⟨L, 0, none⟩), .pointer (some ⟨R, 0, none⟩), .pointer (some ⟨F, 0, none⟩), .pointer (some ⟨T, 0, none⟩)]] W fun e w' =>
      e = .returned (.bool true) ∧ ∃ b, KI W w' p F T b (sts n) (tellsTo tl n) := by
  have hp0 := hP.lt
  have hF0 : F < W.heap.size := (Array.getElem?_eq_some_iff.1 hF).1
  have hT0 : T < W.heap.size := (Array.getElem?_eq_some_iff.1 hT).1
  have hPh : ∃ C, W.heap[p]? = some (.cells C 73) := by obtain ⟨_, _, _, _, _, _, _, _, h⟩ := hP; exact ⟨_, h⟩
  obtain ⟨C, hPh⟩ := hPh
  have e1 : p ≠ F := ne_of_types hPh hF (by decide)
  have e2 : p ≠ T := ne_of_types hPh hT (by decide)
  have e3 : F ≠ T := ne_of_types hF hT (by decide)
  have e4 : L ≠ p ∧ L ≠ F ∧ L ≠ T := ⟨ne_of_types hL hPh (by decide), ne_of_types hL hF (by decide), ne_of_types hL hT (by decide)⟩
  have e5 : R ≠ p ∧ R ≠ F ∧ R ≠ T := ⟨ne_of_types hR hPh (by decide), ne_of_types hR hF (by decide), ne_of_types hR hT (by decide)⟩
  have o := Old.alloc W (.cells #[.bool false] 4)
  have HC := keyed1_any L R F T p kb ko n kc ks sts tl s k (W.alloc (.cells #[.bool false] 4)) (heap1_cell ((o.heap (Array.getElem?_eq_some_iff.1 hL).1).trans hL)) (heap1_cell ((o.heap (Array.getElem?_eq_some_iff.1 hR).1).trans hR))
    ((o.heap hF0).trans hF) ((o.heap hT0).trans hT) (hP.old o) (fun j hj i hi => (o.cell (World.block_lt_of_cell? W _ (hks j hj i hi))).trans (hks j hj i hi)) hkn hkc hn hn2 e4 e5 hkp ⟨e1, e2, e3⟩ h0 ht0 h1 hs hk hl hst htt
    (Nat.lt_of_lt_of_le hp0 o.size) (Nat.lt_of_lt_of_le hF0 o.size) (Nat.lt_of_lt_of_le hT0 o.size)
  refine (caught_ok 50 _ W (fun w1 => w1.heap[W.heap.size]? = some (.cells #[.bool false] 4) ∧ ∃ b, KI (W.alloc (.cells #[.bool false] 4)) w1 p F T b (sts n) (tellsTo tl n)) (fun _ => by kernel_rfl) (HC.mono fun e w' h => ?_)).mono fun e w' h => ?_
  · obtain ⟨he, b, hki⟩ := h
    have hb := (hki.kept W.heap.size (by simp) (by omega) (by omega) (by omega)).trans (heap_alloc_new W _)
    exact ⟨he, hb, hb, b, hki⟩
  · obtain ⟨he, w1, ⟨hb, b, hki⟩, rfl⟩ := h
    exact ⟨he, b, hki.caught hb hp0 hF0 hT0⟩

theorem KI.old_of {w W w2 : World} {p F T b : Nat} {st : St} {tl : List Int} (h : KI W w2 p F T b st tl) (o : Old w W) (hs : W.heap.size = w.heap.size + 6) (hp : w.heap.size ≤ p := by omega) (hF : w.heap.size ≤ F := by omega) (hT : w.heap.size ≤ T := by omega) : Old w w2 :=
  ⟨h.os.trans (Below.os o), h.tape.trans (Below.tape o), h.output.trans (Below.output o), Nat.le_trans o.size h.size, fun k hk => (h.kept k (by omega) (by omega) (by omega) (by omega)).trans (o.heap hk)⟩
theorem six_old (w : World) (o1 o2 o3 o4 o5 o6 : Obj) : Old w (((((w.alloc o1).alloc o2).alloc o3).alloc o4).alloc o5 |>.alloc o6) :=
  (((((Old.alloc w o1).trans (Old.alloc _ o2)).trans (Old.alloc _ o3)).trans (Old.alloc _ o4)).trans (Old.alloc _ o5)).trans (Old.alloc _ o6)
theorem at_alloc {w : World} {o x : Obj} {k : Nat} (h : w.heap[k]? = some x) : (w.alloc o).heap[k]? = some x := ((Old.alloc w o).heap (Array.getElem?_eq_some_iff.1 h).1).trans h
theorem at_new (w : World) (o : Obj) {k : Nat} (hk : k = w.heap.size) : (w.alloc o).heap[k]? = some o := by rw [hk]; exact heap_alloc_new w o
theorem six_heap (w : World) (o1 o2 o3 o4 o5 o6 : Obj) :
    (((((w.alloc o1).alloc o2).alloc o3).alloc o4).alloc o5 |>.alloc o6).heap.size = w.heap.size + 6 ∧
    (((((w.alloc o1).alloc o2).alloc o3).alloc o4).alloc o5 |>.alloc o6).heap[w.heap.size]? = some o1 ∧
    (((((w.alloc o1).alloc o2).alloc o3).alloc o4).alloc o5 |>.alloc o6).heap[w.heap.size + 1]? = some o2 ∧
    (((((w.alloc o1).alloc o2).alloc o3).alloc o4).alloc o5 |>.alloc o6).heap[w.heap.size + 1 + 1]? = some o3 ∧
    (((((w.alloc o1).alloc o2).alloc o3).alloc o4).alloc o5 |>.alloc o6).heap[w.heap.size + 1 + 1 + 1]? = some o4 ∧
    (((((w.alloc o1).alloc o2).alloc o3).alloc o4).alloc o5 |>.alloc o6).heap[w.heap.size + 1 + 1 + 1 + 1]? = some o5 ∧
    (((((w.alloc o1).alloc o2).alloc o3).alloc o4).alloc o5 |>.alloc o6).heap[w.heap.size + 1 + 1 + 1 + 1 + 1]? = some o6 := by
  exact ⟨by simp, at_alloc (at_alloc (at_alloc (at_alloc (at_alloc (at_new w o1 rfl))))), at_alloc (at_alloc (at_alloc (at_alloc (at_new _ o2 (by simp))))), at_alloc (at_alloc (at_alloc (at_new _ o3 (by simp)))), at_alloc (at_alloc (at_new _ o4 (by simp))), at_alloc (at_new _ o5 (by simp)), at_new _ o6 (by simp)⟩

/-- What impl.caught has left in impl.Keyed's world. -/
structure MK (w w2 : World) (b : Nat) (st : St) (tl : List Int) (tg n tc : Nat) : Prop where
  old : Old w w2
  h1 : w2.heap[w.heap.size + 1]? = some (.cells #[.string { data := #[] }, .int .i64 0] 23)
  h4 : w2.heap[w.heap.size + 1 + 1 + 1 + 1]? = some (.cells #[.pointer (some ⟨w.heap.size + 1 + 1 + 1, 0, none⟩)] 63)
  hF : w2.heap[w.heap.size + 1 + 1 + 1 + 1 + 1]? = some (.cells #[.bool true] 4)
  hT : w2.heap[w.heap.size + 1 + 1]? = some (.cells #[.slice (some ⟨tg, 0, none⟩) n tc] 39)
  rb : RB w2 (w.heap.size + 1 + 1 + 1) b st
  row : w2.ownsRow w.heap.size 3 1 (.slice (some ⟨tg, 0, none⟩) n tc) n (tl.map (Value.int .i64))
theorem MK.c1 {w w2 : World} {b : Nat} {st : St} {tl : List Int} {tg n tc : Nat} (h : MK w w2 b st tl tg n tc) : w2.cell? ⟨w.heap.size + 1, 0, none⟩ = some (.string { data := #[] }) := cell_of_heap h.h1 0
theorem MK.c2 {w w2 : World} {b : Nat} {st : St} {tl : List Int} {tg n tc : Nat} (h : MK w w2 b st tl tg n tc) : w2.cell? ⟨w.heap.size + 1, 1, none⟩ = some (.int .i64 0) := cell_of_heap h.h1 1

theorem MK.later {w w2 w3 : World} {b : Nat} {st : St} {tl : List Int} {tg n tc : Nat} (h : MK w w2 b st tl tg n tc) (o : Old w2 w3) : MK w w3 b st tl tg n tc :=
  ⟨h.old.trans o, (o.heap (Array.getElem?_eq_some_iff.1 h.h1).1).trans h.h1, (o.heap (Array.getElem?_eq_some_iff.1 h.h4).1).trans h.h4, (o.heap (Array.getElem?_eq_some_iff.1 h.hF).1).trans h.hF, (o.heap (Array.getElem?_eq_some_iff.1 h.hT).1).trans h.hT, h.rb.old o,
    own_keep h.row (fun g hg => by
      obtain ⟨C, hC⟩ := (own_type h.row hg).2
      exact o.heap (Array.getElem?_eq_some_iff.1 hC).1)⟩
theorem MK.drew {w w2 : World} {b : Nat} {st : St} {tl : List Int} {tg n tc : Nat} (h : MK w w2 b st tl tg n tc) : MK w w2.drew b st tl tg n tc := h.later (Old.drew w2)

theorem MK.ended {w w2 : World} {b : Nat} {st : St} {tl : List Int} {tg n tc : Nat} (h : MK w w2 b st tl tg n tc) (x y : Value) :
    (((w2.setCell ⟨w.heap.size + 1, 0, none⟩ x).setCell ⟨w.heap.size + 1, 1, none⟩ y).setCell ⟨w.heap.size + 1 + 1, 0, none⟩ (.slice (some ⟨tg, 0, none⟩) n tc)).heap[w.heap.size + 1]? = some (.cells #[x, y] 23) ∧
    (((w2.setCell ⟨w.heap.size + 1, 0, none⟩ x).setCell ⟨w.heap.size + 1, 1, none⟩ y).setCell ⟨w.heap.size + 1 + 1, 0, none⟩ (.slice (some ⟨tg, 0, none⟩) n tc)).heap[w.heap.size + 1 + 1]? = some (.cells #[.slice (some ⟨tg, 0, none⟩) n tc] 39) ∧
    Old w (((w2.setCell ⟨w.heap.size + 1, 0, none⟩ x).setCell ⟨w.heap.size + 1, 1, none⟩ y).setCell ⟨w.heap.size + 1 + 1, 0, none⟩ (.slice (some ⟨tg, 0, none⟩) n tc)) ∧
    (((w2.setCell ⟨w.heap.size + 1, 0, none⟩ x).setCell ⟨w.heap.size + 1, 1, none⟩ y).setCell ⟨w.heap.size + 1 + 1, 0, none⟩ (.slice (some ⟨tg, 0, none⟩) n tc)).ownsRow w.heap.size 3 1 (.slice (some ⟨tg, 0, none⟩) n tc) n (tl.map (Value.int .i64)) := by
  have ha : ∀ k, k ≠ w.heap.size + 1 → k ≠ w.heap.size + 1 + 1 → (((w2.setCell ⟨w.heap.size + 1, 0, none⟩ x).setCell ⟨w.heap.size + 1, 1, none⟩ y).setCell ⟨w.heap.size + 1 + 1, 0, none⟩ (.slice (some ⟨tg, 0, none⟩) n tc)).heap[k]? = w2.heap[k]? := fun k h1 h2 =>
    (Below.heap_setCell _ ⟨w.heap.size + 1 + 1, 0, none⟩ _ k h2).trans ((Below.heap_setCell _ ⟨w.heap.size + 1, 1, none⟩ _ k h1).trans (Below.heap_setCell _ ⟨w.heap.size + 1, 0, none⟩ _ k h1))
  have h0 := heap_setCell_at h.h1 (j := 0) x
  have h1 := heap_setCell_at h0 (j := 1) y
  have h2 := (Below.heap_setCell ((w2.setCell ⟨w.heap.size + 1, 0, none⟩ x).setCell ⟨w.heap.size + 1, 1, none⟩ y) ⟨w.heap.size + 1 + 1, 0, none⟩ (.slice (some ⟨tg, 0, none⟩) n tc) (w.heap.size + 1) (by simp)).trans h1
  have t0 : ((w2.setCell ⟨w.heap.size + 1, 0, none⟩ x).setCell ⟨w.heap.size + 1, 1, none⟩ y).heap[w.heap.size + 1 + 1]? = some (.cells #[.slice (some ⟨tg, 0, none⟩) n tc] 39) :=
    (Below.heap_setCell _ ⟨w.heap.size + 1, 1, none⟩ _ _ (by simp)).trans ((Below.heap_setCell _ ⟨w.heap.size + 1, 0, none⟩ _ _ (by simp)).trans h.hT)
  refine ⟨by simpa using h2, by simpa using heap_setCell_at t0 (j := 0) (.slice (some ⟨tg, 0, none⟩) n tc), ((h.old.stored (by simp) _).stored (by simp) _).stored (by simp; omega) _, own_keep h.row (fun g hg => ?_)⟩
  obtain ⟨C, hC⟩ := (own_type h.row hg).2
  exact ha g (ne_of_types hC h.h1 (by decide)) (ne_of_types hC h.hT (by decide))

theorem caught_six (w : World) (kb ko n kc : Nat) (ks : Nat → KeyS) (sts : Nat → Nat → St) (tl : Nat → Int) (s : ByteArray) (k : Nat)
    (hks : ∀ j, j < n → ∀ i, i < 5 → w.cell? ⟨kb, ko + j * 5 + i, none⟩ = some ((ks j).cs.getD i undef)) (hlk : kb < w.heap.size) (hkn : n ≤ kc) (hkc : kc ≤ maxLen) (hn : 1 ≤ n) (hn2 : n ≤ 1000)
    (h0 : ks 0 = setk s k) (ht0 : tl 0 = -1) (h1 : ∀ T, sts T 1 = ⟨runes s, k, [], T⟩) (hs : s.size ≤ 1000) (hk : k ≤ (runes s).length) (hl : (runes s).length ≤ 1000)
    (hst : ∀ T j, 1 ≤ j → j < n → ∀ p b w, RB w p b (sts T j) → Keyed p b (ks j) (sts T (j + 1)) (tl j) w) (htt : ∀ T j, (sts T j).t = T) :
    Calls Tryd.prog 49 #[.func (.func 50) #[] #[.pointer (some ⟨w.heap.size, 0, none⟩), .pointer (some ⟨w.heap.size + 1 + 1 + 1 + 1, 0, none⟩), .pointer (some ⟨w.heap.size + 1 + 1 + 1 + 1 + 1, 0, none⟩), .pointer (some ⟨w.heap.size + 1 + 1, 0, none⟩)]]
      ((((((w.alloc (.cells #[.slice (some ⟨kb, ko, none⟩) n kc] 29)).alloc (.cells #[.string { data := #[] }, .int .i64 0] 23)).alloc (.cells #[.slice none 0 0] 39)).alloc (.cells #[.slice none 0 0, .int .i64 0, .slice none 0 0, .int .i64 0, .bool false, .bool false, .int .i32 0, .int .i64 0, .pointer none, .string { data := #[] }, .slice none 0 0] 73)).alloc (.cells #[.pointer (some ⟨w.heap.size + 1 + 1 + 1, 0, none⟩)] 63)).alloc (.cells #[.bool true] 4))
      fun e w2 => e = .returned (.bool true) ∧ ∃ b tg tc, MK w w2 b (sts (w.heap.size + 1 + 1) n) (tellsTo tl n) tg n tc := by
  have S6 := six_heap w (.cells #[.slice (some ⟨kb, ko, none⟩) n kc] 29) (.cells #[.string { data := #[] }, .int .i64 0] 23) (.cells #[.slice none 0 0] 39) (.cells #[.slice none 0 0, .int .i64 0, .slice none 0 0, .int .i64 0, .bool false, .bool false, .int .i32 0, .int .i64 0, .pointer none, .string { data := #[] }, .slice none 0 0] 73) (.cells #[.pointer (some ⟨w.heap.size + 1 + 1 + 1, 0, none⟩)] 63) (.cells #[.bool true] 4)
  have O6 := six_old w (.cells #[.slice (some ⟨kb, ko, none⟩) n kc] 29) (.cells #[.string { data := #[] }, .int .i64 0] 23) (.cells #[.slice none 0 0] 39) (.cells #[.slice none 0 0, .int .i64 0, .slice none 0 0, .int .i64 0, .bool false, .bool false, .int .i32 0, .int .i64 0, .pointer none, .string { data := #[] }, .slice none 0 0] 73) (.cells #[.pointer (some ⟨w.heap.size + 1 + 1 + 1, 0, none⟩)] 63) (.cells #[.bool true] 4)
  generalize ((((((w.alloc (.cells #[.slice (some ⟨kb, ko, none⟩) n kc] 29)).alloc (.cells #[.string { data := #[] }, .int .i64 0] 23)).alloc (.cells #[.slice none 0 0] 39)).alloc (.cells #[.slice none 0 0, .int .i64 0, .slice none 0 0, .int .i64 0, .bool false, .bool false, .int .i32 0, .int .i64 0, .pointer none, .string { data := #[] }, .slice none 0 0] 73)).alloc (.cells #[.pointer (some ⟨w.heap.size + 1 + 1 + 1, 0, none⟩)] 63)).alloc (.cells #[.bool true] 4)) = W at S6 O6 ⊢
  obtain ⟨sz, s0, s1, s2, s3, s4, s5⟩ := S6
  refine (caught_all w.heap.size (w.heap.size + 1 + 1 + 1 + 1) (w.heap.size + 1 + 1 + 1 + 1 + 1) (w.heap.size + 1 + 1) (w.heap.size + 1 + 1 + 1) kb ko n kc ks (sts (w.heap.size + 1 + 1)) tl s k W s0 s4 s5 s2 ⟨_, _, _, _, _, _, _, _, s3⟩ (fun j hj i hi => (O6.cell (World.block_lt_of_cell? w _ (hks j hj i hi))).trans (hks j hj i hi)) hkn hkc hn hn2 ⟨by omega, by omega, by omega⟩ h0 ht0 (h1 _) hs hk hl (fun j hj1 hj2 b w h => hst _ j hj1 hj2 _ b w h) (htt _)).mono ?_
  rintro e w2 ⟨rfl, b, hki⟩
  obtain ⟨tv, hT1, hT2, hT3⟩ := hki.hT
  have TO := own_base_le hT2 (show w.heap.size ≤ W.heap.size by omega)
  rw [length_tellsTo] at TO
  have htv : ∃ g cap, tv = .slice (some ⟨g, 0, none⟩) n cap := by
    rcases TO.2 with ⟨_, h0⟩ | ⟨g, cap, cur, hv, _⟩
    · exfalso; omega
    · exact ⟨g, cap, hv⟩
  obtain ⟨tg, tc, rfl⟩ := htv
  exact ⟨rfl, b, tg, tc, hki.old_of O6 sz, (hki.kept _ (by omega) (by omega) (by omega) (by omega)).trans s1, (hki.kept _ (by omega) (by omega) (by omega) (by omega)).trans s4, hki.hF, hT1, hki.rb, TO⟩

set_option maxHeartbeats 2000000 in
theorem all_any (v : Value) (n : Nat) (ks : Nat → KeyS) (sts : Nat → Nat → St) (tl : Nat → Int) (s : ByteArray) (k : Nat) (w : World) (hv : KeysAt w v n ks) (hn : 1 ≤ n) (hn2 : n ≤ 1000)
    (h0 : ks 0 = setk s k) (ht0 : tl 0 = -1) (h1 : ∀ T, sts T 1 = ⟨runes s, k, [], T⟩) (hs : s.size ≤ 1000) (hk : k ≤ (runes s).length) (hl : (runes s).length ≤ 1000)
    (hst : ∀ T j, 1 ≤ j → j < n → ∀ p b w, RB w p b (sts T j) → Keyed p b (ks j) (sts T (j + 1)) (tl j) w) (htt : ∀ T j, (sts T j).t = T) :
    Calls Tryd.prog 31 #[v] w fun e w' => ∃ tv T, e = .returned (.tuple #[.agg #[.string (runesBytes (sts T n).l), .int .i64 (sts T n).at_], tv, .bool true]) ∧ Old w w' ∧ w'.ownsRow w.heap.size 3 1 tv n ((tellsTo tl n).map (Value.int .i64)) := by
  obtain ⟨kb, ko, kc, rfl, hkn, hkc, hks⟩ := hv
  have hmf : ∀ (fn : Fn) (first cap : Array Value) (w : World), (Instr.makeFunc fn first cap).run Tryd.prog w = .ok (.func fn first cap) w := fun _ _ _ _ => rfl
  have HKS := Lib.hid hks
  have HST := Lib.hid hst
  have HTT := Lib.hid htt
  have H1 := Lib.hid h1
  have H0 := Lib.hid (show ks 0 = setk s k ∧ tl 0 = -1 from ⟨h0, ht0⟩)
  clear hks hst htt h1 h0 ht0
  go_enter Tryd.func31, Tryd.ntmps31
  have hlk := World.block_lt_of_cell? w _ (HKS.out 0 hn 0 (by omega))
  dsimp only at hlk
  go_wp2_with (go_at_call 49; refine (caught_six w kb ko n kc ks sts tl s k HKS.out hlk hkn hkc hn hn2 H0.out.1 H0.out.2 H1.out hs hk hl HST.out HTT.out).mono ?_; rintro e w2 ⟨rfl, b, tg, tc, M⟩; have f1 := M.c1; have f2 := M.c2; have f3 := free_of_heap M.h1 0; have f31 := free_of_heap M.h1 1; have f4 := heap1_cell M.h4; have f5 := heap1_cell M.hF; have f6 := heap1_cell M.hT; have f7 := free_of_heap M.hT 0; have HM := Lib.hid M; clear M HKS HST HTT H0 H1)
  have n1 : ¬ w.heap.size + 1 = w.heap.size + 1 + 1 := by omega
  have n2 : ¬ w.heap.size + 1 = w.heap.size + 1 + 1 + 1 + 1 := by omega
  have n3 : ¬ w.heap.size + 1 + 1 = w.heap.size + 1 + 1 + 1 + 1 := by omega
  have hlw : w.heap.size + 1 < w2.heap.size := (Array.getElem?_eq_some_iff.1 HM.out.h1).1
  have H0 := Lib.hid (HM.out.drew)
  clear HM hlw
  refine wp_region_noPanic ?_
  refine wp_region_held_drew (S := fun W => W.cell? ⟨w.heap.size + 1 + 1 + 1 + 1, 0, none⟩ = some (.pointer (some ⟨w.heap.size + 1 + 1 + 1, 0, none⟩)) ∧ W.cell? ⟨w.heap.size + 1 + 1, 0, none⟩ = some (.slice (some ⟨tg, 0, none⟩) n tc)) (by kernel_rfl) (by (try dsimp only); (first | exact ⟨f4, f6⟩ | exact ⟨f4', f6'⟩ | (go_keep; done) | (refine ⟨by go_keep, ?_⟩; refine World.cell?_setCell_same' _ _ _ ?_; go_keep))) (fun hHeld0 => ?_)
  refine wpAnyH_take (i := 0) (v := ?_) rfl (by kernel_rfl) (by kernel_rfl) (by kernel_rfl) (fun _ _ _ h => h) (Or.inl ⟨by rfl, ?_⟩) (by assumption) ?_
  rotate_left
  · (intro w hSw; (try dsimp only at hSw); go_simp; try with_reducible rfl)
  try simp only [Act.put, List.getElem_toArray, List.getElem_cons_succ, List.getElem_cons_zero, List.setIfInBounds_toArray, List.set_cons_zero, List.set_cons_succ]
  refine wpAnyH_take (i := 3) (v := ?_) rfl (by kernel_rfl) (by kernel_rfl) (by kernel_rfl) (fun _ _ _ h => h) (Or.inl ⟨by rfl, ?_⟩) (by assumption) ?_
  rotate_left
  · (intro w hSw; (try dsimp only at hSw); go_simp; try with_reducible rfl)
  try simp only [Act.put, List.getElem_toArray, List.getElem_cons_succ, List.getElem_cons_zero, List.setIfInBounds_toArray, List.set_cons_zero, List.set_cons_succ]
  refine wpAnyH_take (i := 6) (v := ?_) rfl (by kernel_rfl) (by kernel_rfl) (by kernel_rfl) (fun _ _ _ h => h) (Or.inl ⟨by rfl, ?_⟩) (by assumption) ?_
  rotate_left
  · (intro w hSw; (try dsimp only at hSw); go_simp; try with_reducible rfl)
  try simp only [Act.put, List.getElem_toArray, List.getElem_cons_succ, List.getElem_cons_zero, List.setIfInBounds_toArray, List.set_cons_zero, List.set_cons_succ]
  refine wpAnyH_ready (rs := [1]) (by kernel_rfl) (by simp) ?_
  refine AllReadyH.cons rfl (fun K hK => ?_) AllReadyH.nil
  go_simp
  (first
      | (go_at_call 52; refine (runesm_any _ b _ _ H0.out.rb).mono ?_; rintro e w3 ⟨v3, rfl, o3, r3⟩
         have HM := Lib.hid (H0.out.later o3)
         have f1' := HM.out.c1
         have f2' := HM.out.c2
         have f3' := free_of_heap HM.out.h1 0
         have f31' := free_of_heap HM.out.h1 1
         have f4' := heap1_cell HM.out.h4
         have f6' := heap1_cell HM.out.hT
         have f7' := free_of_heap HM.out.hT 0
         have cv := runes_back (P := Tryd.prog) w3 54 9 21 v3 _ (by kernel_rfl) (by kernel_rfl) (by kernel_rfl) r3
         clear o3 r3)
      | (go_at_call 53; refine (pos_any _ b _ _ HM.out.rb).mono ?_; rintro e w4 ⟨rfl, rfl⟩))
  (try go_wp2_with fail)
  refine hK.out _ _ ?_ (fun hHeld1 => ?_)
  · (try dsimp only)
    (first | exact ⟨f4, f6⟩ | exact ⟨f4', f6'⟩ | (go_keep; done) | (refine ⟨by go_keep, ?_⟩; refine World.cell?_setCell_same' _ _ _ ?_; go_keep))
  clear hK K hHeld0
  try simp only [Act.put, List.getElem_toArray, List.getElem_cons_succ, List.getElem_cons_zero, List.setIfInBounds_toArray, List.set_cons_zero, List.set_cons_succ]
  refine wpAnyH_ready (rs := [2, 4]) (by kernel_rfl) (by simp) ?_
  refine AllReadyH.cons rfl (fun K hK => ?_) (AllReadyH.cons rfl (fun K hK => ?_) AllReadyH.nil)
  go_simp
  refine hK.out _ _ ?_ (fun hHeld2 => ?_)
  · (try dsimp only)
    (first | exact ⟨f4, f6⟩ | exact ⟨f4', f6'⟩ | (go_keep; done) | (refine ⟨by go_keep, ?_⟩; refine World.cell?_setCell_same' _ _ _ ?_; go_keep))
  clear hK K hHeld1
  try simp only [Act.put, List.getElem_toArray, List.getElem_cons_succ, List.getElem_cons_zero, List.setIfInBounds_toArray, List.set_cons_zero, List.set_cons_succ]
  refine wpAnyH_ready (rs := [4]) (by kernel_rfl) (by simp) ?_
  refine AllReadyH.cons rfl (fun K hK => ?_) AllReadyH.nil
  go_simp
  (first
      | (go_at_call 52; refine (runesm_any _ b _ _ H0.out.rb).mono ?_; rintro e w3 ⟨v3, rfl, o3, r3⟩
         have HM := Lib.hid (H0.out.later o3)
         have f1' := HM.out.c1
         have f2' := HM.out.c2
         have f3' := free_of_heap HM.out.h1 0
         have f31' := free_of_heap HM.out.h1 1
         have f4' := heap1_cell HM.out.h4
         have f6' := heap1_cell HM.out.hT
         have f7' := free_of_heap HM.out.hT 0
         have cv := runes_back (P := Tryd.prog) w3 54 9 21 v3 _ (by kernel_rfl) (by kernel_rfl) (by kernel_rfl) r3
         clear o3 r3)
      | (go_at_call 53; refine (pos_any _ b _ _ HM.out.rb).mono ?_; rintro e w4 ⟨rfl, rfl⟩))
  (try go_wp2_with fail)
  refine hK.out _ _ ?_ (fun hHeld3 => ?_)
  · (try dsimp only)
    (first | exact ⟨f4, f6⟩ | exact ⟨f4', f6'⟩ | (go_keep; done) | (refine ⟨by go_keep, ?_⟩; refine World.cell?_setCell_same' _ _ _ ?_; go_keep))
  clear hK K hHeld2
  try simp only [Act.put, List.getElem_toArray, List.getElem_cons_succ, List.getElem_cons_zero, List.setIfInBounds_toArray, List.set_cons_zero, List.set_cons_succ]
  refine wpAnyH_take (i := 5) (v := ?_) rfl (by kernel_rfl) (by kernel_rfl) (by kernel_rfl) (fun _ _ _ h => h) (Or.inl ⟨by rfl, ?_⟩) (by assumption) ?_
  rotate_left
  · (intro w hSw; (try dsimp only at hSw); go_simp; try with_reducible rfl)
  try simp only [Act.put, List.getElem_toArray, List.getElem_cons_succ, List.getElem_cons_zero, List.setIfInBounds_toArray, List.set_cons_zero, List.set_cons_succ]
  refine wpAnyH_ready (rs := [7]) (by kernel_rfl) (by simp) ?_
  refine AllReadyH.cons rfl (fun K hK => ?_) AllReadyH.nil
  go_simp
  refine hK.out _ _ ?_ (fun hHeld4 => ?_)
  · (try dsimp only)
    (first | exact ⟨f4, f6⟩ | exact ⟨f4', f6'⟩ | (go_keep; done) | (refine ⟨by go_keep, ?_⟩; refine World.cell?_setCell_same' _ _ _ ?_; go_keep))
  clear hK K hHeld3
  try simp only [Act.put, List.getElem_toArray, List.getElem_cons_succ, List.getElem_cons_zero, List.setIfInBounds_toArray, List.set_cons_zero, List.set_cons_succ]
  refine wpAnyH_ready (rs := [8]) (by kernel_rfl) (by simp) ?_
  refine AllReadyH.cons rfl (fun K hK => ?_) AllReadyH.nil
  go_simp
  refine hK.out _ _ ?_ (fun hHeld5 => ?_)
  · (try dsimp only)
    (first | exact ⟨f4, f6⟩ | exact ⟨f4', f6'⟩ | (go_keep; done) | (refine ⟨by go_keep, ?_⟩; refine World.cell?_setCell_same' _ _ _ ?_; go_keep))
  clear hK K hHeld4
  try simp only [Act.put, List.getElem_toArray, List.getElem_cons_succ, List.getElem_cons_zero, List.setIfInBounds_toArray, List.set_cons_zero, List.set_cons_succ]
  refine wpAnyH_take (i := 9) (v := ?_) rfl (by kernel_rfl) (by kernel_rfl) (by kernel_rfl) (fun _ _ _ h => h) (Or.inl ⟨by rfl, ?_⟩) (by assumption) ?_
  rotate_left
  · (intro w hSw; (try dsimp only at hSw); go_simp; try with_reducible rfl)
  try simp only [Act.put, List.getElem_toArray, List.getElem_cons_succ, List.getElem_cons_zero, List.setIfInBounds_toArray, List.set_cons_zero, List.set_cons_succ]
  refine wpAnyH_done (by kernel_rfl) ?_ _
  refine NoPanic.normal ?_
  rotate_left 1
  go_simp
  (first
      | (go_at_call 52; refine (runesm_any _ b _ _ H0.out.rb).mono ?_; rintro e w3 ⟨v3, rfl, o3, r3⟩
         have HM := Lib.hid (H0.out.later o3)
         have f1' := HM.out.c1
         have f2' := HM.out.c2
         have f3' := free_of_heap HM.out.h1 0
         have f31' := free_of_heap HM.out.h1 1
         have f4' := heap1_cell HM.out.h4
         have f6' := heap1_cell HM.out.hT
         have f7' := free_of_heap HM.out.hT 0
         have cv := runes_back (P := Tryd.prog) w3 54 9 21 v3 _ (by kernel_rfl) (by kernel_rfl) (by kernel_rfl) r3
         clear o3 r3)
      | (go_at_call 53; refine (pos_any _ b _ _ HM.out.rb).mono ?_; rintro e w4 ⟨rfl, rfl⟩))
  (try go_wp2_with fail)
  refine hK.out _ _ ?_ (fun hHeld2 => ?_)
  · (try dsimp only)
    (first | exact ⟨f4, f6⟩ | exact ⟨f4', f6'⟩ | (go_keep; done) | (refine ⟨by go_keep, ?_⟩; refine World.cell?_setCell_same' _ _ _ ?_; go_keep))
  clear hK K hHeld1
  try simp only [Act.put, List.getElem_toArray, List.getElem_cons_succ, List.getElem_cons_zero, List.setIfInBounds_toArray, List.set_cons_zero, List.set_cons_succ]
  refine wpAnyH_ready (rs := [2]) (by kernel_rfl) (by simp) ?_
  refine AllReadyH.cons rfl (fun K hK => ?_) AllReadyH.nil
  go_simp
  refine hK.out _ _ ?_ (fun hHeld3 => ?_)
  · (try dsimp only)
    (first | exact ⟨f4, f6⟩ | exact ⟨f4', f6'⟩ | (go_keep; done) | (refine ⟨by go_keep, ?_⟩; refine World.cell?_setCell_same' _ _ _ ?_; go_keep))
  clear hK K hHeld2
  try simp only [Act.put, List.getElem_toArray, List.getElem_cons_succ, List.getElem_cons_zero, List.setIfInBounds_toArray, List.set_cons_zero, List.set_cons_succ]
  refine wpAnyH_take (i := 5) (v := ?_) rfl (by kernel_rfl) (by kernel_rfl) (by kernel_rfl) (fun _ _ _ h => h) (Or.inl ⟨by rfl, ?_⟩) (by assumption) ?_
  rotate_left
  · (intro w hSw; (try dsimp only at hSw); go_simp; try with_reducible rfl)
  try simp only [Act.put, List.getElem_toArray, List.getElem_cons_succ, List.getElem_cons_zero, List.setIfInBounds_toArray, List.set_cons_zero, List.set_cons_succ]
  refine wpAnyH_ready (rs := [7]) (by kernel_rfl) (by simp) ?_
  refine AllReadyH.cons rfl (fun K hK => ?_) AllReadyH.nil
  go_simp
  refine hK.out _ _ ?_ (fun hHeld4 => ?_)
  · (try dsimp only)
    (first | exact ⟨f4, f6⟩ | exact ⟨f4', f6'⟩ | (go_keep; done) | (refine ⟨by go_keep, ?_⟩; refine World.cell?_setCell_same' _ _ _ ?_; go_keep))
  clear hK K hHeld3
  try simp only [Act.put, List.getElem_toArray, List.getElem_cons_succ, List.getElem_cons_zero, List.setIfInBounds_toArray, List.set_cons_zero, List.set_cons_succ]
  refine wpAnyH_ready (rs := [8]) (by kernel_rfl) (by simp) ?_
  refine AllReadyH.cons rfl (fun K hK => ?_) AllReadyH.nil
  go_simp
  refine hK.out _ _ ?_ (fun hHeld5 => ?_)
  · (try dsimp only)
    (first | exact ⟨f4, f6⟩ | exact ⟨f4', f6'⟩ | (go_keep; done) | (refine ⟨by go_keep, ?_⟩; refine World.cell?_setCell_same' _ _ _ ?_; go_keep))
  clear hK K hHeld4
  try simp only [Act.put, List.getElem_toArray, List.getElem_cons_succ, List.getElem_cons_zero, List.setIfInBounds_toArray, List.set_cons_zero, List.set_cons_succ]
  refine wpAnyH_take (i := 9) (v := ?_) rfl (by kernel_rfl) (by kernel_rfl) (by kernel_rfl) (fun _ _ _ h => h) (Or.inl ⟨by rfl, ?_⟩) (by assumption) ?_
  rotate_left
  · (intro w hSw; (try dsimp only at hSw); go_simp; try with_reducible rfl)
  try simp only [Act.put, List.getElem_toArray, List.getElem_cons_succ, List.getElem_cons_zero, List.setIfInBounds_toArray, List.set_cons_zero, List.set_cons_succ]
  refine wpAnyH_done (by kernel_rfl) ?_ _
  refine NoPanic.normal ?_
  rotate_left 1
  all_goals
    go_wp2_with fail
    obtain ⟨e1, e2, e3, e4⟩ := HM.out.ended (.string (runesBytes (sts (w.heap.size + 1 + 1) n).l)) (.int .i64 (sts (w.heap.size + 1 + 1) n).at_)
    clear HM H0
    generalize (((w4.setCell ⟨w.heap.size + 1, 0, none⟩ _).setCell ⟨w.heap.size + 1, 1, none⟩ _).setCell ⟨w.heap.size + 1 + 1, 0, none⟩ _) = w5 at e1 e2 e3 e4 ⊢
    have g0 := cell_of_heap e1 0
    have g1 := cell_of_heap e1 1
    have g2 := cell_of_heap e2 0
    simp only [List.getElem?_toArray, List.getElem?_cons_zero, List.getElem?_cons_succ] at g0 g1 g2
    refine bodyPost_ret (v := .tuple #[.agg #[.string (runesBytes (sts (w.heap.size + 1 + 1) n).l), .int .i64 (sts (w.heap.size + 1 + 1) n).at_], .slice (some ⟨tg, 0, none⟩) n tc, .bool true]) ?_ rfl ?_
    · simp [results, Tryd.results31, go_sem, g0, g1, g2]
    · exact ⟨_, _, rfl, e3, e4⟩
end Go.Proofs.YtlfmmmbafkelhaaDoor
