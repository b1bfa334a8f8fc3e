/- impl.Keyed's loop over the steps. -/
import Derived.Test.YtlfmmmbafkelhaaDoorSet
namespace Go.Proofs.YtlfmmmbafkelhaaDoor
open Go.RowKit
set_option linter.unusedVariables false
set_option linter.unusedSimpArgs false
set_option maxRecDepth 100000

/-- A RuneBuffer is let be by what is done to a block that is none of its own and holds no runes. -/
theorem RB.keep {w w' : World} {p b k : Nat} {st : St} (h : RB w p b st) (hk : ∀ i, i < w.heap.size → i ≠ k → w'.heap[i]? = w.heap[i]?) (hs : w.heap.size ≤ w'.heap.size) (hp : p ≠ k) (hb : b ≠ k) (hkk : ∀ x, w.cell? ⟨k, 0, none⟩ ≠ some (.int .i32 x)) : RB w' p b st := by
  have hlt := h.lt
  obtain ⟨c, kv, h1, h2, h3, h4, h5, h6, h7, h8, h9⟩ := h
  refine ⟨c, kv, h1.heap (hk p hlt.1 hp), h2.heap (hk b hlt.2 hb), h3, h4, h5, h6, ?_, Nat.lt_of_lt_of_le h8 hs, h9⟩
  rcases h7 with h | ⟨kb, kc, g1, g2, g3, g4, g5, g6, g8, g7⟩
  · exact .inl h
  · refine .inr ⟨kb, kc, g1, g2, g3, Nat.lt_of_lt_of_le g4 hs, g5, g6, g8, fun j hj => ?_⟩
    have hne : kb ≠ k := by
      intro e
      subst e
      exact hkk _ (g7 0 (by omega))
    exact (World.cell?_of_block (w := w) (a := ⟨kb, j, none⟩) (hk kb g4 hne)).trans (g7 j hj)
/-- A block of another type than runes is not the line's. -/
theorem RB.ne_of_type {w : World} {p b k : Nat} {st : St} {C : Array Value} {t : TypeId} {fr : Nat × Nat} (h : RB w p b st) (hk : w.heap[k]? = some (.cells C t fr)) (ht : t ≠ 21) : b ≠ k := by
  intro e
  subst e
  obtain ⟨c, kv, h1, h2, _⟩ := h
  obtain ⟨cur, hc, _⟩ := h2.row
  have := Option.some.inj (hc.symm.trans hk)
  injection this with _ h2
  exact ht h2.symm
theorem RB.p_ne_of_type {w : World} {p b k : Nat} {st : St} {C : Array Value} {t : TypeId} {fr : Nat × Nat} (h : RB w p b st) (hk : w.heap[k]? = some (.cells C t fr)) (ht : t ≠ 73) : p ≠ k := by
  intro e
  subst e
  obtain ⟨c, kv, h1, h2, _⟩ := h
  obtain ⟨_, _, _, _, _, _, _, _, hc⟩ := h1
  have := Option.some.inj (hc.symm.trans hk)
  injection this with _ h2
  exact ht h2.symm

/-- What the loop has done behind a round. -/
structure KI (w0 W : World) (p F T b : Nat) (st : St) (tl : List Int) : Prop where
  os : W.os = w0.os
  tape : W.tape = w0.tape
  output : W.output = w0.output
  size : w0.heap.size ≤ W.heap.size
  kept : ∀ k, k < w0.heap.size → k ≠ p → k ≠ F → k ≠ T → W.heap[k]? = w0.heap[k]?
  rb : RB W p b st
  new : w0.heap.size ≤ b
  hF : W.heap[F]? = some (.cells #[.bool true] 4)
  hT : ∃ tv, W.heap[T]? = some (.cells #[tv] 39) ∧ W.ownsRow w0.heap.size 3 1 tv tl.length (tl.map (Value.int .i64)) ∧ (tl.length = 0 → tv = .slice none 0 0)

def tellsTo (tl : Nat → Int) (n : Nat) : List Int := (List.range n).map tl
theorem length_tellsTo (tl : Nat → Int) (n : Nat) : (tellsTo tl n).length = n := by simp [tellsTo]
theorem tellsTo_succ (tl : Nat → Int) (n : Nat) : tellsTo tl (n + 1) = tellsTo tl n ++ [tl n] := by simp [tellsTo, List.range_succ]

theorem heap1_cell {w : World} {b : Nat} {x : Value} {t : TypeId} (h : w.heap[b]? = some (.cells #[x] t)) : w.cell? ⟨b, 0, none⟩ = some x := cell_of_heap h 0


/-- What a round finds. -/
structure PR (w0 W : World) (p F T b : Nat) (key : KeyS) (st' : St) (t : Int) (tl : List Int) : Prop where
  os : W.os = w0.os
  tape : W.tape = w0.tape
  output : W.output = w0.output
  size : w0.heap.size ≤ W.heap.size
  kept : ∀ k, k < w0.heap.size → k ≠ p → k ≠ F → k ≠ T → W.heap[k]? = w0.heap[k]?
  hF : W.heap[F]? = some (.cells #[.bool true] 4)
  hT : ∃ tv, W.heap[T]? = some (.cells #[tv] 39) ∧ W.ownsRow w0.heap.size 3 1 tv tl.length (tl.map (Value.int .i64)) ∧ (tl.length = 0 → tv = .slice none 0 0) ∧ tv.ownBlock ≠ some b
  bF : b ≠ F
  bT : b ≠ T
  bp : b = p ∨ w0.heap.size ≤ b
  call : ∀ W1, Old W W1 → Calls Tryd.prog 51 #[.pointer (some ⟨p, 0, none⟩), key.v] W1 fun e w' => e = .returned (.tuple #[.int .i64 t, .bool true]) ∧ ∃ b', RB w' p b' st' ∧ Mod p b W1 w' ∧ (b' = b ∨ W1.heap.size ≤ b') ∧ w0.heap.size ≤ b'

theorem PR.first {w0 : World} {p F T : Nat} {s : ByteArray} {k : Nat} (hF : w0.heap[F]? = some (.cells #[.bool true] 4)) (hT : w0.heap[T]? = some (.cells #[.slice none 0 0] 39)) (hP : PB w0 p (.slice none 0 0) (.int .i64 0) (.slice none 0 0))
    (hpp : p ≠ F ∧ p ≠ T ∧ F ≠ T) (hs : s.size ≤ 1000) (hk : k ≤ (runes s).length) (hl : (runes s).length ≤ 1000) : PR w0 w0 p F T p (setk s k) ⟨runes s, k, [], T⟩ (-1) [] where
  os := rfl
  tape := rfl
  output := rfl
  size := Nat.le_refl _
  kept := fun _ _ _ _ _ => rfl
  hF := hF
  hT := ⟨_, hT, ⟨rfl, .inl ⟨rfl, rfl⟩⟩, fun _ => rfl, by simp [Value.ownBlock]⟩
  bF := hpp.1
  bT := hpp.2.1
  bp := .inl rfl
  call := fun W1 o => (keyed_set p T s k W1 (hP.old o) hs hk hl (Nat.lt_of_lt_of_le (Array.getElem?_eq_some_iff.1 hT).1 o.size) hpp.2.1).mono fun e w' h => by
    obtain ⟨he, b, h1, h2, h3⟩ := h
    exact ⟨he, b, h1, ⟨h2.os, h2.tape, h2.output, h2.size, fun i hi h4 _ => h2.block i hi h4 (by omega)⟩, .inr h3, Nat.le_trans o.size h3⟩

theorem PR.later {w0 W : World} {p F T b : Nat} {key : KeyS} {st st' : St} {t : Int} {tl : List Int} (h : KI w0 W p F T b st tl) (hpp : p ≠ F ∧ p ≠ T ∧ F ≠ T) (hTt : st.t = T)
    (hst : ∀ w, RB w p b st → Keyed p b key st' t w) : PR w0 W p F T b key st' t tl := by
  obtain ⟨tv, hT1, hT2, hT3⟩ := h.hT
  refine ⟨h.os, h.tape, h.output, h.size, h.kept, h.hF, ⟨tv, hT1, hT2, hT3, ?_⟩, h.rb.ne_of_type h.hF (by decide), h.rb.ne_of_type hT1 (by decide), .inr h.new, fun W1 o => (hst W1 (h.rb.old o)).mono fun e w' h2 => ?_⟩
  · rcases hT2.2 with ⟨hv, _⟩ | ⟨g, cap, cur, hv, _, h4, _⟩
    · rw [hv]; simp [Value.ownBlock]
    · rw [hv]
      have := h.rb.ne_of_type h4 (by decide)
      simp [Value.ownBlock]; omega
  · obtain ⟨he, b', h3, h4, h5⟩ := h2
    refine ⟨he, b', h3, h4, h5, ?_⟩
    rcases h5 with h5 | h5
    · rw [h5]; exact h.new
    · exact Nat.le_trans (Nat.le_trans h.size o.size) h5


theorem own_keep {w w' : World} {base : Nat} {e : TypeId} {sz n : Nat} {v : Value} {xs : List Value} (h : w.ownsRow base e sz v n xs) (hk : ∀ g, v.ownBlock = some g → w'.heap[g]? = w.heap[g]?) : w'.ownsRow base e sz v n xs := by
  refine ⟨h.1, ?_⟩
  rcases h.2 with h | ⟨g, cap, cur, hv, h1, h2, h3⟩
  · exact .inl h
  · exact .inr ⟨g, cap, cur, hv, h1, (hk g (by rw [hv]; rfl)).trans h2, h3⟩
theorem own_type {w : World} {base : Nat} {e : TypeId} {sz n g : Nat} {v : Value} {xs : List Value} (h : w.ownsRow base e sz v n xs) (hg : v.ownBlock = some g) : base ≤ g ∧ ∃ C, w.heap[g]? = some (.cells C e (0, 0)) := by
  rcases h.2 with ⟨hv, _⟩ | ⟨g', cap, cur, hv, h1, h2, h3⟩
  · rw [hv] at hg; simp [Value.ownBlock] at hg
  · rw [hv] at hg
    simp [Value.ownBlock] at hg
    subst hg
    exact ⟨h1, cur, h2⟩
theorem own_not_int {w : World} {base : Nat} {e : TypeId} {sz n : Nat} {v : Value} {xs : List Value} (h : w.ownsRow base e sz v n xs) (x : Int) : some v ≠ some (.int .i32 x) := by
  intro e
  injection e with e
  rcases h.2 with ⟨hv, _⟩ | ⟨g', cap, cur, hv, h1, h2, h3⟩ <;> rw [hv] at e <;> cases e
theorem ne_of_types {w : World} {g k : Nat} {C D : Array Value} {s t : TypeId} {fr fs : Nat × Nat} (h : w.heap[g]? = some (.cells C s fr)) (h2 : w.heap[k]? = some (.cells D t fs)) (hst : s ≠ t) : g ≠ k := by
  intro e
  subst e
  have := Option.some.inj (h.symm.trans h2)
  injection this with _ h3
  exact hst h3

theorem KI.mid {w0 W w2 : World} {p F T b b' : Nat} {key : KeyS} {st' : St} {t : Int} {tl : List Int} {o : Obj} (h : PR w0 W p F T b key st' t tl) (hr : RB w2 p b' st') (hm : Mod p b (W.alloc o) w2) (hn : w0.heap.size ≤ b')
    (hF0 : F < w0.heap.size) (hT0 : T < w0.heap.size) (hp0 : p < w0.heap.size) (hpp : p ≠ F ∧ p ≠ T ∧ F ≠ T) : KI w0 w2 p F T b' st' tl := by
  have ha : ∀ k, k < W.heap.size → k ≠ p → k ≠ b → w2.heap[k]? = W.heap[k]? := fun k hk h1 h2 =>
    (hm.block k (Nat.lt_of_lt_of_le hk (Old.alloc W o).size) h1 h2).trans ((Old.alloc W o).heap hk)
  have hs := h.size
  have hbp := h.bp
  have hbF := h.bF
  have hbT := h.bT
  refine ⟨hm.os.trans h.os, hm.tape.trans h.tape, hm.output.trans h.output, Nat.le_trans (Nat.le_trans h.size (Old.alloc W o).size) hm.size, fun k hk h1 h2 h3 => (ha k (by omega) h1 (by omega)).trans (h.kept k hk h1 h2 h3), hr, hn, (ha F (by omega) (by omega) (by omega)).trans h.hF, ?_⟩
  obtain ⟨tv, hT1, hT2, hT3, hT4⟩ := h.hT
  refine ⟨tv, (ha T (by omega) (by omega) (by omega)).trans hT1, own_keep hT2 (fun g hg => ?_), hT3⟩
  have h2 := own_type hT2 hg
  obtain ⟨C, hC⟩ := h2.2
  exact ha g (Array.getElem?_eq_some_iff.1 hC).1 (by have := h2.1; omega) (fun e => hT4 (by rw [hg, e]))

theorem KI.midT {w0 W w2 : World} {p F T b : Nat} {key : KeyS} {st' : St} {t : Int} {tl : List Int} {o : Obj} (h : PR w0 W p F T b key st' t tl) (hm : Mod p b (W.alloc o) w2) (hT0 : T < w0.heap.size) (hpp : p ≠ F ∧ p ≠ T ∧ F ≠ T) :
    (w2.setCell ⟨F, 0, none⟩ (.bool true)).heap[T]? = W.heap[T]? := by
  have hs := h.size
  exact (Below.heap_setCell w2 ⟨F, 0, none⟩ _ T (Ne.symm hpp.2.2)).trans ((hm.block T (Nat.lt_of_lt_of_le (by omega) (Old.alloc W o).size) (by omega) (Ne.symm h.bT)).trans ((Old.alloc W o).heap (by omega)))

theorem KI.setF {w0 W : World} {p F T b : Nat} {st : St} {tl : List Int} (h : KI w0 W p F T b st tl) (hpp : p ≠ F ∧ p ≠ T ∧ F ≠ T) : KI w0 (W.setCell ⟨F, 0, none⟩ (.bool true)) p F T b st tl := by
  have ha : ∀ k, k ≠ F → (W.setCell ⟨F, 0, none⟩ (.bool true)).heap[k]? = W.heap[k]? := fun k hk => Below.heap_setCell W ⟨F, 0, none⟩ _ k hk
  have hsz : (W.setCell ⟨F, 0, none⟩ (.bool true)).heap.size = W.heap.size := by simp [World.setCell]
  obtain ⟨tv, hT1, hT2, hT3⟩ := h.hT
  refine ⟨h.os, h.tape, h.output, by rw [hsz]; exact h.size, fun k hk h1 h2 h3 => (ha k h2).trans (h.kept k hk h1 h2 h3), ?_, h.new, ?_, ⟨tv, (ha T (Ne.symm hpp.2.2)).trans hT1, own_keep hT2 (fun g hg => ?_), hT3⟩⟩
  · exact h.rb.keep (k := F) (fun i _ hi => ha i hi) (by rw [hsz]; exact Nat.le_refl _) hpp.1 (h.rb.ne_of_type h.hF (by decide)) (fun x => by rw [heap1_cell h.hF]; simp)
  · exact (heap_setCell_at h.hF _).trans (by simp)
  · obtain ⟨C, hC⟩ := (own_type hT2 hg).2
    exact ha g (ne_of_types hC h.hF (by decide))

theorem KI.tell {w0 W w4 : World} {p F T b : Nat} {st : St} {tl : List Int} {t : Int} {tv v' : Value} (h : KI w0 W p F T b st tl) (hT1 : W.heap[T]? = some (.cells #[tv] 39)) (hpp : p ≠ F ∧ p ≠ T ∧ F ≠ T) (hp0 : p < w0.heap.size) (hF0 : F < w0.heap.size) (hT0 : T < w0.heap.size)
    (hown : w4.ownsRow w0.heap.size 3 1 v' (tl.length + 1) (tl.map (Value.int .i64) ++ [.int .i64 t])) (hg : W.grownBy w4 tv.ownBlock) : KI w0 (w4.setCell ⟨T, 0, none⟩ v') p F T b st (tl ++ [t]) := by
  obtain ⟨tv', hT1', hT2, hT3⟩ := h.hT
  have etv := Option.some.inj (hT1.symm.trans hT1')
  injection etv with etv _
  have etv : tv = tv' := by simpa using etv
  subst etv
  clear hT1'
  have hs := h.size
  have hblk : ∀ k, k < W.heap.size → (∀ C, W.heap[k]? = some (.cells C 3 (0, 0)) → False) → w4.heap[k]? = W.heap[k]? := fun k hk hne => hg.block k hk (fun e => by
    obtain ⟨C, hC⟩ := (own_type hT2 e.symm).2
    exact hne C hC)
  have hF4 : w4.heap[F]? = some (.cells #[.bool true] 4) := (hblk F (by omega) (fun C hC => ne_of_types hC h.hF (by decide) rfl)).trans h.hF
  have hT4 : w4.heap[T]? = some (.cells #[tv] 39) := (hblk T (by omega) (fun C hC => ne_of_types hC hT1 (by decide) rfl)).trans hT1
  have hr4 : RB w4 p b st := by
    by_cases e : ∃ g, tv.ownBlock = some g
    · obtain ⟨g, e⟩ := e
      obtain ⟨hbg, C, hC⟩ := own_type hT2 e
      refine h.rb.keep (k := g) (fun i hi hne => hg.block i hi (by rw [e]; simpa using hne)) hg.size (by omega) (h.rb.ne_of_type hC (by decide)) (fun x => ?_)
      rcases hT2.2 with ⟨hv, _⟩ | ⟨g', cap, cur, hv, hr⟩
      · rw [hv] at e; simp [Value.ownBlock] at e
      · rw [hv] at e
        simp [Value.ownBlock] at e
        subst e
        have hn0 : 0 < tl.length := by
          by_cases h0 : tl.length = 0
          · have := hT3 h0; rw [hv] at this; cases this
          · omega
        rw [hv] at hT2
        rw [own_cell hT2 0 hn0, gv_lt (by simpa using hn0)]
        simp
    · exact h.rb.keep (k := T) (fun i hi hne => hg.block i hi (fun e2 => e ⟨i, e2.symm⟩)) hg.size hpp.2.1 (h.rb.ne_of_type hT1 (by decide)) (fun x => by rw [heap1_cell hT1]; exact own_not_int hT2 x)
  have ha : ∀ k, k ≠ T → (w4.setCell ⟨T, 0, none⟩ v').heap[k]? = w4.heap[k]? := fun k hk => Below.heap_setCell w4 ⟨T, 0, none⟩ _ k hk
  have hsz : (w4.setCell ⟨T, 0, none⟩ v').heap.size = w4.heap.size := by simp [World.setCell]
  refine ⟨hg.os.trans h.os, hg.tape.trans h.tape, hg.output.trans h.output, by rw [hsz]; exact Nat.le_trans h.size hg.size, fun k hk h1 h2 h3 => ?_, ?_, h.new, (ha F hpp.2.2).trans hF4, ⟨v', ?_, ?_, ?_⟩⟩
  · refine (ha k h3).trans ((hg.block k (by omega) (fun e => ?_)).trans (h.kept k hk h1 h2 h3))
    have := (own_type hT2 e.symm).1
    omega
  · exact hr4.keep (k := T) (fun i _ hi => ha i hi) (by rw [hsz]; exact Nat.le_refl _) hpp.2.1 (hr4.ne_of_type hT4 (by decide)) (fun x => by rw [heap1_cell hT4]; exact own_not_int hT2 x)
  · exact (heap_setCell_at hT4 _).trans (by simp)
  · rw [List.length_append, List.map_append]
    exact own_keep hown (fun g hg2 => by
      obtain ⟨C, hC⟩ := (own_type hown hg2).2
      exact ha g (ne_of_types hC hT4 (by decide)))
  · intro h0; simp at h0

set_option maxHeartbeats 2000000 in
theorem keyed1_any (L R F T p kb ko n kc : Nat) (ks : Nat → KeyS) (sts : Nat → St) (tl : Nat → Int) (s : ByteArray) (k : Nat) (w0 : World)
    (hL : w0.cell? ⟨L, 0, none⟩ = some (.slice (some ⟨kb, ko, none⟩) n kc)) (hR : w0.cell? ⟨R, 0, none⟩ = some (.pointer (some ⟨p, 0, none⟩)))
    (hF : w0.heap[F]? = some (.cells #[.bool true] 4)) (hT : w0.heap[T]? = some (.cells #[.slice none 0 0] 39))
    (hP : PB w0 p (.slice none 0 0) (.int .i64 0) (.slice none 0 0))
    (hks : ∀ j, j < n → ∀ i, i < 5 → w0.cell? ⟨kb, ko + j * 5 + i, none⟩ = some ((ks j).cs.getD i undef))
    (hkn : n ≤ kc) (hkc : kc ≤ maxLen) (hn : 1 ≤ n) (hn2 : n ≤ 1000)
    (hLp : L ≠ p ∧ L ≠ F ∧ L ≠ T) (hRp : R ≠ p ∧ R ≠ F ∧ R ≠ T) (hkp : kb ≠ p ∧ kb ≠ F ∧ kb ≠ T) (hpp : p ≠ F ∧ p ≠ T ∧ F ≠ T)
    (h0 : ks 0 = setk s k) (ht0 : tl 0 = -1) (h1 : sts 1 = ⟨runes s, k, [], T⟩) (hs : s.size ≤ 1000) (hk : k ≤ (runes s).length) (hl : (runes s).length ≤ 1000)
    (hst : ∀ j, 1 ≤ j → j < n → ∀ b w, RB w p b (sts j) → Keyed p b (ks j) (sts (j + 1)) (tl j) w) (htt : ∀ j, (sts j).t = T) (hp0 : p < w0.heap.size) (hF0 : F < w0.heap.size) (hT0 : T < w0.heap.size) :
    Calls Tryd.prog 50 #[.pointer (some ⟨L, 0, none⟩), .pointer (some ⟨R, 0, none⟩), .pointer (some ⟨F, 0, none⟩), .pointer (some ⟨T, 0, none⟩)] w0 fun e w' =>
      e = .returned (.tuple #[]) ∧ ∃ b, KI w0 w' p F T b (sts n) (tellsTo tl n) := by
  have HKS := Lib.hid hks
  have HST := Lib.hid hst
  have HTT := Lib.hid htt
  have HP := Lib.hid hP
  clear hks hst htt hP
  go_enter Tryd.func50, Tryd.ntmps50
  go_wp2_with fail
  go_loopw [10] (fun i wr => ∃ j : Nat, j ≤ n ∧ i = .int .i64 j ∧ ((j = 0 ∧ wr = w0) ∨ (1 ≤ j ∧ ∃ b, KI w0 wr p F T b (sts j) (tellsTo tl j)))) (fun i _ => n - (intOf i).toNat)
  case atStart => exact ⟨0, Nat.zero_le _, rfl, .inl ⟨rfl, rfl⟩⟩
  case round =>
    obtain ⟨j, hj, rfl, hcase⟩ := hrel
    by_cases hjn : j < n
    · have PRE : ∃ b, PR w0 wr p F T b (ks j) (sts (j + 1)) (tl j) (tellsTo tl j) := by
        rcases hcase with ⟨rfl, rfl⟩ | ⟨hj1, b, hki⟩
        · refine ⟨p, ?_⟩
          rw [h0, h1, ht0]
          exact PR.first hF hT HP.out hpp hs hk hl
        · exact ⟨b, PR.later hki hpp (HTT.out j) (fun w hr => HST.out j hj1 hjn b w hr)⟩
      obtain ⟨b, PRE⟩ := PRE
      clear hcase
      have hlL := World.block_lt_of_cell? w0 _ hL
      have hlR := World.block_lt_of_cell? w0 _ hR
      dsimp only at hlL hlR
      have hcR : wr.cell? ⟨R, 0, none⟩ = some (.pointer (some ⟨p, 0, none⟩)) := (World.cell?_of_block (w := w0) (a := ⟨R, 0, none⟩) (PRE.kept R hlR hRp.1 hRp.2.1 hRp.2.2)).trans hR
      have hcR2 : ∀ o, (wr.alloc o).cell? ⟨R, 0, none⟩ = some (.pointer (some ⟨p, 0, none⟩)) := fun o => ((Old.alloc wr o).cell (Nat.lt_of_lt_of_le hlR PRE.size)).trans hcR
      have hlk := World.block_lt_of_cell? w0 _ (HKS.out j hjn 0 (by omega))
      dsimp only at hlk
      have hkk : ∀ i, i < 5 → wr.cell? ⟨kb, ko + j * 5 + i, none⟩ = some ((ks j).cs.getD i undef) := fun i hi => (World.cell?_of_block (w := w0) (a := ⟨kb, ko + j * 5 + i, none⟩) (PRE.kept kb hlk hkp.1 hkp.2.1 hkp.2.2)).trans (HKS.out j hjn i hi)
      have k0 : wr.cell? ⟨kb, ko + j * 5, none⟩ = some (.int .i64 (ks j).op) := hkk 0 (by omega)
      have k1 : wr.cell? ⟨kb, ko + j * 5 + 1, none⟩ = some (.string (ks j).text) := hkk 1 (by omega)
      have k2 : wr.cell? ⟨kb, ko + j * 5 + 2, none⟩ = some (.int .i64 (ks j).n) := hkk 2 (by omega)
      have k3 : wr.cell? ⟨kb, ko + j * 5 + 3, none⟩ = some (.bool (ks j).f) := hkk 3 (by omega)
      have k4 : wr.cell? ⟨kb, ko + j * 5 + 4, none⟩ = some (.bool (ks j).b) := hkk 4 (by omega)
      have PH := Lib.hid PRE
      clear PRE hkk hL hR hF hT h0 ht0 h1 HKS
      obtain ⟨tv, hT1, hT2, _⟩ := PH.out.hT
      have HT1 := Lib.hid hT1
      have htv : tv = .slice none 0 0 ∨ ∃ g cap, tv = .slice (some ⟨g, 0, none⟩) (tellsTo tl j).length cap := by
        rcases hT2.2 with ⟨hv, _⟩ | ⟨g, cap, cur, hv, _⟩
        · exact .inl hv
        · exact .inr ⟨g, cap, hv⟩
      clear hT1 hT2
      have hj5 : j < n := hjn
      rcases htv with rfl | ⟨g, cap, rfl⟩
      all_goals
        go_wp2_with (first
          | (go_at_call 51; refine (PH.out.call _ (Old.alloc wr _)).mono ?_; rintro e w2 ⟨rfl, b', hr2, hm2, hb2, hn2'⟩
             have K2 := Lib.hid (KI.mid PH.out hr2 hm2 hn2' hF0 hT0 hp0 hpp)
             have T3 := Lib.hid ((KI.midT PH.out hm2 hT0 hpp).trans HT1.out)
             have K3 := Lib.hid (K2.out.setF hpp)
             have f1 := heap1_cell K2.out.hF
             have f2 := free_of_heap K2.out.hF 0
             have f3 := heap1_cell T3.out
             have hTl : T < (w2.setCell ⟨F, 0, none⟩ (.bool true)).heap.size := (Array.getElem?_eq_some_iff.1 T3.out).1
             have hsz2 : (w2.setCell ⟨F, 0, none⟩ (.bool true)).heap.size = w2.heap.size := by simp [World.setCell]
             clear hr2 hm2 hb2 PH HT1)
          | (at_builtin; obtain ⟨tv, hT1, hT2, hT3⟩ := K3.out.hT; have etv := Option.some.inj (T3.out.symm.trans hT1); injection etv with etv _; have etv : _ = tv := (by simpa using etv); subst etv
             refine wpList_append1 rfl _ _ 39 3 3 (.int .i64 0) (.int .i64 (tl j)) 8 rfl Tryd.underlying39 (by kernel_rfl) rfl w0.heap.size _ (tellsTo tl j).length _ rfl hT2 (by show _ = Value.slice (some ⟨(w2.setCell ⟨F, 0, none⟩ (.bool true)).heap.size, 0, none⟩) 1 1; rw [hsz2]; rfl) rfl (by rw [length_tellsTo]; omega) (by rw [length_tellsTo]; omega) K3.out.size ?_
             intro v' w4 hown4 hg4 hv4
             have K5 := Lib.hid (K3.out.tell hT1 hpp hp0 hF0 hT0 hown4 hg4)
             have f5 : w4.heap[T]? = some (.cells #[_] 39) := (hg4.block T hTl (fun e => by
               obtain ⟨C, hC⟩ := (own_type hT2 e.symm).2
               exact ne_of_types hC hT1 (by decide) rfl)).trans hT1
             have f6 := heap1_cell f5
             have f7 := free_of_heap f5 0
             obtain ⟨vb, vc, rfl⟩ := hv4
             clear hT1 hT2 hT3 K2 K3 T3 f1 f2 f3 f5 hown4 hg4 hTl hsz2))
        have hkv := K5.out
        rw [← tellsTo_succ] at hkv
        go_roundw
        case rel => exact ⟨j + 1, by omega, by go_num, .inr ⟨by omega, b', hkv⟩⟩
        case measure => simp [intOf]; omega
    · obtain rfl : j = n := by omega
      rcases hcase with ⟨h, _⟩ | ⟨_, b, hki⟩
      · exfalso; omega
      · have HK := Lib.hid hki
        clear hki
        go_wp2_with fail
        go_end0
        exact ⟨rfl, b, HK.out⟩
end Go.Proofs.YtlfmmmbafkelhaaDoor
