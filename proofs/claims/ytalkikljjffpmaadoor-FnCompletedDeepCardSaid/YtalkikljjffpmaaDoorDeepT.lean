/- Completers of three levels: made of words; what they offer behind two whole words. -/
import Derived.Test.YtalkikljjffpmaaDoorLevT
namespace Go.Proofs.YtalkikljjffpmaaDoor
open Go.RowKit
set_option linter.unusedVariables false
set_option linter.unusedSimpArgs false
set_option linter.unnecessarySimpa false
set_option maxRecDepth 100000

def P0 (x : ByteArray) (w : World) (kv : Value) : Prop := ∃ ad c, kv = .slice ad 0 c
def kw0 (x : ByteArray) : List (ByteArray × Nat) := []
def P1 (x : ByteArray × List ByteArray) (w : World) (kv : Value) : Prop := RowP id P0 x.2 w kv
def kw1 (x : ByteArray × List ByteArray) : List (ByteArray × Nat) := encF id kw0 x.2
def P2 (x : ByteArray × List (ByteArray × List ByteArray)) (w : World) (kv : Value) : Prop := RowP Prod.fst P1 x.2 w kv
def kw2 (x : ByteArray × List (ByteArray × List ByteArray)) : List (ByteArray × Nat) := encF Prod.fst kw1 x.2
theorem P0_old : ∀ x w w' kv, P0 x w kv → Old w w' → P0 x w' kv := fun _ _ _ _ h _ => h
theorem P1_old : ∀ x w w' kv, P1 x w kv → Old w w' → P1 x w' kv := fun _ _ _ _ h o => RowP.old P0_old h o
theorem P2_old : ∀ x w w' kv, P2 x w kv → Old w w' → P2 x w' kv := fun _ _ _ _ h o => RowP.old P1_old h o
theorem encF_part {α : Type} {nm : α → ByteArray} {kw : α → List (ByteArray × Nat)} {F : List α} {x : α} (h : x ∈ F) : (kw x).length + 1 ≤ (encF nm kw F).length := by
  induction F with
  | nil => cases h
  | cons y F ih =>
    have e : (encF nm kw (y :: F)).length = ((kw y).length + 1) + (encF nm kw F).length := by
      unfold encF; rw [List.flatMap_cons, List.length_append]; rfl
    rw [e]
    rcases List.mem_cons.1 h with rfl | h
    · omega
    · have := ih h; omega
def okW (s : ByteArray) : Prop := asc s ∧ s.size ≤ 1000
theorem ItEnd.mono {Q Q' : World → Value → Prop} {w w' : World} {e : Ending} (h : ItEnd Q w e w') (k : ∀ w kv, Q w kv → Q' w kv) : ItEnd Q' w e w' := by
  obtain ⟨kv, S, h1, h2, h3, h4, h5⟩ := h
  exact ⟨kv, S, h1, h2, h3, h4, fun w'' a => k _ _ (h5 w'' a)⟩
theorem items0 (x : ByteArray) (v : Value) (W : World) (h : Words W v (kw0 x)) : Calls Tryd.prog 32 #[v] W (ItEnd (P0 x) W) := by
  refine (items_gen (nm := (id : ByteArray → ByteArray)) (kw := kw0) P0 [] v W h (by simp [encF]) (fun y hy => absurd hy (by simp)) (fun y hy => absurd hy (by simp))).mono fun e w' he => he.mono fun w kv hk => ?_
  obtain ⟨ad, c, rfl, -⟩ := hk
  exact ⟨ad, c, rfl⟩
theorem items1 (F : List ByteArray) (v : Value) (W : World) (h : Words W v (encF id kw0 F)) (hl : (encF id kw0 F).length ≤ 1000) (ha : ∀ s ∈ F, okW s) : Calls Tryd.prog 32 #[v] W (ItEnd (fun w kv => RowP id P0 F w kv) W) :=
  items_gen P0 F v W h hl ha fun x _ v W hw => items0 x v W hw
theorem items2 (F : List (ByteArray × List ByteArray)) (v : Value) (W : World) (h : Words W v (encF Prod.fst kw1 F)) (hl : (encF Prod.fst kw1 F).length ≤ 1000) (ha : ∀ x ∈ F, okW x.1 ∧ ∀ s ∈ x.2, okW s) : Calls Tryd.prog 32 #[v] W (ItEnd (fun w kv => RowP Prod.fst P1 F w kv) W) :=
  items_gen P1 F v W h hl (fun x hx => (ha x hx).1) fun x hx v W hw => items1 x.2 v W hw (by have h1 := encF_part (nm := Prod.fst) (kw := kw1) hx; have h2 : (kw1 x).length = (encF id kw0 x.2).length := rfl; omega) (ha x hx).2
theorem items3 (F : List (ByteArray × List (ByteArray × List ByteArray))) (v : Value) (W : World) (h : Words W v (encF Prod.fst kw2 F)) (hl : (encF Prod.fst kw2 F).length ≤ 1000) (ha : ∀ x ∈ F, okW x.1 ∧ ∀ y ∈ x.2, okW y.1 ∧ ∀ s ∈ y.2, okW s) : Calls Tryd.prog 32 #[v] W (ItEnd (fun w kv => RowP Prod.fst P2 F w kv) W) :=
  items_gen P2 F v W h hl (fun x hx => (ha x hx).1) fun x hx v W hw => items2 x.2 v W hw (by have h1 := encF_part (nm := Prod.fst) (kw := kw2) hx; have h2 : (kw2 x).length = (encF Prod.fst kw1 x.2).length := rfl; omega) (ha x hx).2
theorem dom_any (p : Nat) (lb lo lc n : Nat) (i : Int) (w : World) (R : Value → Nat → World → Prop) (h : Calls Tryd.prog 57 #[.iface 71 (.pointer (some ⟨p, 0, none⟩)), .slice (some ⟨lb, lo, none⟩) n lc, .int .i64 i, .slice (some ⟨lb, lo, none⟩) n lc] w (DPost R)) :
    Calls Tryd.prog 35 #[.pointer (some ⟨p, 0, none⟩), .slice (some ⟨lb, lo, none⟩) n lc, .int .i64 i] w (DPost R) := by
  have H := Lib.hid h
  clear h
  go_enter Tryd.func35, Tryd.ntmps35
  go_wp2_with (go_at_call 57; refine H.out.mono ?_; rintro e w1 ⟨ov, off, rfl, hR⟩; have HR := Lib.hid hR; clear hR)
  go_ret2
  exact ⟨ov, off, rfl, HR.out⟩
theorem npc_any (ad : Option Addr) (n c : Nat) (w : World) : Calls Tryd.prog 34 #[.slice ad n c] w (PcEnd ⟨#[]⟩ (.slice ad n c) w) := by
  go_enter Tryd.func34, Tryd.ntmps34
  go_wp2_with (go_at_call 56; refine (pcitem_any ⟨#[]⟩ ad n c w (fun k hk => absurd hk (by have : (⟨#[]⟩ : ByteArray).size = 0 := rfl; omega)) (by decide)).mono ?_; rintro e w1 ⟨p, ns, fv, b, rfl, h1, h2, h3, h4, h5⟩; have H1 := Lib.hid h1; have H2 := Lib.hid h2; have H3 := Lib.hid h3; have H4 := Lib.hid (And.intro h4 h5); clear h1 h2 h3 h4 h5)
  go_ret
  exact ⟨p, ns, fv, b, rfl, H1.out, H2.out, H3.out, H4.out.1, H4.out.2⟩
/-- A word as names9 wants it. -/
def nameL (F : List ByteArray) : Prop := F.length ≤ 8 ∧ (∀ s ∈ F, smL (nums s) ∧ s.size ≤ 12) ∧ ∀ i j (hi : i < F.length) (hj : j < F.length), i ≠ j → nums F[i] ≠ nums F[j]
theorem LeafR.old {A : List (List Int)} {pg : List Int} {w w1 w' : World} {ov : Value} {off : Nat} (h : LeafR A pg w1 ov off w') (o : Old w w1) : LeafR A pg w ov off w' := by
  obtain ⟨us, Q, B, h1, h2, h3⟩ := h
  exact ⟨us, Q, B, o.trans h1, Nat.le_trans o.size h2, h3⟩
theorem deep_any (p : Nat) (lv orig kv : Value) (F : List (ByteArray × List (ByteArray × List ByteArray))) (i k : Nat) (pg : List Int) (w : World) (hp : w.cell? ⟨p, 3, none⟩ = some kv) (hk : RowP Prod.fst P2 F w kv) (hF : nameL (F.map Prod.fst)) (hi : i < F.length)
    (hT : nameL (F[i].2.map Prod.fst)) (hki : k < F[i].2.length) (hL : nameL F[i].2[k].2) (hpg : smL pg) (hpl : pg.length ≤ 12) (hl : RunesAt w lv (nums F[i].1 ++ 32 :: (nums F[i].2[k].1 ++ 32 :: pg))) :
    Calls Tryd.prog 57 #[.iface 71 (.pointer (some ⟨p, 0, none⟩)), lv, .int .i64 ((nums F[i].1 ++ 32 :: (nums F[i].2[k].1 ++ 32 :: pg)).length : Nat), orig] w (DPost (LeafR (F[i].2[k].2.map nums) pg w)) := by
  have hsm : smL (nums F[i].2[k].1) ∧ F[i].2[k].1.size ≤ 12 := hT.2.1 _ (List.mem_map_of_mem (List.getElem_mem hki))
  have hpg1 : 1 ≤ pg.length := by
    cases hh : pg with
    | nil => exact absurd hh hpg.1
    | cons x t => simp
  have hasc : ∀ l : List Int, smL l → ∀ j, j < l.length → 0 ≤ gi l j ∧ gi l j < 128 := fun l hsl j hj => by
    have := hsl.2 _ (List.getElem_mem hj)
    rw [gi_lt hj]; omega
  have hnil : nums F[i].2[k].1 ++ 32 :: pg ≠ [] := by simp
  have hn1 : 1 ≤ (nums F[i].2[k].1).length := by
    cases hh : nums F[i].2[k].1 with
    | nil => exact absurd hh hsm.1.1
    | cons x t => simp
  have hn12 : (nums F[i].2[k].1).length ≤ 12 := by rw [length_nums]; exact hsm.2
  have e0 : gi (nums F[i].2[k].1 ++ 32 :: pg) 0 = (nums F[i].2[k].1)[0] := by rw [gi_lt (by simp; omega), List.getElem_append_left (by omega)]
  refine level_any (nm := Prod.fst) (P := P2) p lv orig kv F i (nums F[i].2[k].1 ++ 32 :: pg) w _ hp hk (by have := hF.1; simp at this; omega) (fun x hx => ?_) hi (fun j hj hji => ?_) hnil ?_ (fun j hj => ?_) (by simp; omega) hl (fun u tv w1 o1 hu1 ht1 => ?_)
  · have := hF.2.1 x.1 (List.mem_map_of_mem hx)
    exact ⟨this.1, by omega⟩
  · have := hF.2.2 j i (by simpa using hj) (by simpa using hi) hji
    simpa using this
  · rw [e0]
    have := hsm.1.2 _ (List.getElem_mem (show 0 < (nums F[i].2[k].1).length by omega))
    omega
  · rcases Nat.lt_trichotomy j (nums F[i].2[k].1).length with h | h | h
    · rw [gi_lt hj, List.getElem_append_left h]
      have := hsm.1.2 _ (List.getElem_mem h)
      omega
    · subst h
      have : gi (nums F[i].2[k].1 ++ 32 :: pg) ((nums F[i].2[k].1).length + 0) = gi (32 :: pg) 0 := gi_append_right
      rw [Nat.add_zero] at this
      rw [this]; simp [gi, List.getD]
    · have e := gi_append_right (a := nums F[i].2[k].1) (b := 32 :: pg) (j := j - (nums F[i].2[k].1).length)
      rw [show (nums F[i].2[k].1).length + (j - (nums F[i].2[k].1).length) = j by omega] at e
      rw [e]
      have e2 : gi (32 :: pg) (j - (nums F[i].2[k].1).length) = gi pg (j - (nums F[i].2[k].1).length - 1) := by
        rw [show j - (nums F[i].2[k].1).length = (j - (nums F[i].2[k].1).length - 1) + 1 by omega]; simp [gi, List.getD]
      rw [e2]
      refine hasc pg hpg _ ?_
      simp at hj; omega
  · obtain ⟨p1, ns1, fv1, kv1, b1, rfl, hh1, -, hk1⟩ := hu1
    have hh1' := (o1.heap (Array.getElem?_eq_some_iff.1 hh1).1).trans hh1
    have hk1' : RowP Prod.fst P1 F[i].2 w1 kv1 := RowP.old P1_old hk1 o1
    refine level_any (nm := Prod.fst) (P := P1) p1 tv orig kv1 F[i].2 k pg w1 _ ((bcell4 hh1' 3).trans rfl) hk1' (by have := hT.1; simp at this; omega) (fun x hx => ?_) hki (fun j hj hji => ?_) hpg.1 ?_ (hasc pg hpg) (by omega) ht1 (fun u2 tv2 w2 o2 hu2 ht2 => ?_)
    · have := hT.2.1 x.1 (List.mem_map_of_mem hx)
      exact ⟨this.1, by omega⟩
    · have := hT.2.2 j k (by simpa using hj) (by simpa using hki) hji
      simpa using this
    · have := hpg.2 _ (List.getElem_mem (show 0 < pg.length by omega))
      rw [gi_lt (by omega)]; omega
    · obtain ⟨p2, ns2, fv2, kv2, b2, rfl, hh2, -, hk2⟩ := hu2
      have hh2' := (o2.heap (Array.getElem?_eq_some_iff.1 hh2).1).trans hh2
      have hk2' : RowP id P0 F[i].2[k].2 w2 kv2 := RowP.old P0_old hk2 o2
      refine (leaf_any (nm := id) (P := P0) p2 tv2 orig kv2 F[i].2[k].2 pg w2 ((bcell4 hh2' 3).trans rfl) hk2' (by have := hL.1; omega) (fun x hx => by have := (hL.2.1 x hx).2; simp only [id]; omega) hpg (by omega) ht2).mono ?_
      rintro e w3 ⟨ov, off, he, hR⟩
      exact ⟨ov, off, he, hR.old (o1.trans o2)⟩
end Go.Proofs.YtalkikljjffpmaaDoor
