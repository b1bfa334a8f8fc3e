/- readline's RuneBuffer: the steps that take out and put in. -/
import Derived.Test.YtlfmmmbafkelhaaDoorRB
import Derived.Test.YtlfmmmbafkelhaaDoorRow
import Derived.Deep.AppendLies
import Derived.Deep.RegionLaw
namespace Go.Proofs.YtlfmmmbafkelhaaDoor
open Go.RowKit
set_option linter.unusedVariables false
set_option linter.unusedSimpArgs false
set_option maxRecDepth 100000

theorem info_r : (Tryd.prog.info? 21).map (fun i => (i.zero, i.size, i.bytes)) = some (some (.int .i32 0), 1, 4) := by kernel_rfl
section
variable {P : Program} {ops : Array Oper} {rest : List Oper} {o : Oper} {a : Act} {Q : Exit → Act → World → Prop} {w : World}
/-- 'append(v, x...)' of a slice of runes to one of the call's own. -/
theorem wpList_append_runes (hgd : o.guard = none) (s x : Operand) (t e : TypeId) (z : Value) (ho : o.op = .call { callee := .builtin .append, args := #[s, x], argTypes := #[t, t] }) (ht : P.underlying t = some (.slice e))
    (hinfo : (P.info? e).map (fun i => (i.zero, i.size, i.bytes)) = some (some z, 1, 4)) (hz : z.cells.size = 1)
    (base : Nat) (v : Value) (n : Nat) (xs : List Value) (hs : a.eval s = v) (hown : w.ownsRow base e 1 v n xs)
    (tb to tc : Nat) (tl : List Int) (hx : a.eval x = .slice (some ⟨tb, to, none⟩) tl.length tc) (hc : ∀ j, j < tl.length → w.cell? ⟨tb, to + j, none⟩ = some (.int .i32 (gi tl j)))
    (hn : n + tl.length ≤ 1000000) (hbase : base ≤ w.heap.size) (hv : v ≠ .slice none 0 0)
    (h : ∀ w' g cap, w'.ownsRow base e 1 (.slice (some ⟨g, 0, none⟩) (n + tl.length) cap) (n + tl.length) (xs ++ tl.map (Value.int .i32)) → w.grownBy w' v.ownBlock → wpList P ops Q rest (a.put o.dst (.slice (some ⟨g, 0, none⟩) (n + tl.length) cap)) w') :
    wpList P ops Q (o :: rest) a w := by
  obtain ⟨i, hi, hz0, hz1, hz2⟩ := info_parts1 hinfo
  refine wpList_append_own _ hgd s x t ho base e i z 1 4 ht hi hz0 hz1 hz2 hz (by decide) v n xs hs hown ⟨tb, to, none⟩ tl.length tc (tl.map (Value.int .i32)) hx (by simp)
    (fun j u hu => by
      obtain ⟨hj, rfl⟩ := getElem_map_int hu
      have hadd : (⟨tb, to, none⟩ : Addr).add j = ⟨tb, to + j, none⟩ := by unfold Addr.add; split <;> simp_all
      rw [hadd]; exact hc j hj) (by intro u hu; simp at hu; obtain ⟨q, _, rfl⟩ := hu; rfl) (by unfold maxLen; omega) (by omega) hbase ?_
  intro v' w' hown' hgrow hnil
  rcases hown'.2 with ⟨hv', _⟩ | ⟨g, cap, cur, rfl, _⟩
  · exact absurd (hnil.1 hv').1 hv
  · exact h w' g cap hown' hgrow
end

section
variable {P : Program} {ops : Array Oper} {o : Oper} {a : Act} {K : Act → World → Prop} {Q : Exit → Act → World → Prop} {w : World} {E : Prop}
/-- 'append(v, x...)' of runes in a region that draws; x is not empty. -/
theorem step_append_runes (hgd : o.guard = none) (s x : Operand) (t e : TypeId) (z : Value) (ho : o.op = .call { callee := .builtin .append, args := #[s, x], argTypes := #[t, t] }) (ht : P.underlying t = some (.slice e))
    (hinfo : (P.info? e).map (fun i => (i.zero, i.size, i.bytes)) = some (some z, 1, 4)) (hz : z.cells.size = 1)
    (v : Value) (n : Nat) (xs : List Value) (hs : a.eval s = v) (hown : w.ownsRow 0 e 1 v n xs)
    (tb to tc m : Nat) (tl : List Int) (hm : tl.length = m) (hx : a.eval x = .slice (some ⟨tb, to, none⟩) m tc) (hc : ∀ j, j < tl.length → w.cell? ⟨tb, to + j, none⟩ = some (.int .i32 (gi tl j)))
    (hpos : 0 < m) (hn : n + m ≤ 1000000)
    (h : ∀ g cap w', w'.ownsRow 0 e 1 (.slice (some ⟨g, 0, none⟩) (n + m) cap) (n + m) (xs ++ tl.map (Value.int .i32)) → w.grownBy w' v.ownBlock → (v.ownBlock = some g ∨ g = w.heap.size) → K (a.put o.dst (.slice (some ⟨g, 0, none⟩) (n + m) cap)) w') :
    if Region.wanted o (yielded ops a.tmps) = true then Oper.wp P o a w K Q else E := by
  obtain ⟨i, hi, hz0, hz1, hz2⟩ := info_parts1 hinfo
  refine step_append_lies w hgd s x t ho 0 e i z 1 4 ht hi hz0 hz1 hz2 hz (by decide) v n xs hs hown ⟨tb, to, none⟩ m tc (tl.map (Value.int .i32)) hx (by simp [hm])
    (fun j u hu => by
      obtain ⟨hj, rfl⟩ := getElem_map_int hu
      have hadd : (⟨tb, to, none⟩ : Addr).add j = ⟨tb, to + j, none⟩ := by unfold Addr.add; split <;> simp_all
      rw [hadd]; exact hc j hj) (by intro u hu; simp at hu; obtain ⟨q, _, rfl⟩ := hu; rfl) hpos (by unfold maxLen; omega) (by omega) (Nat.zero_le _) _ rfl ?_
  intro g cap w' h1 h2 h3 _
  exact h g cap w' h1 h2 h3
end

section
variable {P : Program} {ops : Array Oper} {o : Oper} {a : Act} {K : Act → World → Prop} {Q : Exit → Act → World → Prop} {w : World} {E : Prop}
theorem setCells_nil (w : World) (b o : Nat) : w.setCells b o [] = w := rfl
/-- 'append(v, x...)' of an empty slice, in a region that draws. -/
theorem step_append_none (hgd : o.guard = none) (s x : Operand) (t e : TypeId) (ho : o.op = .call { callee := .builtin .append, args := #[s, x], argTypes := #[t, t] }) (ht : P.underlying t = some (.slice e))
    (hinfo : (P.info? e).map (fun i => (i.zero, i.size, i.bytes)) = some (some (.int .i32 0), 1, 4))
    (b n cap : Nat) (hs : a.eval s = .slice (some ⟨b, 0, none⟩) n cap) (ad : Addr) (c : Nat) (hx : a.eval x = .slice (some ad) 0 c) (hn : n ≤ cap)
    (h : K (a.put o.dst (.slice (some ⟨b, 0, none⟩) n cap)) w) :
    if Region.wanted o (yielded ops a.tmps) = true then Oper.wp P o a w K Q else E := by
  obtain ⟨i, hi, hz0, hz1, hz2⟩ := info_parts1 hinfo
  refine step_append_room hgd s x t ho e i 1 ht hi hz1 b 0 n cap hs ad 0 c [] hx rfl (by simp) (by simp) (by simpa using hn) (by simp) ?_
  exact h
end

theorem pushKill_any (p b tb to tc n : Nat) (tl : List Int) (st : St) (w : World) (h : RB w p b st) (hn : tl.length = n) (hc : ∀ j, j < tl.length → w.cell? ⟨tb, to + j, none⟩ = some (.int .i32 (gi tl j))) (htl : tl.length ≤ 1000) :
    Calls Tryd.prog 103 #[.pointer (some ⟨p, 0, none⟩), .slice (some ⟨tb, to, none⟩) n tc] w fun e w' => e = .returned (.tuple #[]) ∧ RB w' p b { st with kl := tl } ∧ Mod p p w w' := by
  subst hn
  have H := Lib.hid h
  obtain ⟨c, kv, hp, hown, hat, hl, hkl, hne, hk, ht⟩ := h
  have hlt := H.out.lt
  have htb : tl.length = 0 ∨ tb < w.heap.size := by
    by_cases e : tl.length = 0
    · exact .inl e
    · exact .inr (World.block_lt_of_cell? w _ (hc 0 (by omega)))
  have HC := Lib.hid hc
  have c10 := hp.c10
  have f10 := hp.free 10
  have HP := Lib.hid hp
  have HL := Lib.hid hown
  clear hp hown hk hc
  go_enter Tryd.func103, Tryd.ntmps103
  have hlt1 := hlt.1
  have hlt2 := hlt.2
  have HC2 : Hid (∀ j, j < tl.length → (w.alloc (.cells #[] 21)).cell? ⟨tb, to + j, none⟩ = some (.int .i32 (gi tl j))) := fun j hj =>
    (World.cell?_alloc_past (w := w) (.cells #[] 21) tb (to + j) (htb.resolve_left (by omega))).trans (HC.out j hj)
  have HO : Hid ((w.alloc (.cells #[] 21)).ownsRow w.heap.size 21 1 (.slice (some ⟨w.heap.size, 0, none⟩) 0 0) 0 []) := World.ownsRow_made w #[] 0 (Nat.le_refl _) (by unfold maxLen; omega) (by simp)
  go_wp2_with (at_builtin; refine wpList_append_runes rfl _ _ 54 21 (.int .i32 0) rfl Tryd.underlying54 info_r rfl w.heap.size (.slice (some ⟨w.heap.size, 0, none⟩) 0 0) 0 [] rfl HO.out tb to tc tl rfl HC2.out (by omega) (by simp) (by simp) ?_; intro w1 g cap hown1 hg1; rw [Nat.zero_add] at hown1 ⊢; have o1 : Old w w1 := (Old.alloc w (.cells #[] 21)).own (Nat.le_refl _) HO.out hg1; have d10 := (o1.cell (o := 10) hlt1).trans c10; have e10 := (o1.frozen (o := 10) hlt1).trans f10; have O1 := Lib.hid o1; have W1 := Lib.hid hown1; clear o1 hown1 hg1 c10 f10)
  go_end0
  have h4 := own_lt W1.out
  have hr1 := H.out.old O1.out
  have hk1 : (.int .i64 st.at_ : Value) = .int .i64 st.at_ := rfl
  refine ⟨rfl, ⟨c, .slice (some ⟨g, 0, none⟩) tl.length cap, (HP.out.old O1.out).set10 _, (HL.out.old O1.out).other (Ne.symm hne) _, hat, hl, htl, hne, ?_, by simp [World.setCell]; exact Nat.lt_of_lt_of_le ht.1 O1.out.size, ht.2⟩, (Mod.of_old O1.out).stored p 10 _ (Or.inl rfl)⟩
  refine .inr ⟨g, cap, rfl, h4.2.2.1, h4.2.2.2, by simp [World.setCell]; exact h4.2.1, by omega, by omega, by have := ht.1; show g ≠ st.t; omega, fun j hj => ?_⟩
  rw [World.cell?_setCell_other]
  · rw [own_cell W1.out j hj]
    simp [gv, List.getD, List.getElem?_eq_getElem hj, gi]
  · intro e; have := congrArg Addr.block e; simp at this; omega

theorem RB.kill_len {w : World} {p b : Nat} {st : St} (h : RB w p b st) : st.l.length ≤ 1000 := by obtain ⟨c, kv, _, _, _, hl, _⟩ := h; exact hl
theorem Var.mod {w w' : World} {v p b : Nat} (h : Var w v p b) (m : Mod p b w w') : Var w' v p b := by
  have hlt : v < w.heap.size := World.block_lt_of_cell? w _ h.cell
  exact ⟨(m.cell hlt h.np h.nb).trans h.cell, h.np, h.nb⟩
theorem Mod.weaken {p b : Nat} {w w' : World} (m : Mod p p w w') : Mod p b w w' := ⟨m.os, m.tape, m.output, m.size, fun k hk h1 _ => m.block k hk h1 h1⟩

/-- The line behind a deletion at a place. -/
def cutAt (l : List Int) (i j : Nat) : List Int := l.take i ++ l.drop j

theorem Var.old {w w' : World} {v p b : Nat} (h : Var w v p b) (o : Old w w') : Var w' v p b := h.mod (Mod.of_old o)
/-- A flag that may be written. -/
structure Flag (w : World) (sv p b : Nat) : Prop where
  cell : ∃ x, w.cell? ⟨sv, 0, none⟩ = some x
  free : w.frozen? ⟨sv, 0, none⟩ = false
  np : sv ≠ p
  nb : sv ≠ b
theorem Flag.mod {w w' : World} {v p b : Nat} (h : Flag w v p b) (m : Mod p b w w') : Flag w' v p b := by
  obtain ⟨x, hx⟩ := h.cell
  have hlt : v < w.heap.size := World.block_lt_of_cell? w _ hx
  exact ⟨⟨x, (m.cell hlt h.np h.nb).trans hx⟩, (m.frozen hlt h.np h.nb).trans h.free, h.np, h.nb⟩
theorem Flag.old {w w' : World} {v p b : Nat} (h : Flag w v p b) (o : Old w w') : Flag w' v p b := h.mod (Mod.of_old o)

theorem take_one_at {l : List Int} {a : Nat} (h : a < l.length) : ((l.drop a).take 1).length = 1 := by simp; omega
theorem gi_one_at {l : List Int} {a j : Nat} (h : j < ((l.drop a).take 1).length) : gi ((l.drop a).take 1) j = gi l (a + j) := by
  have : j < 1 := by simp at h; omega
  rw [gi_take this, gi_drop]

theorem grown_mod {w w' : World} {b n c : Nat} (h : w.grownBy w' (Value.slice (some ⟨b, 0, none⟩) n c).ownBlock) : Mod b b w w' :=
  ⟨h.os, h.tape, h.output, h.size, fun k hk h1 _ => h.block k hk (by simp [Value.ownBlock]; omega)⟩
theorem Mod.at_ {p b : Nat} {w w' : World} (h : Mod p b w w') {k : Nat} (hk : k < w.heap.size) (h1 : k ≠ p) (h2 : k ≠ b) : w'.heap[k]? = w.heap[k]? := h.block k hk h1 h2
theorem Mod.swap {p b : Nat} {w w' : World} (m : Mod b b w w') : Mod p b w w' := ⟨m.os, m.tape, m.output, m.size, fun k hk _ h2 => m.block k hk h2 h2⟩
theorem own_base {w : World} {b0 b1 : Nat} {e : TypeId} {n : Nat} {v : Value} {xs : List Value} (h : w.ownsRow b0 e 1 v n xs) (hb : b1 ≤ b0) : w.ownsRow b1 e 1 v n xs := by
  refine ⟨h.1, ?_⟩
  rcases h.2 with h | ⟨g, cap, cur, hv, h1, h2⟩
  · exact .inl h
  · exact .inr ⟨g, cap, cur, hv, Nat.le_trans hb h1, h2⟩
/-- A line that an append has made, stored as the line. -/
theorem step_of_append {w w4 : World} {p b g n cap nb cb : Nat} {st : St} {l' : List Int} {xs : List Value} (H : RB w p b st) (hown : w4.ownsRow 0 21 1 (.slice (some ⟨g, 0, none⟩) n cap) n xs) (hxs : xs = l'.map (Value.int .i32))
    (hg : w.grownBy w4 (Value.slice (some ⟨b, 0, none⟩) nb cb).ownBlock) (hb : (Value.slice (some ⟨b, 0, none⟩) nb cb).ownBlock = some g ∨ g = w.heap.size) (hn : l'.length ≤ 1000) (ha : st.at_ ≤ l'.length) :
    Step p b { st with l := l' } w (w4.setCell ⟨p, 0, none⟩ (.slice (some ⟨g, 0, none⟩) n cap)) := by
  subst hxs
  have hlt := H.lt
  obtain ⟨c, kv, hp, hL, hat, hl, hkl, hne, hk, ht⟩ := H
  have hnl : n = l'.length := by have := hown.1; simpa using this.symm
  subst hnl
  have hm := grown_mod hg
  have hgb : g = b ∨ w.heap.size ≤ g := by
    rcases hb with h | h
    · simp [Value.ownBlock] at h; exact .inl h.symm
    · exact .inr (by omega)
  have hpg : p ≠ g := by omega
  have hp4 := hp.heap (hm.at_ hlt.1 hne hne)
  have hk4 := hk.mod (hm.swap (p := p)) hgb
  have hL4 : LB w4 g cap l' := hown
  refine ⟨g, ⟨cap, kv, hp4.set0 _, hL4.other (Ne.symm hpg) _, ha, hn, hkl, hpg, ?_, by simp [World.setCell]; exact Nat.lt_of_lt_of_le ht.1 hg.size, by have := ht.1; have := ht.2.1; show g ≠ st.t; omega, ht.2.2⟩, (hm.swap (p := p)).stored p 0 _ (Or.inl rfl), hgb⟩
  exact hk4.mod ((Mod.refl p g w4).stored p 0 _ (Or.inl rfl)) (Or.inl rfl)

theorem Step.from_mod {p b : Nat} {st : St} {w w1 w' : World} (m : Mod p b w w1) (h : Step p b st w1 w') : Step p b st w w' := by
  obtain ⟨b', h1, h2, h3⟩ := h
  exact ⟨b', h1, m.trans h2 (Or.inl rfl), h3.imp id (fun h => Nat.le_trans m.size h)⟩
theorem keep_store {w : World} {v p : Nat} {x a b : Value} (h1 : w.cell? ⟨v, 0, none⟩ = some a) (h2 : w.cell? ⟨p, 1, none⟩ = some b) (hn : v ≠ p) :
    (w.setCell ⟨p, 0, none⟩ x).cell? ⟨v, 0, none⟩ = some a ∧ (w.setCell ⟨p, 0, none⟩ x).cell? ⟨p, 1, none⟩ = some b := by
  refine ⟨?_, ?_⟩
  · rw [World.cell?_setCell_other]
    · exact h1
    · intro e; have := congrArg Addr.block e; simp at this; omega
  · rw [World.cell?_setCell_other]
    · exact h2
    · intro e; have := congrArg Addr.off e; simp at this

/-- What stands behind an append to the line: the variable, the struct's cells, and the append's own words (hidden). -/
theorem held_append {w w4 : World} {v p b g n cap nb cb : Nat} {st : St} {xs : List Value} (H : RB w p b st) (hv : Var w v p b) (hown : w4.ownsRow 0 21 1 (.slice (some ⟨g, 0, none⟩) n cap) n xs)
    (hg : w.grownBy w4 (Value.slice (some ⟨b, 0, none⟩) nb cb).ownBlock) (hb : (Value.slice (some ⟨b, 0, none⟩) nb cb).ownBlock = some g ∨ g = w.heap.size) :
    w4.cell? ⟨v, 0, none⟩ = some (.pointer (some ⟨p, 0, none⟩)) ∧ (∃ x, w4.cell? ⟨p, 0, none⟩ = some x) ∧ w4.cell? ⟨p, 1, none⟩ = some (.int .i64 st.at_) ∧ w4.frozen? ⟨p, 0, none⟩ = false ∧
      Hid (w4.ownsRow 0 21 1 (.slice (some ⟨g, 0, none⟩) n cap) n xs ∧ w.grownBy w4 (Value.slice (some ⟨b, 0, none⟩) nb cb).ownBlock ∧ ((Value.slice (some ⟨b, 0, none⟩) nb cb).ownBlock = some g ∨ g = w.heap.size)) := by
  have hm := grown_mod hg
  obtain ⟨c, kv, hp, hL, hat, hl, hkl, hne, hk, ht⟩ := H
  have hp4 := hp.heap (hm.at_ hp.lt hne hne)
  exact ⟨(hm.cell (World.block_lt_of_cell? _ _ hv.cell) hv.nb hv.nb).trans hv.cell, ⟨_, hp4.c0⟩, hp4.c1, hp4.free 0, hown, hg, hb⟩

end Go.Proofs.YtlfmmmbafkelhaaDoor
