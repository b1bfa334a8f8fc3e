/- Words for slices that a call makes by append: one element appended; slices of slices of runes; slices of strings. -/
import Derived.Test.YtpkmamdgpjncoaaDoorBase
import Derived.OwnWalk
import Derived.Laws.OwnMore
namespace Go.Proofs.YtpkmamdgpjncoaaDoor
open Go.RowKit
set_option linter.unusedVariables false
set_option linter.unusedSimpArgs false
set_option maxRecDepth 100000

theorem info_parts1 {P : Program} {e : TypeId} {z : Value} {n b : Nat} (h : (P.info? e).map (fun i => (i.zero, i.size, i.bytes)) = some (some z, n, b)) :
    ∃ i, P.info? e = some i ∧ i.zero = some z ∧ i.size = n ∧ i.bytes = b := by
  cases hi : P.info? e with
  | none => rw [hi] at h; simp at h
  | some i => rw [hi] at h; simp at h; exact ⟨i, rfl, h.1, h.2.1, h.2.2⟩

/-- What is kept by a change that touches no old block but the row's. -/
theorem Old.own {a b c : World} {e : TypeId} {sz n : Nat} {v : Value} {xs : List Value} {base : Nat} (h : Old a b) (hb : a.heap.size ≤ base) (hown : b.ownsRow base e sz v n xs) (hg : b.grownBy c v.ownBlock) : Old a c :=
  h.grown hg fun k hk => Nat.le_trans hb (hown.lt k hk).1

section
variable {P : Program} {ops : Array Oper} {rest : List Oper} {o : Oper} {a : Act} {Q : Exit → Act → World → Prop} {w : World}
/-- 'append(v, x)' of one element of one cell, v nil or the call's own. -/
theorem wpList_append1 (hgd : o.guard = none) (s x : Operand) (t e T : TypeId) (z val : Value) (bytes : Nat)
    (ho : o.op = .call { callee := .builtin .append, args := #[s, x], argTypes := #[t, t] }) (ht : P.underlying t = some (.slice e))
    (hinfo : (P.info? e).map (fun i => (i.zero, i.size, i.bytes)) = some (some z, 1, bytes)) (hz : z.cells.size = 1)
    (base : Nat) (v : Value) (n : Nat) (xs : List Value) (hs : a.eval s = v) (hown : w.ownsRow base e 1 v n xs)
    (hx : a.eval x = .slice (some ⟨w.heap.size, 0, none⟩) 1 1) (h1 : val.oneCell' = true) (hbytes : (n + 1) * bytes ≤ 140737488355328) (hn : n + 1 ≤ 140737488355328) (hbase : base ≤ w.heap.size)
    (h : ∀ v' w', w'.ownsRow base e 1 v' (n + 1) (xs ++ [val]) → w.grownBy w' v.ownBlock → (∃ b c, v' = .slice (some ⟨b, 0, none⟩) (n + 1) c) → wpList P ops Q rest (a.put o.dst v') w') :
    wpList P ops Q (o :: rest) a (w.alloc (.cells #[val] T)) := by
  obtain ⟨i, hi, hz0, hz1, hz2⟩ := info_parts1 hinfo
  have hc : ∀ (j : Nat) u, [val][j]? = some u → (w.alloc (.cells #[val] T)).cell? ((⟨w.heap.size, 0, none⟩ : Addr).add j) = some u := by
    intro j u hu
    have hj : j < [val].length := (List.getElem?_eq_some_iff.1 hu).1
    have hj0 : j = 0 := by simpa using hj
    subst hj0
    have hadd : (⟨w.heap.size, 0, none⟩ : Addr).add 0 = ⟨w.heap.size, 0, none⟩ := by unfold Addr.add; split <;> simp_all
    rw [hadd]
    exact (World.cell?_alloc_mark w #[val] T (0, 0) 0).trans hu
  refine wpList_append_own _ hgd s x t ho base e i z 1 bytes ht hi hz0 hz1 hz2 hz (by decide) v n xs hs (hown.alloc _) ⟨w.heap.size, 0, none⟩ 1 1 [val] hx rfl hc
    (by intro u hu; simp at hu; rw [hu]; exact h1) (by unfold maxLen; omega) hbytes (by simp; omega) ?_
  intro v' w' hown' hgrow hnil
  refine h v' w' hown' ?_ ?_
  · have hg0 := World.grownBy_alloc w (.cells #[val] T) v.ownBlock
    refine ⟨hgrow.os.trans hg0.os, hgrow.tape.trans hg0.tape, hgrow.output.trans hg0.output, Nat.le_trans hg0.size hgrow.size, fun k hk hne => ?_⟩
    exact (hgrow.block k (Nat.lt_of_lt_of_le hk hg0.size) hne).trans (hg0.block k hk hne)
  · rcases hown'.2 with ⟨hv', hm⟩ | ⟨g, cap, cur, hv', _⟩
    · omega
    · exact ⟨g, cap, hv'⟩
end

/-- Slice k of a list of values. -/
def gv (l : List Value) (k : Nat) : Value := l.getD k undef
theorem gv_lt {l : List Value} {k : Nat} (h : k < l.length) : gv l k = l[k] := by simp [gv, List.getD, List.getElem?_eq_getElem h]
theorem gv_append_left {l m : List Value} {k : Nat} (h : k < l.length) : gv (l ++ m) k = gv l k := by simp [gv, List.getD, List.getElem?_append, h]
theorem gv_append_at {l : List Value} {v : Value} : gv (l ++ [v]) l.length = v := by simp [gv, List.getD]

/-- The cells of an owned row of elements of one cell. -/
theorem own_cell {w : World} {base : Nat} {e : TypeId} {n : Nat} {xs : List Value} {b c : Nat} (h : w.ownsRow base e 1 (.slice (some ⟨b, 0, none⟩) n c) n xs) (k : Nat) (hk : k < n) : w.cell? ⟨b, k, none⟩ = some (gv xs k) := by
  have hl : xs.length = n := by have := h.1; omega
  have hc := h.cells (g := b) rfl k (gv xs k) (by rw [gv_lt (by omega)]; exact List.getElem?_eq_getElem (by omega))
  have hadd : (⟨b, 0, none⟩ : Addr).add k = ⟨b, k, none⟩ := by unfold Addr.add; split <;> simp_all
  rwa [hadd] at hc
theorem own_lt {w : World} {base : Nat} {e : TypeId} {n : Nat} {xs : List Value} {b c : Nat} (h : w.ownsRow base e 1 (.slice (some ⟨b, 0, none⟩) n c) n xs) : base ≤ b ∧ b < w.heap.size ∧ n ≤ c ∧ c ≤ maxLen := by
  have h1 := h.lt b rfl
  rcases h.2 with ⟨hv, _⟩ | ⟨g, cap, cur, hv, _, _, h3, h4, _⟩
  · cases hv
  · injection hv with hv1 hv2 hv3
    subst hv3
    exact ⟨h1.1, h1.2, h3, h4⟩

theorem own_some {w : World} {base : Nat} {e : TypeId} {sz n : Nat} {v : Value} {xs : List Value} (h : w.ownsRow base e sz v n xs) (hn : 1 ≤ n) : ∃ b c, v = .slice (some ⟨b, 0, none⟩) n c := by
  rcases h.2 with ⟨_, h0⟩ | ⟨g, cap, cur, hv, _⟩
  · omega
  · exact ⟨g, cap, hv⟩
theorem take_snoc_map {α : Type} (f : α → Value) (l : List α) (k : Nat) (h : k < l.length) : (l.take k).map f ++ [f l[k]] = (l.take (k + 1)).map f := by
  rw [List.take_succ_eq_append_getElem h, List.map_append]; rfl

/-- The values xs are slices of runes that read ls, one by one. -/
def RunesAll (w : World) (xs : List Value) (ls : List (List Int)) : Prop := xs.length = ls.length ∧ ∀ j, j < ls.length → RunesAt w (gv xs j) (ls.getD j [])
theorem RunesAll.nil (w : World) : RunesAll w [] [] := ⟨rfl, fun j h => absurd h (by simp)⟩
theorem RunesAll.snoc {w : World} {xs : List Value} {ls : List (List Int)} {v : Value} {l : List Int} (h : RunesAll w xs ls) (hv : RunesAt w v l) : RunesAll w (xs ++ [v]) (ls ++ [l]) := by
  refine ⟨by simp [h.1], fun j hj => ?_⟩
  have hlen := h.1
  by_cases e : j < ls.length
  · rw [gv_append_left (by omega)]
    have : (ls ++ [l]).getD j [] = ls.getD j [] := by simp [List.getD, List.getElem?_append, e]
    rw [this]; exact h.2 j e
  · have hj' : j = ls.length := by simp at hj; omega
    subst hj'
    have e1 : gv (xs ++ [v]) ls.length = v := by rw [← hlen]; exact gv_append_at
    have e2 : (ls ++ [l]).getD ls.length [] = l := by simp [List.getD]
    rw [e1, e2]; exact hv
theorem RunesAll.later {w w' : World} {xs : List Value} {ls : List (List Int)} (o : Old w w') (h : RunesAll w xs ls) : RunesAll w' xs ls := ⟨h.1, fun j hj => (h.2 j hj).later o⟩
/-- v is a slice of slices of runes that reads ls. -/
def SegsAt (w : World) (v : Value) (ls : List (List Int)) : Prop :=
  ∃ b c xs, v = .slice (some ⟨b, 0, none⟩) ls.length c ∧ ls.length ≤ c ∧ c ≤ maxLen ∧ b < w.heap.size ∧ (∀ j, j < ls.length → w.cell? ⟨b, j, none⟩ = some (gv xs j)) ∧ RunesAll w xs ls
theorem SegsAt.of_own {w w0 : World} {base : Nat} {e : TypeId} {xs : List Value} {ls : List (List Int)} {v : Value} {n b c : Nat} (h : w.ownsRow base e 1 v n xs) (hv : v = .slice (some ⟨b, 0, none⟩) n c) (hr : RunesAll w0 xs ls) (o : Old w0 w) : SegsAt w v ls := by
  subst hv
  have hl : xs.length = n := by have := h.1; omega
  have hn : n = ls.length := by rw [← hl]; exact hr.1
  subst hn
  have h4 := own_lt h
  exact ⟨b, c, xs, rfl, h4.2.2.1, h4.2.2.2, h4.2.1, fun j hj => own_cell h j hj, hr.later o⟩
theorem SegsAt.later {w w' : World} {v : Value} {ls : List (List Int)} (o : Old w w') (h : SegsAt w v ls) : SegsAt w' v ls := by
  obtain ⟨b, c, xs, rfl, h1, h2, h3, h4, h5⟩ := h
  exact ⟨b, c, xs, rfl, h1, h2, Nat.lt_of_lt_of_le h3 o.size, fun j hj => (o.cell h3).trans (h4 j hj), h5.later o⟩
theorem StrsAt.of_own {w : World} {base : Nat} {e : TypeId} {l : List ByteArray} {v : Value} {n b c : Nat} (h : w.ownsRow base e 1 v n (l.map Value.string)) (hv : v = .slice (some ⟨b, 0, none⟩) n c) : StrsAt w v l := by
  subst hv
  have hl : l.length = n := by have := h.1; simpa using this
  subst hl
  have h4 := own_lt h
  refine ⟨b, 0, c, rfl, h4.2.2.1, h4.2.2.2, h4.2.1, fun j hj => ?_⟩
  rw [Nat.zero_add, own_cell h j hj, gv_lt (by simpa using hj), gs_lt hj]
  simp

section
variable {P : Program}
theorem foldl_encode (l : List UInt8) (h : ∀ c ∈ l, c.toNat < 128) : ∀ (s : ByteArray), (l.map (fun c => (c.toNat : Int))).foldl (fun r n => r ++ Utf8.encode n) s = ⟨s.data ++ l.toArray⟩ := by
  induction l with
  | nil => intro s; simp
  | cons c l ih =>
    intro s
    have hc := h c (by simp)
    simp only [List.map_cons, List.foldl_cons]
    rw [ih (fun x hx => h x (by simp [hx]))]
    have he : Utf8.encode (c.toNat : Int) = ⟨#[c]⟩ := by
      unfold Utf8.encode
      have hv : Utf8.valid (c.toNat : Int) = true := by unfold Utf8.valid; simp; omega
      simp only [hv, if_true]
      rw [if_pos (by omega)]
      simp
    rw [he]
    have : (s ++ (⟨#[c]⟩ : ByteArray)).data = s.data ++ #[c] := ByteArray.data_append
    rw [this]
    simp
theorem runesBytes_nums {s : ByteArray} (h : asc s) : runesBytes (nums s) = s := by
  unfold runesBytes nums
  have := foldl_encode s.data.toList (fun c hc => by
    obtain ⟨i, hi, e⟩ := List.getElem_of_mem hc
    have hi' : i < s.size := by simpa using hi
    have := h i hi'
    rw [← e]; exact this) ByteArray.empty
  rw [this]
  have h0 : ByteArray.empty.data = #[] := rfl
  rw [h0]
  simp
/-- 'string(r)' of a slice of runes. -/
theorem runes_back (w : World) (src dst e : TypeId) (v : Value) (l : List Int) (hs : P.underlying src = some (.slice e)) (he : P.underlying e = some (.int .i32)) (hd : P.underlying dst = some .string)
    (hv : RunesAt w v l) : (convert src dst v).run P w = .ok (.string (runesBytes l)) w := by
  obtain ⟨b, o, c, rfl, h1, h2, h3, h4⟩ := hv
  have h := run_convert_runes (P := P) w src dst e ⟨b, o, none⟩ l.length c l (Nat.le_refl _) hs he hd (fun j hj => by
    have hadd : (⟨b, o, none⟩ : Addr).add j = ⟨b, o + j, none⟩ := by unfold Addr.add; split <;> simp_all
    rw [hadd]; exact h4 j hj)
  rwa [List.take_length] at h
end
end Go.Proofs.YtpkmamdgpjncoaaDoor
