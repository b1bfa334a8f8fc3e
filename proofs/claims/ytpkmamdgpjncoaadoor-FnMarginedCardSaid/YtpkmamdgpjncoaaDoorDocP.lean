/- A document in memory: the texts ahead of its cursor and behind it. -/
import Derived.Test.YtpkmamdgpjncoaaDoorProg
import Derived.Test.YtpkmamdgpjncoaaDoorApp
import Derived.Test.YtpkmamdgpjncoaaDoorTextM
namespace Go.Proofs.YtpkmamdgpjncoaaDoor
open Go.RowKit
set_option linter.unusedVariables false
set_option linter.unusedSimpArgs false
set_option linter.unnecessarySimpa false
set_option maxRecDepth 100000

/-- A text of ASCII that is not too long. -/
structure okT (l : Bs) : Prop where
  a : ∀ c ∈ l, c.toNat < 128
  n : l.length ≤ 1000000
theorem okT.take {l : Bs} (h : okT l) (k : Nat) : okT (l.take k) := ⟨fun c hc => h.a c (List.mem_of_mem_take hc), by have := h.n; simp; omega⟩
theorem okT.drop {l : Bs} (h : okT l) (k : Nat) : okT (l.drop k) := ⟨fun c hc => h.a c (List.mem_of_mem_drop hc), by have := h.n; simp; omega⟩
theorem okT.asc {l : Bs} (h : okT l) : asc (tx l) := tx_asc h.a
theorem nums_tx (l : Bs) : nums (tx l) = l.map fun c => (c.toNat : Int) := rfl
theorem runes_tx {l : Bs} (h : okT l) : runes (tx l) = l.map fun c => (c.toNat : Int) := by rw [runes_asc h.asc]; rfl
theorem back_tx {l : Bs} (h : okT l) : runesBytes (l.map fun c => (c.toNat : Int)) = tx l := by rw [← nums_tx, runesBytes_nums h.asc]
theorem gi_map {l : Bs} {k j : Nat} (h : j + k < l.length) : gi (l.map fun c => (c.toNat : Int)) (k + j) = gi ((l.drop k).map fun c => (c.toNat : Int)) j := by
  rw [List.map_drop, gi_drop]

/-- Block p is a document: its text, its cursor. -/
structure DP (w : World) (p : Nat) (l : Bs) (k : Nat) : Prop where
  c0 : w.cell? ⟨p, 0, none⟩ = some (.string (tx l))
  c1 : w.cell? ⟨p, 1, none⟩ = some (.int .i64 k)
theorem DP.lt {w : World} {p : Nat} {l : Bs} {k : Nat} (h : DP w p l k) : p < w.heap.size := World.block_lt_of_cell? w _ h.c0
theorem DP.old {w w' : World} {p : Nat} {l : Bs} {k : Nat} (h : DP w p l k) (o : Old w w') : DP w' p l k := ⟨(o.cell h.lt).trans h.c0, (o.cell h.lt).trans h.c1⟩

theorem RunesAt.pre {w : World} {b c n : Nat} {l : Bs} {k : Nat} (h : RunesAt w (.slice (some ⟨b, 0, none⟩) n c) (l.map fun c => (c.toNat : Int))) (hk : k ≤ l.length) : RunesAt w (.slice (some ⟨b, 0, none⟩) k c) ((l.take k).map fun c => (c.toNat : Int)) := by
  obtain ⟨b', o', c', e, h1, h2, h3, h4⟩ := h
  injection e with e1 e2 e3; injection e1 with e1; injection e1 with e1 e4; subst e1 e4 e2 e3
  have hl : ((l.take k).map fun c => (c.toNat : Int)).length = k := by simp; omega
  simp only [List.length_map] at h1 h4
  refine ⟨b, 0, c, by rw [hl], by omega, h2, h3, fun j hj => ?_⟩
  rw [hl] at hj
  rw [h4 j (by omega), List.map_take, gi_take hj]
theorem RunesAt.post {w : World} {b c n : Nat} {l : Bs} {k : Nat} (h : RunesAt w (.slice (some ⟨b, 0, none⟩) n c) (l.map fun c => (c.toNat : Int))) (hk : k ≤ l.length) (o c' : Nat) (ho : k < l.length → o = k) (hc : l.length - k ≤ c') (hm : c' ≤ maxLen) : RunesAt w (.slice (some ⟨b, o, none⟩) (l.length - k) c') ((l.drop k).map fun c => (c.toNat : Int)) := by
  obtain ⟨b', o', c', e, h1, h2, h3, h4⟩ := h
  injection e with e1 e2 e3; injection e1 with e1; injection e1 with e1 e4; subst e1 e4 e2 e3
  have hl : ((l.drop k).map fun c => (c.toNat : Int)).length = l.length - k := by simp
  simp only [List.length_map] at h1 h4
  refine ⟨b, o, c', by rw [hl], by omega, hm, h3, fun j hj => ?_⟩
  rw [hl] at hj
  obtain rfl := ho (by omega)
  have := h4 (o + j) (by omega)
  rw [Nat.zero_add] at this
  rw [this, gi_map (by omega)]

theorem RunesAt.none {w : World} {b c n : Nat} {l : List Int} (h : RunesAt w (.slice (some ⟨b, 0, none⟩) n c) l) : RunesAt w (.slice (some ⟨b, 0, none⟩) 0 0) [] := by
  obtain ⟨b', o', c', e, h1, h2, h3, h4⟩ := h
  injection e with e1 e2 e3; injection e1 with e1; injection e1 with e1 e4; subst e1
  exact ⟨b, 0, 0, rfl, Nat.le_refl _, by unfold maxLen; omega, h3, fun j hj => absurd hj (by simp)⟩
end Go.Proofs.YtpkmamdgpjncoaaDoor
