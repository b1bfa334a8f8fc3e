/- ansi.Writer of plain text: what it hands on to a buffer in some block. -/
import Derived.Test.YtpkmamdgpjncoaaDoorBufW
import Derived.Deep.RegionHeld3
import Derived.StillTailTactics
namespace Go.Proofs.YtpkmamdgpjncoaaDoor
open Go.RowKit
set_option linter.unusedVariables false
set_option linter.unusedSimpArgs false
set_option linter.unnecessarySimpa false
set_option maxRecDepth 100000

/-- The cells of a writer of sequences that has met none. -/
def awC (b o : Nat) (rb : Value) : Array Value := #[.iface 63 (.pointer (some ⟨b, o, none⟩)), .bool false, .slice none 0 0, .int .i64 0, .int .i8 0, .slice none 0 0, .int .i64 0, .int .i8 0, .bool false, rb]
/-- Block q is a writer of sequences that hands on to the buffer at cell o of block b; rb is where it encodes. -/
structure AW (w : World) (q b o : Nat) (T : TypeId) (K : Value → Int → Array Value) (B : Nat) (v rb : Value) (l : List UInt8) : Prop where
  buf : BB w b o T K B v l
  cells : w.heap[q]? = some (.cells (awC b o rb) 67)
  row : rb = .slice none 0 0 ∨ ∃ r x0 x1 x2 x3, rb = .slice (some ⟨r, 0, none⟩) 4 4 ∧ w.heap[r]? = some (.cells #[x0, x1, x2, x3] 5)
  qb : q ≠ b
  vq : v.ownBlock ≠ some q
  rq : rb.ownBlock ≠ some q
  rb_ : rb.ownBlock ≠ some b
  vr : ∀ g, v.ownBlock = some g → rb.ownBlock ≠ some g
  lowb : B ≤ b
  lowq : B ≤ q
  lowr : ∀ g, rb.ownBlock = some g → B ≤ g
/-- What a write turns: the buffer's cells and row, and where signs are encoded. -/
structure Mv (w w' : World) (q b : Nat) (v rb v' rb' : Value) : Prop where
  fr : Fr [some b, some q, v.ownBlock, rb.ownBlock] w w'
  v : Nx w v v'
  r : Nx w rb rb'
section
variable {w w' : World} {q b o : Nat} {T : TypeId} {K : Value → Int → Array Value} {B : Nat} {v rb v' rb' : Value} {l : List UInt8}
theorem AW.rlt (h : AW w q b o T K B v rb l) {g : Nat} (hg : rb.ownBlock = some g) : g < w.heap.size := by
  rcases h.row with hr | ⟨r, x0, x1, x2, x3, hr, h2⟩
  · rw [hr] at hg; simp [Value.ownBlock] at hg
  · rw [hr] at hg
    simp only [Value.ownBlock, Option.some.injEq] at hg
    subst hg
    exact flt h2
theorem AW.vlt (h : AW w q b o T K B v rb l) {g : Nat} (hg : v.ownBlock = some g) : g < w.heap.size := (fown_lt h.buf.own hg).2
theorem AW.fr {S : List (Option Nat)} (h : AW w q b o T K B v rb l) (f : Fr S w w') (h1 : some b ∉ S) (h2 : some q ∉ S) (h3 : ∀ g, v.ownBlock = some g → some g ∉ S) (h4 : ∀ g, rb.ownBlock = some g → some g ∉ S) : AW w' q b o T K B v rb l := by
  refine ⟨h.buf.fr f h1 h3, (f.block q (flt h.cells) h2).trans h.cells, ?_, h.qb, h.vq, h.rq, h.rb_, h.vr, h.lowb, h.lowq, h.lowr⟩
  rcases h.row with hr | ⟨r, x0, x1, x2, x3, hr, h5⟩
  · exact .inl hr
  · exact .inr ⟨r, x0, x1, x2, x3, hr, (f.block r (flt h5) (h4 r (by rw [hr]; rfl))).trans h5⟩
theorem AW.old (h : AW w q b o T K B v rb l) (f : Old w w') : AW w' q b o T K B v rb l := h.fr (S := []) (Fr.of_old f) (by simp) (by simp) (fun _ _ => by simp) (fun _ _ => by simp)
/-- The buffer was written. -/
theorem AW.wrote {m : List UInt8} (h : AW w q b o T K B v rb l) (k : BB w' b o T K B v' m) (nx : Nx w v v') (f : Fr [some b, v.ownBlock] w w') : AW w' q b o T K B v' rb m := by
  refine ⟨k, (f.block q (flt h.cells) ?_).trans h.cells, ?_, h.qb, nx.ne (flt h.cells) h.vq, h.rq, h.rb_, ?_, h.lowb, h.lowq, h.lowr⟩
  · simp only [List.mem_cons, List.not_mem_nil, or_false, not_or]
    exact ⟨fun e => h.qb (Option.some.inj e), fun e => h.vq e.symm⟩
  · rcases h.row with hr | ⟨r, x0, x1, x2, x3, hr, h5⟩
    · exact .inl hr
    · refine .inr ⟨r, x0, x1, x2, x3, hr, (f.block r (flt h5) ?_).trans h5⟩
      have hrb : rb.ownBlock = some r := by rw [hr]; rfl
      simp only [List.mem_cons, List.not_mem_nil, or_false, not_or]
      exact ⟨fun e => h.rb_ (hrb.trans e), fun e => h.vr r e.symm hrb⟩
  · intro g hg hr
    rcases nx with e | ⟨N, hN, e⟩
    · exact h.vr g (e.symm.trans hg) hr
    · have := h.rlt hr
      rw [e] at hg
      injection hg with hg
      omega
theorem Mv.refl (w : World) (q b : Nat) (v rb : Value) : Mv w w q b v rb v rb := ⟨Fr.refl _ _, Nx.refl _ _, Nx.refl _ _⟩
theorem Mv.of_old (h : Old w w') (q b : Nat) (v rb : Value) : Mv w w' q b v rb v rb := ⟨Fr.of_old h, .inl rfl, .inl rfl⟩
theorem Mv.trans {u w w' : World} {v1 rb1 v2 rb2 : Value} (h : Mv u w q b v rb v1 rb1) (k : Mv w w' q b v1 rb1 v2 rb2) : Mv u w' q b v rb v2 rb2 := by
  refine ⟨h.fr.trans k.fr ?_, h.v.trans k.v h.fr.size, h.r.trans k.r h.fr.size⟩
  intro i hi e
  simp only [List.mem_cons, List.not_mem_nil, or_false] at e ⊢
  rcases e with e | e | e | e
  · exact .inl e
  · exact .inr (.inl e)
  · exact .inr (.inr (.inl (h.v.back hi e)))
  · exact .inr (.inr (.inr (h.r.back hi e)))
theorem Mv.old_left {u w w' : World} (h : Old u w) (k : Mv w w' q b v rb v' rb') : Mv u w' q b v rb v' rb' := (Mv.of_old h q b v rb).trans k
/-- A block that was none of the writer's stays none of them, and stays. -/
theorem Mv.keep (h : Mv w w' q b v rb v' rb') {k : Nat} (hk : k < w.heap.size) (h1 : k ≠ b) (h2 : k ≠ q) (h3 : v.ownBlock ≠ some k) (h4 : rb.ownBlock ≠ some k) : w'.heap[k]? = w.heap[k]? ∧ v'.ownBlock ≠ some k ∧ rb'.ownBlock ≠ some k := by
  refine ⟨h.fr.block k hk ?_, h.v.ne hk h3, h.r.ne hk h4⟩
  simp only [List.mem_cons, List.not_mem_nil, or_false, not_or]
  exact ⟨fun e => h1 (Option.some.inj e), fun e => h2 (Option.some.inj e), fun e => h3 e.symm, fun e => h4 e.symm⟩
end
theorem er_any (r : Nat) (x0 x1 x2 x3 : Value) (c : UInt8) (w : World) (hr : w.heap[r]? = some (.cells #[x0, x1, x2, x3] 5)) (hc : c.toNat < 128) :
    Calls Tryd.prog 73 #[.slice (some ⟨r, 0, none⟩) 4 4, .int .i32 c.toNat] w fun e w' => e = .returned (.int .i64 1) ∧ w' = w.setCell ⟨r, 0, none⟩ (.int .u8 c.toNat) := by
  have c0 : w.cell? ⟨r, 0, none⟩ = some x0 := fcell hr 0
  have f0 := ffree hr 0
  have d1 : IntKind.u32.wrap (c.toNat : Int) = c.toNat := by have := IntKind.wrap_u32 (c.toNat : Int); rw [this]; omega
  have d2 : IntKind.u8.wrap (c.toNat : Int) = c.toNat := by have := IntKind.wrap_u8 (c.toNat : Int); rw [this]; omega
  clear hr
  generalize c.toNat = n at *
  have d3 : decide ((n : Int) ≤ 127) = true := by simp; omega
  go_enter Tryd.func73, Tryd.ntmps73
  go_wp2_with fail
  go_ret
  exact ⟨rfl, rfl⟩
end Go.Proofs.YtpkmamdgpjncoaaDoor
