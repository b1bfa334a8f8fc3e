/- Words of this claim's own that name no function of the program: worlds that keep what was there, rows of runes and of bytes, conversions. -/
import Derived.WalkKit
import Derived.Below
import Derived.Laws.AppendOwn
import Derived.Laws.IdiomStrings
import Derived.Laws.Cover4
import Derived.Laws.NewBlocks
import Derived.Lib.Hide
import Derived.Deep.QuietTactic
import Derived.BigQuiet
import Derived.LoopTactic
import Derived.Deep.LoopGhost
import Derived.Outline
import Derived.WalkSpells
import Derived.WalkLawsBesides
import Derived.Laws.DeepStrings4
import Derived.StillTailTactics
import Derived.Laws.RangeAny
namespace Go.Proofs.YtpkmamdgpjncoaaDoor
open Go.RowKit
set_option linter.unusedVariables false
set_option linter.unusedSimpArgs false
set_option maxRecDepth 100000

/-- What was there stays as it was. -/
def Old (w w' : World) : Prop := Below w.heap.size w w'
theorem Old.refl (w : World) : Old w w := Below.refl _ _
theorem Old.size {w w' : World} (h : Old w w') : w.heap.size ≤ w'.heap.size := Below.size h
theorem Old.trans {a b c : World} (h : Old a b) (k : Old b c) : Old a c := Below.trans (B := a.heap.size) h (Below.mono (B := b.heap.size) k h.size)
theorem Old.alloc (w : World) (o : Obj) : Old w (w.alloc o) := (Below.refl _ _).alloc (Nat.le_refl _) o
theorem Old.drewN (w : World) (n : Nat) : Old w (w.drewN n) := ⟨rfl, rfl, rfl, Nat.le_refl _, fun _ _ => rfl⟩
theorem Old.drew (w : World) : Old w w.drew := (Below.refl _ _).drew
theorem Old.then_alloc {a b : World} (h : Old a b) (o : Obj) : Old a (b.alloc o) := h.trans (.alloc b o)
theorem Old.then_drewN {a b : World} (h : Old a b) (n : Nat) : Old a (b.drewN n) := h.trans (.drewN b n)
theorem Old.then_drew {a b : World} (h : Old a b) : Old a b.drew := h.trans (.drew b)
theorem Old.cell {w w' : World} (h : Old w w') {b o : Nat} (hb : b < w.heap.size) : w'.cell? ⟨b, o, none⟩ = w.cell? ⟨b, o, none⟩ := Below.cell (B := w.heap.size) h (p := ⟨b, o, none⟩) hb
theorem Old.frozen {w w' : World} (h : Old w w') {b o : Nat} (hb : b < w.heap.size) : w'.frozen? ⟨b, o, none⟩ = w.frozen? ⟨b, o, none⟩ := Below.frozen (B := w.heap.size) h (p := ⟨b, o, none⟩) hb
theorem Old.heap {w w' : World} (h : Old w w') {b : Nat} (hb : b < w.heap.size) : w'.heap[b]? = w.heap[b]? := h.block b hb
theorem Old.stored {a b : World} (h : Old a b) {p : Addr} (hp : a.heap.size ≤ p.block) (v : Value) : Old a (b.setCell p v) := Below.setCell (B := a.heap.size) h hp v
theorem Old.grown {a b c : World} {row : Option Nat} (h : Old a b) (hg : b.grownBy c row) (hr : ∀ k, row = some k → a.heap.size ≤ k) : Old a c := Below.grown (B := a.heap.size) h hg h.size hr
theorem Old.below {w w' : World} (h : Old w w') : Below w.heap.size w w' := h

/-- Element k of a list of numbers; 0 behind its end. -/
def gi (l : List Int) (k : Nat) : Int := l.getD k 0
theorem gi_lt {l : List Int} {k : Nat} (h : k < l.length) : gi l k = l[k] := by simp [gi, List.getD, List.getElem?_eq_getElem h]
theorem gi_ext {a b : List Int} (h : a.length = b.length) (e : ∀ k, k < a.length → gi a k = gi b k) : a = b := by
  apply List.ext_getElem h
  intro i h1 h2
  rw [← gi_lt h1, ← gi_lt h2]; exact e i h1
theorem gi_take {l : List Int} {n k : Nat} (h : k < n) : gi (l.take n) k = gi l k := by simp [gi, List.getD, List.getElem?_take, h]
theorem gi_drop (l : List Int) (n k : Nat) : gi (l.drop n) k = gi l (n + k) := by simp [gi, List.getD, List.getElem?_drop]

/-- v is a slice of runes that reads l. -/
def RunesAt (w : World) (v : Value) (l : List Int) : Prop :=
  ∃ b o c, v = .slice (some ⟨b, o, none⟩) l.length c ∧ l.length ≤ c ∧ c ≤ maxLen ∧ b < w.heap.size ∧ ∀ j, j < l.length → w.cell? ⟨b, o + j, none⟩ = some (.int .i32 (gi l j))
theorem RunesAt.later {w w' : World} {v : Value} {l : List Int} (hb : Old w w') (h : RunesAt w v l) : RunesAt w' v l := by
  obtain ⟨b, o, c, rfl, h1, h2, h3, h4⟩ := h
  exact ⟨b, o, c, rfl, h1, h2, Nat.lt_of_lt_of_le h3 hb.size, fun j hj => (hb.cell h3).trans (h4 j hj)⟩
theorem RunesAt.length_le {w : World} {v : Value} {l : List Int} (h : RunesAt w v l) : l.length ≤ 9223372036854775807 := by
  obtain ⟨b, o, c, rfl, h1, h2, h3, h4⟩ := h
  unfold maxLen at h2; omega

/-- Text k of a list; the empty one behind its end. -/
def gs (l : List ByteArray) (k : Nat) : ByteArray := l.getD k ByteArray.empty
theorem gs_lt {l : List ByteArray} {k : Nat} (h : k < l.length) : gs l k = l[k] := by simp [gs, List.getD, List.getElem?_eq_getElem h]
/-- v is a slice of strings that reads l. -/
def StrsAt (w : World) (v : Value) (l : List ByteArray) : Prop :=
  ∃ b o c, v = .slice (some ⟨b, o, none⟩) l.length c ∧ l.length ≤ c ∧ c ≤ maxLen ∧ b < w.heap.size ∧ ∀ j, j < l.length → w.cell? ⟨b, o + j, none⟩ = some (.string (gs l j))
theorem StrsAt.later {w w' : World} {v : Value} {l : List ByteArray} (hb : Old w w') (h : StrsAt w v l) : StrsAt w' v l := by
  obtain ⟨b, o, c, rfl, h1, h2, h3, h4⟩ := h
  exact ⟨b, o, c, rfl, h1, h2, Nat.lt_of_lt_of_le h3 hb.size, fun j hj => (hb.cell h3).trans (h4 j hj)⟩

/-- The code points of a string. -/
def runes (s : ByteArray) : List Int := (Conv.runesFrom s s.size 0 #[]).toList.map fun | .int _ n => n | _ => 0

def asc (s : ByteArray) : Prop := ∀ k (h : k < s.size), s[k].toNat < 128
instance (s : ByteArray) : Decidable (asc s) := by unfold asc; infer_instance
/-- The bytes of a string as numbers. -/
def nums (s : ByteArray) : List Int := s.data.toList.map fun b => (b.toNat : Int)
theorem length_nums (s : ByteArray) : (nums s).length = s.size := by simp [nums]
theorem gi_nums {s : ByteArray} {k : Nat} (h : k < s.size) : gi (nums s) k = (s[k].toNat : Int) := by
  rw [gi_lt (by rw [length_nums]; exact h)]
  simp [nums]
  rfl

theorem runesFrom_ints (s : ByteArray) : ∀ (bound i : Nat) (acc : Array Value), (∀ v ∈ acc.toList, ∃ n, v = .int .i32 n) → ∀ v ∈ (Conv.runesFrom s bound i acc).toList, ∃ n, v = .int .i32 n
  | 0, _, acc, h => by simpa [Conv.runesFrom] using h
  | bound + 1, i, acc, h => by
    unfold Conv.runesFrom
    split
    · exact runesFrom_ints s bound _ _ (by intro v hv; simp at hv; rcases hv with hv | rfl; exact h v (by simpa using hv); exact ⟨_, rfl⟩)
    · exact h
theorem runesFrom_runes (s : ByteArray) : (Conv.runesFrom s s.size 0 #[]).toList = (runes s).map (Value.int .i32) := by
  unfold runes
  rw [List.map_map]
  have h := runesFrom_ints s s.size 0 #[] (by simp)
  generalize (Conv.runesFrom s s.size 0 #[]).toList = l at h
  induction l with
  | nil => rfl
  | cons v l ih =>
    obtain ⟨n, rfl⟩ := h v (by simp)
    simp only [List.map_cons, Function.comp_apply]
    rw [← ih (fun v hv => h v (by simp [hv]))]
theorem length_runes_le (s : ByteArray) : (runes s).length ≤ s.size := by
  have h := size_runesFrom s s.size 0 #[]
  have e := congrArg List.length (runesFrom_runes s)
  simp at e h
  omega
theorem size_runesFrom_eq (s : ByteArray) : (Conv.runesFrom s s.size 0 #[]).size = (runes s).length := by
  have e := congrArg List.length (runesFrom_runes s)
  simpa using e

theorem runesFrom_asc (s : ByteArray) (h : asc s) : ∀ (bound i : Nat) (acc : Array Value), s.size ≤ bound + i → i ≤ s.size →
    (Conv.runesFrom s bound i acc).toList = acc.toList ++ ((nums s).drop i).map (Value.int .i32)
  | 0, i, acc, hb, hi => by
    obtain rfl : i = s.size := by omega
    simp [Conv.runesFrom, List.drop_of_length_le, length_nums]
  | bound + 1, i, acc, hb, hi => by
    unfold Conv.runesFrom
    split
    · rename_i hlt
      have ha := h i hlt
      have hd := decode_ascii s i hlt ha
      simp only [hd]
      rw [runesFrom_asc s h bound (i + 1) _ (by omega) (by omega)]
      have hl : i < (nums s).length := by rw [length_nums]; exact hlt
      rw [List.drop_eq_getElem_cons hl]
      simp only [Array.toList_push, List.map_cons, List.append_assoc, List.cons_append, List.nil_append]
      congr 3
      rw [← gi_lt hl, gi_nums hlt]; rfl
    · obtain rfl : i = s.size := by omega
      simp [List.drop_of_length_le, length_nums]
theorem runes_asc {s : ByteArray} (h : asc s) : runes s = nums s := by
  have e := (runesFrom_runes s).symm.trans (runesFrom_asc s h s.size 0 #[] (by omega) (by omega))
  simp at e
  have e2 := congrArg (List.map fun | Value.int _ n => n | _ => 0) e
  simp only [List.map_map] at e2
  have hid : ((fun | Value.int _ n => n | _ => 0) ∘ Value.int IntKind.i32) = (id : Int → Int) := by funext n; rfl
  rw [hid, List.map_id, List.map_id] at e2
  exact e2

section
variable {P : Program}
/-- '[]rune(s)': a new row of the code points. -/
theorem conv_runes (w : World) (src dst e : TypeId) (s : ByteArray) (hs : P.underlying src = some .string) (hd : P.underlying dst = some (.slice e)) (he : P.underlying e = some (.int .i32)) (h46 : s.size ≤ 70368744177664) :
    ∃ v w', (convert src dst (.string s)).run P w = .ok v w' ∧ Old w w' ∧ RunesAt w' v (runes s) ∧ (∃ b c, v = .slice (some ⟨b, 0, none⟩) (runes s).length c) ∧ w'.ownsRow w.heap.size e 1 v (runes s).length ((runes s).map (Value.int .i32)) := by
  have hsz := size_runesFrom_eq s
  have hle := length_runes_le s
  have hr := run_runes_of_string (P := P) w src dst e s hs hd he (by omega)
  have hge := grownCap_ge w (runes s).length 0 e
  have hcm := grownCap_le_maxLen w (runes s).length 0 e (by unfold maxLen; omega)
  rw [hsz] at hr
  have hcells : ∀ j, j < (runes s).length → (Conv.runesFrom s s.size 0 #[] ++ Array.replicate (grownCap w (runes s).length 0 e - (runes s).length) (Value.int .i32 0))[j]? = some (.int .i32 (gi (runes s) j)) := fun j hj => by
    rw [Array.getElem?_append_left (by omega), ← Array.getElem?_toList, runesFrom_runes]
    simp [gi, List.getD, List.getElem?_eq_getElem hj]
  refine ⟨_, _, hr, (Old.drew w).then_alloc _, ⟨w.heap.size, 0, _, rfl, hge, hcm, by simp, fun j hj => ?_⟩, ⟨_, _, rfl⟩, by simp, .inr ⟨w.heap.size, _, _, rfl, Nat.le_refl _, heap_alloc_new w.drew _, hge, hcm, ?_, ?_⟩⟩
  · have := World.cell?_alloc_mark w.drew (Conv.runesFrom s s.size 0 #[] ++ Array.replicate (grownCap w (runes s).length 0 e - (runes s).length) (Value.int .i32 0)) e (0, 0) j
    simp only [Nat.zero_add]
    exact this.trans (hcells j hj)
  · simp only [Array.size_append, Array.size_replicate, hsz]; omega
  · rw [Array.toList_append, runesFrom_runes, Nat.mul_one]
    exact List.take_left' (by simp)
end

section
variable {P : Program} {ops : Array Oper} {rest : List Oper} {o : Oper} {a : Act} {Q : Exit → Act → World → Prop} {w : World}
theorem wpList_convert {v : Value} {w1 : World} (hgd : o.guard = none) (src dst : TypeId) (x : Operand) (val : Value) (ho : o.op = .convert src dst x) (hx : a.eval x = val)
    (hr : (convert src dst val).run P w = .ok v w1) (h : wpList P ops Q rest (a.put o.dst v) w1) : wpList P ops Q (o :: rest) a w :=
  wpList_plain hgd fun _ hK => by
    unfold Oper.wp execOp
    simp only [ho, hx, Sem.run_bind, Sem.run_pure, hr, Result.andThen_ok]
    exact hK _ _ h

/-- '[]rune(s)' in a walk. -/
theorem wpList_runes (hgd : o.guard = none) (src dst e : TypeId) (x : Operand) (s : ByteArray) (ho : o.op = .convert src dst x) (hx : a.eval x = .string s)
    (hs : P.underlying src = some .string) (hd : P.underlying dst = some (.slice e)) (he : P.underlying e = some (.int .i32)) (h46 : s.size ≤ 70368744177664)
    (h : ∀ v w', Old w w' → RunesAt w' v (runes s) → (∃ b c, v = .slice (some ⟨b, 0, none⟩) (runes s).length c) → w'.ownsRow w.heap.size e 1 v (runes s).length ((runes s).map (Value.int .i32)) → wpList P ops Q rest (a.put o.dst v) w') :
    wpList P ops Q (o :: rest) a w := by
  obtain ⟨v, w', hr, h1, h2, h3, h4⟩ := conv_runes (P := P) w src dst e s hs hd he h46
  exact wpList_convert hgd src dst x _ ho hx hr (h v w' h1 h2 h3 h4)
end
/-- Block b holds the numbers f 0 .. f (n - 1), and they may be written. -/
def COwn (w : World) (b : Nat) (k : IntKind) (n : Nat) (f : Nat → Int) : Prop := ∀ j, j < n → w.cell? ⟨b, j, none⟩ = some (.int k (f j)) ∧ w.frozen? ⟨b, j, none⟩ = false
theorem frozen_setCell (w : World) (a p : Addr) (v : Value) : (w.setCell a v).frozen? p = w.frozen? p := by
  unfold World.frozen? World.setCell
  simp only [Array.getElem?_modify]
  by_cases h : a.block = p.block
  · simp only [h, if_true]
    cases w.heap[p.block]? with
    | none => rfl
    | some o => cases o <;> rfl
  · simp only [h, if_false]
theorem COwn.stored {w : World} {b : Nat} {k : IntKind} {n : Nat} {f : Nat → Int} (h : COwn w b k n f) (i : Nat) (hi : i < n) (x : Int) :
    COwn (w.setCell ⟨b, i, none⟩ (.int k x)) b k n (fun j => if j = i then x else f j) := fun j hj => by
  refine ⟨?_, by rw [frozen_setCell]; exact (h j hj).2⟩
  by_cases e : j = i
  · subst e
    rw [World.cell?_setCell_same' w ⟨b, j, none⟩ _ (by rw [(h j hj).1]; rfl)]
    simp
  · rw [World.cell?_setCell_other]
    · simp only [e, if_false]; exact (h j hj).1
    · intro hh; simp at hh
theorem COwn.congr {w : World} {b : Nat} {k : IntKind} {n : Nat} {f g : Nat → Int} (h : COwn w b k n f) (e : ∀ j, j < n → f j = g j) : COwn w b k n g := fun j hj => by
  rw [← e j hj]; exact h j hj
theorem COwn.drewN {w : World} {b : Nat} {k : IntKind} {n : Nat} {f : Nat → Int} (h : COwn w b k n f) (m : Nat) : COwn (w.drewN m) b k n f := h
theorem COwn.drew {w : World} {b : Nat} {k : IntKind} {n : Nat} {f : Nat → Int} (h : COwn w b k n f) : COwn w.drew b k n f := h
theorem COwn.later {w w' : World} {b : Nat} {k : IntKind} {n : Nat} {f : Nat → Int} (h : COwn w b k n f) (hb : b < w.heap.size) (o : Old w w') : COwn w' b k n f := fun j hj =>
  ⟨(o.cell hb).trans (h j hj).1, (o.frozen hb).trans (h j hj).2⟩

section
variable {P : Program}
/-- '[]byte(s)': a new row of the bytes. -/
theorem conv_bytes (w : World) (src dst e : TypeId) (s : ByteArray) (hs : P.underlying src = some .string) (hd : P.underlying dst = some (.slice e)) (he : P.underlying e = some (.int .u8)) (hl : s.size ≤ 140737488351232) :
    ∃ c w', (convert src dst (.string s)).run P w = .ok (.slice (some ⟨w.heap.size, 0, none⟩) s.size c) w' ∧ Old w w' ∧ s.size ≤ c ∧ c ≤ maxLen ∧ w'.heap.size = w.heap.size + 1 ∧ COwn w' w.heap.size .u8 s.size (gi (nums s)) := by
  have hr := run_bytes_of_string (P := P) w src dst e s hs hd he
  have hge := grownCap_ge w s.size 0 e
  have hcm := grownCap_le_maxLen w s.size 0 e (by unfold maxLen; omega)
  refine ⟨_, _, hr, (Old.drew w).then_alloc _, hge, hcm, by simp, fun j hj => ⟨?_, ?_⟩⟩
  · rw [gi_nums hj]
    exact (World.cell?_alloc_mark w.drew _ e _ j).trans (bytesRow_at s _ j hj)
  · refine (World.frozen?_alloc_mark w.drew _ e _ _ j).trans ?_
    have : (bytesRow s (grownCap w s.size 0 e)).size = grownCap w s.size 0 e := by
      unfold bytesRow; simp [Array.size_append]; have : s.data.size = s.size := rfl; omega
    rw [this, Bool.and_eq_false_iff]; left; simp; omega
/-- 'string(b)' where b's cells are the bytes of t. -/
theorem bytes_back (w : World) (src dst e : TypeId) (b cap : Nat) (t : ByteArray) (hs : P.underlying src = some (.slice e)) (he : P.underlying e = some (.int .u8)) (hd : P.underlying dst = some .string)
    (hc : COwn w b .u8 t.size (gi (nums t))) : (convert src dst (.slice (some ⟨b, 0, none⟩) t.size cap)).run P w = .ok (.string t) w := by
  have h := run_convert_bytes_back (P := P) w src dst e ⟨b, 0, none⟩ cap t.data.toList hs he hd (fun j hj => by
    have hj' : j < t.size := by simpa using hj
    have := (hc j hj').1
    rw [gi_nums hj'] at this
    have hadd : (⟨b, 0, none⟩ : Addr).add j = ⟨b, j, none⟩ := by unfold Addr.add; split <;> simp_all
    rw [hadd, this]
    simp; rfl)
  simpa using h
end
section
variable {P : Program} {ops : Array Oper} {rest : List Oper} {o : Oper} {a : Act} {Q : Exit → Act → World → Prop} {w : World}
theorem wpList_bytes (hgd : o.guard = none) (src dst e : TypeId) (x : Operand) (s : ByteArray) (ho : o.op = .convert src dst x) (hx : a.eval x = .string s)
    (hs : P.underlying src = some .string) (hd : P.underlying dst = some (.slice e)) (he : P.underlying e = some (.int .u8)) (hl : s.size ≤ 140737488351232)
    (h : ∀ c w', Old w w' → s.size ≤ c → c ≤ maxLen → w'.heap.size = w.heap.size + 1 → COwn w' w.heap.size .u8 s.size (gi (nums s)) → wpList P ops Q rest (a.put o.dst (.slice (some ⟨w.heap.size, 0, none⟩) s.size c)) w') :
    wpList P ops Q (o :: rest) a w := by
  obtain ⟨c, w', hr, h1, h2, h3, h4, h5⟩ := conv_bytes (P := P) w src dst e s hs hd he hl
  exact wpList_convert hgd src dst x _ ho hx hr (h c w' h1 h2 h3 h4 h5)
end
theorem ret_bool {a b : Bool} (h : a = b) : Ending.returned (.bool b) = .returned (.bool a) := by rw [h]
theorem ret_int {k : IntKind} {a b : Int} (h : a = b) : Ending.returned (.int k b) = .returned (.int k a) := by rw [h]
theorem ret_str {a b : ByteArray} (h : a = b) : Ending.returned (.string b) = .returned (.string a) := by rw [h]
end Go.Proofs.YtpkmamdgpjncoaaDoor
