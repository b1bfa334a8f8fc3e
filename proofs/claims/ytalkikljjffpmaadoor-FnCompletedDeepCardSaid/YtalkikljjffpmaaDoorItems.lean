/- impl.items: words as completers; readline.PcItem. -/
import Derived.Test.YtalkikljjffpmaaDoorDoi
import Derived.Test.YtalkikljjffpmaaDoorSegL
namespace Go.Proofs.YtalkikljjffpmaaDoor
open Go.RowKit
set_option linter.unusedVariables false
set_option linter.unusedSimpArgs false
set_option linter.unnecessarySimpa false
set_option maxRecDepth 100000

/-- v is a slice of words that reads ws. -/
def Words (w : World) (v : Value) (ws : List (ByteArray × Nat)) : Prop :=
  ∃ ad c, v = .slice ad ws.length c ∧ ws.length ≤ c ∧ c ≤ maxLen ∧ ∀ j (h : j < ws.length), ∃ b o, ad = some ⟨b, o, none⟩ ∧ b < w.heap.size ∧ w.cell? ⟨b, o + j * 2, none⟩ = some (.string ws[j].1) ∧ w.cell? ⟨b, o + j * 2 + 1, none⟩ = some (.int .i64 ws[j].2)
theorem Words.old {w w' : World} {v : Value} {ws : List (ByteArray × Nat)} (h : Words w v ws) (o : Old w w') : Words w' v ws := by
  obtain ⟨ad, c, h0, h1, h2, h3⟩ := h
  refine ⟨ad, c, h0, h1, h2, fun j hj => ?_⟩
  obtain ⟨b, q, e, hb, c1, c2⟩ := h3 j hj
  exact ⟨b, q, e, Nat.lt_of_lt_of_le hb o.size, (o.cell hb).trans c1, (o.cell hb).trans c2⟩
theorem Words.at_ {w : World} {ad : Option Addr} {n c : Nat} {ws : List (ByteArray × Nat)} (h : Words w (.slice ad n c) ws) {j : Nat} (hj : j < ws.length) : ∃ b o, ad = some ⟨b, o, none⟩ ∧ b < w.heap.size ∧ w.cell? ⟨b, o + j * 2, none⟩ = some (.string ws[j].1) ∧ w.cell? ⟨b, o + j * 2 + 1, none⟩ = some (.int .i64 ws[j].2) := by
  obtain ⟨ad', c', e0, -, -, h3⟩ := h
  injection e0 with e1 e2 e3
  subst e1
  exact h3 j hj
/-- A part of such a slice. -/
theorem Words.part {w : World} {b o n c : Nat} {A K D : List (ByteArray × Nat)} (h : Words w (.slice (some ⟨b, o, none⟩) n c) (A ++ K ++ D)) (hc : A.length < c) : Words w (.slice (some ⟨b, o + A.length * 2, none⟩) K.length (c - A.length)) K := by
  obtain ⟨ad', c', e0, h1, h2, h3⟩ := h
  injection e0 with e1 e2 e3
  subst e1 e3
  simp only [List.length_append] at h1 h3
  refine ⟨_, _, rfl, by omega, by unfold maxLen at *; omega, fun j hj => ?_⟩
  obtain ⟨b', o', e, hb, c1, c2⟩ := h3 (A.length + j) (by omega)
  injection e with e; injection e with e1 e2; subst e1 e2
  have hg : (A ++ K ++ D)[A.length + j]'(by simp; omega) = K[j] := by
    rw [List.getElem_append_left (by simp; omega), List.getElem_append_right (by omega)]
    simp
  rw [hg] at c1 c2
  refine ⟨b, o + A.length * 2, rfl, hb, ?_, ?_⟩
  · rw [show o + A.length * 2 + j * 2 = o + (A.length + j) * 2 by omega]; exact c1
  · rw [show o + A.length * 2 + j * 2 + 1 = o + (A.length + j) * 2 + 1 by omega]; exact c2
theorem Words.nil (w : World) (ad : Option Addr) : Words w (.slice ad 0 0) [] := ⟨ad, 0, rfl, Nat.le_refl _, by unfold maxLen; omega, fun j hj => absurd hj (by simp)⟩
/-- The worlds agree on some blocks. -/
def Ag (w w' : World) (S : List Nat) : Prop := ∀ b ∈ S, w'.heap[b]? = w.heap[b]?
def Fresh (n : Nat) (w : World) (S : List Nat) : Prop := ∀ b ∈ S, n ≤ b ∧ b < w.heap.size
theorem Fresh.old {n : Nat} {w w' : World} {S : List Nat} (h : Fresh n w S) (o : w.heap.size ≤ w'.heap.size) : Fresh n w' S := fun b hb => ⟨(h b hb).1, by have := (h b hb).2; omega⟩
section
variable {α : Type} (nm : α → ByteArray) (kw : α → List (ByteArray × Nat)) (P : α → World → Value → Prop)
def encW (x : α) : List (ByteArray × Nat) := (nm x, (kw x).length + 1) :: kw x
def encF (F : List α) : List (ByteArray × Nat) := F.flatMap (encW nm kw)
/-- u is a completer of x. -/
def NodeP (x : α) (w : World) (u : Value) : Prop := ∃ p ns fv kv b, u = .iface 71 (.pointer (some ⟨p, 0, none⟩)) ∧ w.heap[p]? = some (.cells #[ns, .bool false, fv, kv] 128) ∧ RC w 21 ns (nums (nm x) ++ [32]) b ∧ P x w kv
/-- kv is a slice of completers of F. -/
def RowP (F : List α) (w : World) (kv : Value) : Prop := RowI w kv F.length (fun j u => ∃ h : j < F.length, NodeP nm P F[j] w u)
end
theorem nums_app9 (a b : ByteArray) : nums (a ++ b) = nums a ++ nums b := by
  unfold nums; simp [ByteArray.data_append]
theorem asc_app9 {a b : ByteArray} (h : asc a) (k : asc b) : asc (a ++ b) := fun i hi => by
  by_cases e : i < a.size
  · rw [ByteArray.getElem_append_left e]; exact h _ _
  · rw [ByteArray.getElem_append_right (by omega)]; exact k _ _
theorem asc_space9 : asc ⟨#[32]⟩ := fun k hk => by
  have : k = 0 := by have : (⟨#[32]⟩ : ByteArray).size = 1 := rfl; omega
  subst this; show (32 : UInt8).toNat < 128; decide
def PcEnd (s : ByteArray) (kv : Value) (w : World) (e : Ending) (w' : World) : Prop := ∃ p ns fv b, e = .returned (.pointer (some ⟨p, 0, none⟩)) ∧ Old w w' ∧ w'.heap[p]? = some (.cells #[ns, .bool false, fv, kv] 128) ∧ RC w' 21 ns (nums s ++ [32]) b ∧ w.heap.size ≤ p ∧ w.heap.size ≤ b
theorem pcitem_any (s : ByteArray) (ad : Option Addr) (n c : Nat) (w : World) (ha : asc s) (hs : s.size ≤ 1000) :
    Calls Tryd.prog 56 #[.string s, .slice ad n c] w (PcEnd s (.slice ad n c) w) := by
  have s1 : ¬ 9223372036854775807 < s.size + (⟨#[32]⟩ : ByteArray).size := by
    have : (⟨#[32]⟩ : ByteArray).size = 1 := rfl
    rw [this]; omega
  have s2 : ¬ 9223372036854775807 < s.size + 1 := by omega
  obtain ⟨t, ht⟩ : ∃ t, t = s ++ (⟨#[32]⟩ : ByteArray) := ⟨_, rfl⟩
  have NT : Hid (runes t = nums s ++ [32]) := by
    unfold Hid
    rw [ht, runes_asc (asc_app9 ha asc_space9), nums_app9]; rfl
  have TZ : Hid (t.size ≤ 1001) := by
    unfold Hid; rw [ht, ByteArray.size_append]; have : (⟨#[32]⟩ : ByteArray).size = 1 := rfl
    omega
  have HT := Lib.hid ht
  clear ht
  go_enter Tryd.func56, Tryd.ntmps56
  go_upto_region 2 with fail
  rw [← HT.out]
  go_wp2_with (refine wpList_runes rfl 9 58 21 _ t rfl rfl (by kernel_rfl) (by kernel_rfl) (by kernel_rfl) (by have := TZ.out; omega) ?_; intro vv w2 o2 r2 hv2 own2; rw [NT.out] at own2; obtain ⟨b1, rc1, hb1⟩ := RC.of_own own2 (by simp); have RC1 := Lib.hid rc1; have O2 := Lib.hid o2; obtain ⟨bv, cv, rfl⟩ := hv2; clear o2 r2 own2 rc1)
  go_ret
  exact ⟨w2.heap.size, _, _, b1, rfl, O2.out.then_alloc _, heap_alloc_new w2 _, RC1.out.old (Old.alloc w2 _), O2.out.size, hb1⟩
section
variable {α : Type} {nm : α → ByteArray} {kw : α → List (ByteArray × Nat)}
theorem encF_take {F : List α} {k : Nat} (h : k < F.length) : encF nm kw (F.take (k + 1)) = encF nm kw (F.take k) ++ encW nm kw F[k] := by
  unfold encF; rw [List.take_succ_eq_append_getElem h, List.flatMap_append]; simp
theorem encF_split {F : List α} {k : Nat} (h : k < F.length) : encF nm kw F = encF nm kw (F.take k) ++ encW nm kw F[k] ++ encF nm kw (F.drop (k + 1)) := by
  rw [← encF_take h]; unfold encF; rw [← List.flatMap_append, List.take_append_drop]
theorem encF_len : ∀ F : List α, F.length ≤ (encF nm kw F).length
  | [] => Nat.zero_le _
  | x :: F => by
    have := encF_len F
    unfold encF at *
    rw [List.flatMap_cons, List.length_append]
    show F.length + 1 ≤ ((kw x).length + 1) + _
    omega
theorem info_pci : (Tryd.prog.info? 130).map (fun i => (i.zero, i.size, i.bytes)) = some (some .nilIface, 1, 16) := by kernel_rfl
def ItEnd (Q : World → Value → Prop) (w : World) (e : Ending) (w' : World) : Prop := ∃ kv S, e = .returned (.tuple #[kv, .bool true]) ∧ Old w w' ∧ Fresh w.heap.size w' S ∧ (∃ ad n c, kv = .slice ad n c) ∧ ∀ w'', Ag w' w'' S → Q w'' kv
theorem Ag.rc {w w' : World} {S : List Nat} {e : TypeId} {u : Value} {l : List Int} {b : Nat} (h : RC w e u l b) (a : Ag w w' S) (hb : b ∈ S) : RC w' e u l b := h.keep (a b hb)
theorem it_step {P : α → World → Value → Prop} {F : List α} {w wr w4 w5 w7 : World} {ov kv ns fv : Value} {us : List Value} {S S4 : List Nat} {k p b bb cc : Nat} (hkn : k < F.length)
    (own : wr.ownsRow w.heap.size 130 1 ov k us) (fr : Fresh w.heap.size wr S) (ne : ∀ b ∈ S, some b ≠ ov.ownBlock) (st : ∀ w'', Ag wr w'' S → ∀ j (hj : j < F.length), j < k → NodeP nm P F[j] w'' (gv us j)) (oo : Old w wr)
    (o4 : Old wr w4) (f4 : Fresh wr.heap.size w4 S4) (st4 : ∀ w'', Ag w4 w'' S4 → P F[k] w'' kv) (o5 : Old w4 w5) (h5 : w5.heap[p]? = some (.cells #[ns, .bool false, fv, kv] 128)) (rc5 : RC w5 21 ns (nums (nm F[k]) ++ [32]) b) (g5 : w4.heap.size ≤ p) (g6 : w4.heap.size ≤ b)
    (own7 : w7.ownsRow w.heap.size 130 1 (.slice (some ⟨bb, 0, none⟩) (k + 1) cc) (k + 1) (us ++ [.iface 71 (.pointer (some ⟨p, 0, none⟩))])) (gr : w5.grownBy w7 ov.ownBlock) (hat : ov.ownBlock = some bb ∨ w5.heap.size ≤ bb) :
    Fresh w.heap.size w7 (p :: b :: (S ++ S4)) ∧ (∀ q ∈ p :: b :: (S ++ S4), some q ≠ (Value.slice (some ⟨bb, 0, none⟩) (k + 1) cc).ownBlock) ∧ (∀ w'', Ag w7 w'' (p :: b :: (S ++ S4)) → ∀ j (hj : j < F.length), j < k + 1 → NodeP nm P F[j] w'' (gv (us ++ [.iface 71 (.pointer (some ⟨p, 0, none⟩))]) j)) ∧ Old w w7 := by
  have ul : us.length = k := by have := own.1; omega
  have z1 := oo.size
  have z4 := o4.size
  have z5 := o5.size
  have z7 := gr.size
  have hp5 : p < w5.heap.size := (Array.getElem?_eq_some_iff.1 h5).1
  have hb5 := rc5.lt
  have ovlt : ∀ q, ov.ownBlock = some q → q < wr.heap.size := fun q hq => (own_inside own q hq).2
  have key : ∀ q ∈ p :: b :: (S ++ S4), w.heap.size ≤ q ∧ q < w5.heap.size ∧ some q ≠ ov.ownBlock := fun q hq => by
    rcases List.mem_cons.1 hq with rfl | hq
    · exact ⟨by omega, hp5, fun e => by have := ovlt _ e.symm; omega⟩
    rcases List.mem_cons.1 hq with rfl | hq
    · exact ⟨by omega, hb5, fun e => by have := ovlt _ e.symm; omega⟩
    rcases List.mem_append.1 hq with hq | hq
    · have := fr q hq; exact ⟨by omega, by omega, ne q hq⟩
    · have := f4 q hq; exact ⟨by omega, by omega, fun e => by have := ovlt _ e.symm; omega⟩
  refine ⟨fun q hq => ⟨(key q hq).1, by have := (key q hq).2.1; omega⟩, fun q hq e => ?_, fun w'' ag j hj hjk => ?_, Old.own (oo.trans (o4.trans o5)) (Nat.le_refl _) (own_old own (o4.trans o5)) gr⟩
  · have e' : q = bb := by simpa [Value.ownBlock] using e
    rcases hat with h | h
    · rw [← e'] at h; exact (key q hq).2.2 h.symm
    · have := (key q hq).2.1; omega
  · have heap7 : ∀ q ∈ p :: b :: (S ++ S4), w''.heap[q]? = w5.heap[q]? := fun q hq => (ag q hq).trans (gr.block q (key q hq).2.1 (key q hq).2.2)
    by_cases e : j < k
    · rw [gv_append_left (by omega)]
      refine st w'' (fun q hq => ?_) j hj e
      exact (heap7 q (by simp [hq])).trans (((o4.trans o5).heap (fr q hq).2))
    · obtain rfl : j = k := by omega
      have e2 : gv (us ++ [.iface 71 (.pointer (some ⟨p, 0, none⟩))]) j = .iface 71 (.pointer (some ⟨p, 0, none⟩)) := by
        have := gv_append_at (l := us) (v := .iface 71 (.pointer (some ⟨p, 0, none⟩)))
        rw [ul] at this; exact this
      rw [e2]
      refine ⟨p, ns, fv, kv, b, rfl, (heap7 p (by simp)).trans h5, rc5.keep (heap7 b (by simp)), st4 w'' fun q hq => ?_⟩
      exact (heap7 q (by simp [hq])).trans (o5.heap (f4 q hq).2)
theorem row_end {P : α → World → Value → Prop} {F : List α} {n0 : Nat} {wr : World} {ov : Value} {us : List Value} {S : List Nat} (own : wr.ownsRow n0 130 1 ov F.length us) (fr : Fresh n0 wr S) (st : ∀ w'', Ag wr w'' S → ∀ j (hj : j < F.length), j < F.length → NodeP nm P F[j] w'' (gv us j)) :
    ∃ S', Fresh n0 wr S' ∧ (∃ ad n c, ov = .slice ad n c) ∧ ∀ w'', Ag wr w'' S' → RowP nm P F w'' ov := by
  rcases own.2 with ⟨hv, h0⟩ | ⟨g, cap, cur, hv, h1, h2, h3⟩
  · refine ⟨S, fr, ⟨Option.none, 0, 0, hv⟩, fun w'' ag => ⟨Option.none, 0, by rw [hv, h0], fun j hj => absurd hj (by omega)⟩⟩
  · subst hv
    have hg := (Array.getElem?_eq_some_iff.1 h2).1
    refine ⟨g :: S, fun b hb => ?_, ⟨_, _, _, rfl⟩, fun w'' ag => ⟨_, _, rfl, fun j hj => ?_⟩⟩
    · rcases List.mem_cons.1 hb with rfl | hb
      · exact ⟨h1, hg⟩
      · exact fr b hb
    · have ag2 : Ag wr w'' S := fun b hb => ag b (by simp [hb])
      have hgw : w''.heap[g]? = wr.heap[g]? := ag g (by simp)
      have hlt : g < w''.heap.size := (Array.getElem?_eq_some_iff.1 (hgw.trans h2)).1
      refine ⟨g, 0, gv us j, rfl, hlt, ?_, hj, st w'' ag2 j hj hj⟩
      rw [Nat.zero_add]
      exact (World.cell?_of_block (a := ⟨g, j, none⟩) hgw).trans (own_cell own j hj)
set_option maxHeartbeats 1000000 in
theorem items_gen (P : α → World → Value → Prop) (F : List α) (v : Value) (w : World) (hw : Words w v (encF nm kw F)) (hF : (encF nm kw F).length ≤ 1000) (ha : ∀ x ∈ F, asc (nm x) ∧ (nm x).size ≤ 1000)
    (hrec : ∀ x ∈ F, ∀ v W, Words W v (kw x) → Calls Tryd.prog 32 #[v] W (ItEnd (P x) W)) :
    Calls Tryd.prog 32 #[v] w (ItEnd (fun w kv => RowP nm P F w kv) w) := by
  have HW := Lib.hid hw
  have HA := Lib.hid ha
  have HREC := Lib.hid hrec
  obtain ⟨ad, c, rfl, h1, h2, -⟩ := hw
  unfold maxLen at h2
  clear ha hrec
  go_enter Tryd.func32, Tryd.ntmps32
  go_wp2_with fail
  go_loopw [2, 4] (fun ov iv wr => ∃ k us S, k ≤ F.length ∧ iv = .int .i64 (((encF nm kw (F.take k)).length : Nat) : Int) ∧ wr.ownsRow w.heap.size 130 1 ov k us ∧ Fresh w.heap.size wr S ∧ (∀ b ∈ S, some b ≠ ov.ownBlock) ∧ (∀ w'', Ag wr w'' S → ∀ j (hj : j < F.length), j < k → NodeP nm P F[j] w'' (gv us j)) ∧ Old w wr) (fun _ iv _ => (encF nm kw F).length - (intOf iv).toNat)
  case atStart => exact ⟨0, [], [], Nat.zero_le _, by simp [encF], own_nil1 _ _ _, (fun b hb => by cases hb), (fun b hb => by cases hb), (fun w'' _ j hj h => absurd h (by omega)), Old.refl _⟩
  case round =>
    obtain ⟨k, us, S, hk, rfl, hown, hfr, hne, hst, hold⟩ := hrel
    have OW := Lib.hid hown
    have FR := Lib.hid hfr
    have NE := Lib.hid hne
    have ST := Lib.hid hst
    have OO := Lib.hid hold
    clear hown hfr hne hst hold
    by_cases hkn : k < F.length
    · have SP := Lib.hid (encF_split (nm := nm) (kw := kw) hkn)
      have TK := Lib.hid (encF_take (nm := nm) (kw := kw) hkn)
      have hax := HA.out _ (List.getElem_mem hkn)
      have REC := Lib.hid (HREC.out _ (List.getElem_mem hkn))
      have hlen := congrArg List.length SP.out
      have hx2 : (encW nm kw F[k]).length = (kw F[k]).length + 1 := rfl
      rw [List.length_append, List.length_append, hx2] at hlen
      obtain ⟨A, hA⟩ : ∃ A, A = encF nm kw (F.take k) := ⟨_, rfl⟩
      obtain ⟨D, hD⟩ : ∃ D, D = encF nm kw (F.drop (k + 1)) := ⟨_, rfl⟩
      rw [← hA, ← hD] at SP hlen
      rw [← hA] at TK ⊢
      obtain ⟨x, hx⟩ : ∃ x, x = F[k] := ⟨_, rfl⟩
      rw [← hx] at SP TK hax REC hlen
      have HX := Lib.hid hx
      have HAL : Hid ((encF nm kw (F.take k)).length = A.length) := by unfold Hid; rw [hA]
      clear hA hD hx hx2
      have hja : A.length < (encF nm kw F).length := by omega
      obtain ⟨b, o, rfl, hb, c1, c2⟩ := (HW.out.old OO.out).at_ hja
      have hg : (encF nm kw F)[A.length] = (nm x, (kw x).length + 1) := by
        have : (encF nm kw F)[A.length]? = some (nm x, (kw x).length + 1) := by
          rw [SP.out, List.append_assoc, List.getElem?_append_right (Nat.le_refl _), Nat.sub_self]; rfl
        rw [List.getElem?_eq_getElem hja] at this
        exact Option.some.inj this
      rw [hg] at c1 c2
      simp only at c1 c2
      obtain ⟨L, hL⟩ : ∃ L, L = (encF nm kw F).length := ⟨_, rfl⟩
      have HL := Lib.hid hL
      obtain ⟨K, hK⟩ : ∃ K, K = (kw x).length := ⟨_, rfl⟩
      have HK := Lib.hid hK
      rw [← hL] at h1 hF hlen hja ⊢
      rw [← hK] at c2 hlen
      have hle : A.length + (K + 1) ≤ L := by omega
      have d1 : decide ((K : Int) + 1 < 1) = false := decide_eq_false (by omega)
      have d2 : decide ((K : Int) + 1 > (L : Int) - (A.length : Int)) = false := by simp; omega
      have d3 : decide ((L : Int) - (A.length : Int) < (K : Int) + 1) = false := by simp; omega
      have OB := Lib.hid hb
      have KB : Hid (k ≤ 1000) := by
        unfold Hid
        have h1 := encF_len (nm := nm) (kw := kw) (F.take k)
        rw [List.length_take] at h1
        have h2 : (encF nm kw (F.take k)).length ≤ L := by rw [HAL.out]; omega
        omega
      clear hg hL hK hlen hb
      by_cases hpc : A.length + 1 < c
      · have hne1 : ¬ c = A.length + 1 := by omega
        have WP : Hid (Words wr (.slice (some ⟨b, o + (A.length + 1) * 2, none⟩) (A.length + (K + 1) - (A.length + 1)) (c - (A.length + 1))) (kw x)) := by
          have hw := HW.out.old OO.out
          rw [SP.out, show A ++ encW nm kw x ++ D = (A ++ [(nm x, (kw x).length + 1)]) ++ kw x ++ D by unfold encW; simp] at hw
          have h := Words.part hw (by simpa using hpc)
          simp only [List.length_append, List.length_singleton] at h
          unfold Hid
          rw [show A.length + (K + 1) - (A.length + 1) = (kw x).length by have := HK.out; omega]
          exact h
        go_wp2_with (first
          | (go_at_call 32; refine (REC.out _ _ WP.out).mono ?_; rintro e w4 ⟨kv, S4, rfl, o4, f4, ⟨kad, kn, kc, rfl⟩, st4⟩; have c1' := (o4.cell (o := o + A.length * 2) OB.out).trans c1; have O4 := Lib.hid o4; have F4 := Lib.hid f4; have T4 := Lib.hid st4; clear o4 f4 st4)
          | (go_at_call 56; refine (pcitem_any (nm x) kad kn kc _ hax.1 hax.2).mono ?_; rintro e w5 ⟨p5, ns5, fv5, b5, rfl, o5, h5, rc5, g5, g6⟩; have O5 := Lib.hid o5; have H5 := Lib.hid h5; have R5 := Lib.hid rc5; have G5 := Lib.hid (And.intro g5 g6); clear o5 h5 rc5 g5 g6)
          | (at_builtin; refine wpList_append_new rfl (Operand.tmp 40) (Operand.tmp 49) 68 130 _ .nilIface 1 16 rfl Tryd.underlying68 info_pci rfl (by decide) w.heap.size u2 k us rfl (own_old OW.out (O4.out.trans O5.out)) 1 #[.iface 71 (.pointer (some ⟨p5, 0, none⟩))] rfl (by decide) rfl (by intro z hz; simp at hz; subst hz; rfl) (by have := KB.out; omega) (by have := KB.out; omega) (by have h1 := OO.out.size; have h2 := O4.out.size; have h3 := O5.out.size; omega) ?_; intro v7 w7 own7 gr7 at7; obtain ⟨b7, cc7, rfl, at7⟩ := at7; have OW7 := Lib.hid own7; have ST7 := Lib.hid (it_step (nm := nm) (P := P) hkn OW.out FR.out NE.out ST.out OO.out O4.out F4.out (HX.out ▸ T4.out) O5.out H5.out (HX.out ▸ R5.out) G5.out.1 G5.out.2 own7 gr7 at7); clear own7 gr7 at7))
        go_roundw
        case rel => exact ⟨k + 1, _, _, by omega, by rw [TK.out, List.length_append]; show _ = Value.int IntKind.i64 ((A.length + ((kw x).length + 1) : Nat) : Int); rw [← HK.out]; go_num, OW7.out, ST7.out.1, ST7.out.2.1, ST7.out.2.2.1, ST7.out.2.2.2⟩
        case measure => simp [intOf]; omega
      · have hne1 : c = A.length + 1 := by omega
        subst hne1
        obtain rfl : K = 0 := by omega
        have KN : Hid (kw x = []) := List.eq_nil_of_length_eq_zero HK.out.symm
        have WP : Hid (Words wr (.slice (some ⟨b, o, none⟩) 0 0) (kw x)) := by unfold Hid; rw [KN.out]; exact Words.nil _ _
        go_wp2_with (first
          | (go_at_call 32; refine (REC.out _ _ WP.out).mono ?_; rintro e w4 ⟨kv, S4, rfl, o4, f4, ⟨kad, kn, kc, rfl⟩, st4⟩; have c1' := (o4.cell (o := o + A.length * 2) OB.out).trans c1; have O4 := Lib.hid o4; have F4 := Lib.hid f4; have T4 := Lib.hid st4; clear o4 f4 st4)
          | (go_at_call 56; refine (pcitem_any (nm x) kad kn kc _ hax.1 hax.2).mono ?_; rintro e w5 ⟨p5, ns5, fv5, b5, rfl, o5, h5, rc5, g5, g6⟩; have O5 := Lib.hid o5; have H5 := Lib.hid h5; have R5 := Lib.hid rc5; have G5 := Lib.hid (And.intro g5 g6); clear o5 h5 rc5 g5 g6)
          | (at_builtin; refine wpList_append_new rfl (Operand.tmp 40) (Operand.tmp 49) 68 130 _ .nilIface 1 16 rfl Tryd.underlying68 info_pci rfl (by decide) w.heap.size u2 k us rfl (own_old OW.out (O4.out.trans O5.out)) 1 #[.iface 71 (.pointer (some ⟨p5, 0, none⟩))] rfl (by decide) rfl (by intro z hz; simp at hz; subst hz; rfl) (by have := KB.out; omega) (by have := KB.out; omega) (by have h1 := OO.out.size; have h2 := O4.out.size; have h3 := O5.out.size; omega) ?_; intro v7 w7 own7 gr7 at7; obtain ⟨b7, cc7, rfl, at7⟩ := at7; have OW7 := Lib.hid own7; have ST7 := Lib.hid (it_step (nm := nm) (P := P) hkn OW.out FR.out NE.out ST.out OO.out O4.out F4.out (HX.out ▸ T4.out) O5.out H5.out (HX.out ▸ R5.out) G5.out.1 G5.out.2 own7 gr7 at7); clear own7 gr7 at7))
        go_roundw
        case rel => exact ⟨k + 1, _, _, by omega, by rw [TK.out, List.length_append]; show _ = Value.int IntKind.i64 ((A.length + ((kw x).length + 1) : Nat) : Int); rw [← HK.out]; go_num, OW7.out, ST7.out.1, ST7.out.2.1, ST7.out.2.2.1, ST7.out.2.2.2⟩
        case measure => simp [intOf]; omega
    · obtain rfl : k = F.length := by omega
      rw [List.take_length]
      go_wp2_with fail
      go_ret2
      obtain ⟨S', f', sl', r'⟩ := row_end (nm := nm) (P := P) OW.out FR.out ST.out
      exact ⟨u2, S', rfl, OO.out, f', sl', r'⟩
end
end Go.Proofs.YtalkikljjffpmaaDoor
