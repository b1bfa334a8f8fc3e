/- readline.doInternal at a completer. -/
import Derived.Test.YtalkikljjffpmaaDoorTr
import Derived.Test.YtalkikljjffpmaaDoorSeg2
namespace Go.Proofs.YtalkikljjffpmaaDoor
open Go.RowKit
set_option linter.unusedVariables false
set_option linter.unusedSimpArgs false
set_option linter.unnecessarySimpa false
set_option maxRecDepth 100000

/-- A row of the call's own, of slices of runes. -/
def SegJ (w : World) (B1 : Nat) (ov : Value) (us : List Value) (Q : List (List Int × Nat)) : Prop := w.ownsRow B1 58 1 ov Q.length us ∧ RQ w 21 us Q ∧ ∀ q ∈ Q, some q.2 ≠ ov.ownBlock
theorem SegJ.nil (w : World) (B1 : Nat) : SegJ w B1 (.slice none 0 0) [] [] := ⟨own_nil1 _ _ _, RQ.nil _ _, fun q hq => by cases hq⟩
theorem SegJ.old {w w' : World} {B1 : Nat} {ov : Value} {us : List Value} {Q : List (List Int × Nat)} (h : SegJ w B1 ov us Q) (o : Old w w') : SegJ w' B1 ov us Q := ⟨own_old h.1 o, h.2.1.old o, h.2.2⟩
theorem SegJ.snoc {w w1 w2 : World} {B1 b c : Nat} {ov u : Value} {us : List Value} {Q : List (List Int × Nat)} {q : List Int × Nat} (h : SegJ w B1 ov us Q) (o1 : Old w w1) (rc : RC w1 21 u q.1 q.2) (hne : some q.2 ≠ ov.ownBlock)
    (own : w2.ownsRow B1 58 1 (.slice (some ⟨b, 0, none⟩) (Q.length + 1) c) (Q.length + 1) (us ++ [u])) (gr : w1.grownBy w2 ov.ownBlock) (hat : ov.ownBlock = some b ∨ w1.heap.size ≤ b) : SegJ w2 B1 (.slice (some ⟨b, 0, none⟩) (Q.length + 1) c) (us ++ [u]) (Q ++ [q]) := by
  have hlt := rc.lt
  obtain ⟨h1, h2, h4⟩ := h
  have h2' := h2.old o1
  refine ⟨by simpa using own, RQ.snoc (h2'.keep fun p hp => ?_) (rc.keep (gr.block _ hlt hne)), fun p hp => ?_⟩
  · obtain ⟨j, hj, rfl⟩ := List.getElem_of_mem hp
    exact gr.block _ (h2'.2 j hj).lt (h4 _ (List.getElem_mem hj))
  · have key : p.2 < w1.heap.size ∧ some p.2 ≠ ov.ownBlock := by
      rcases List.mem_append.1 hp with hp | hp
      · obtain ⟨j, hj, rfl⟩ := List.getElem_of_mem hp
        exact ⟨(h2'.2 j hj).lt, h4 _ (List.getElem_mem hj)⟩
      · simp at hp; subst hp; exact ⟨hlt, hne⟩
    intro e
    have e' : p.2 = b := by simpa [Value.ownBlock] using e
    rcases hat with h | h
    · rw [← e'] at h; exact key.2 h.symm
    · omega
/-- u is a completer of the name c. -/
def KidOk (w : World) (u : Value) (c : List Int) : Prop := ∃ p ns fv kv b, u = .iface 71 (.pointer (some ⟨p, 0, none⟩)) ∧ w.heap[p]? = some (.cells #[ns, .bool false, fv, kv] 128) ∧ RC w 21 ns c b
theorem KidOk.old {w w' : World} {u : Value} {c : List Int} (h : KidOk w u c) (o : Old w w') : KidOk w' u c := by
  obtain ⟨p, ns, fv, kv, b, rfl, h1, h2⟩ := h
  exact ⟨p, ns, fv, kv, b, rfl, (o.heap (Array.getElem?_eq_some_iff.1 h1).1).trans h1, h2.old o⟩
def Kids (w : World) (kv : Value) (C : List (List Int × Value)) : Prop := RowI w kv C.length (fun j u => ∃ h : j < C.length, u = C[j].2 ∧ KidOk w u C[j].1)
theorem Kids.old {w w' : World} {kv : Value} {C : List (List Int × Value)} (h : Kids w kv C) (o : Old w w') : Kids w' kv C := by
  obtain ⟨ad, c, rfl, h⟩ := h
  refine ⟨ad, c, rfl, fun j hj => ?_⟩
  obtain ⟨b, of, u, e, hb, hc, hk, hu, ho⟩ := h j hj
  exact ⟨b, of, u, e, Nat.lt_of_lt_of_le hb o.size, (o.cell hb).trans hc, hk, hu, ho.old o⟩
/-- What one child does to the texts, how many signs are taken, who goes on, and whether. -/
def dstep (ln : List Int) (st : List (List Int) × Nat × Value × Bool) (c : List Int × Value) : List (List Int) × Nat × Value × Bool :=
  if c.1.length ≤ ln.length then
    if preB ln c.1 then (st.1 ++ [if ln.length = c.1.length then [32] else c.1], c.1.length, c.2, true) else st
  else if preB c.1 ln then (st.1 ++ [c.1.drop ln.length], ln.length, c.2, st.2.2.2) else st
def dfold (ln : List Int) (C : List (List Int × Value)) : List (List Int) × Nat × Value × Bool := C.foldl (dstep ln) ([], 0, Value.nilIface, false)
theorem dfold_succ (ln : List Int) {C : List (List Int × Value)} {k : Nat} (h : k < C.length) : dfold ln (C.take (k + 1)) = dstep ln (dfold ln (C.take k)) C[k] := by
  unfold dfold; rw [List.take_succ_eq_append_getElem h, List.foldl_append]; rfl
theorem nil_gc (p : Nat) (w : World) : (nilAhead 327 71 (.pointer (some ⟨p, 0, none⟩)) "GetChildren").run Tryd.prog w = .ok (some false) w := by kernel_rfl
theorem meth_gc (p : Nat) (w : World) : (method 327 71 (.pointer (some ⟨p, 0, none⟩)) "GetChildren").run Tryd.prog w = .ok (170, .pointer (some ⟨p, 0, none⟩)) w := by kernel_rfl
theorem nil_gn (p : Nat) (w : World) : (nilAhead 327 71 (.pointer (some ⟨p, 0, none⟩)) "GetName").run Tryd.prog w = .ok (some false) w := by kernel_rfl
theorem meth_gn (p : Nat) (w : World) : (method 327 71 (.pointer (some ⟨p, 0, none⟩)) "GetName").run Tryd.prog w = .ok (172, .pointer (some ⟨p, 0, none⟩)) w := by kernel_rfl
theorem nil_isd (p : Nat) (w : World) : (nilAhead 327 71 (.pointer (some ⟨p, 0, none⟩)) "IsDynamic").run Tryd.prog w = .ok (some false) w := by kernel_rfl
theorem meth_isd (p : Nat) (w : World) : (method 327 71 (.pointer (some ⟨p, 0, none⟩)) "IsDynamic").run Tryd.prog w = .ok (173, .pointer (some ⟨p, 0, none⟩)) w := by kernel_rfl
def pick2 {α : Type} (m : Nat) (a b : α) : α := if m = 0 then a else b
theorem pick2_zero {α : Type} (a b : α) : pick2 0 a b = a := rfl
theorem pick2_one {α : Type} (a b : α) : pick2 1 a b = b := rfl
theorem rc_one (w : World) (T : TypeId) (h : T = 21) : RC (w.alloc (.cells #[.int .i32 32] T)) 21 (.slice (some ⟨w.heap.size, 0, none⟩) 1 1) [32] w.heap.size := by
  subst h
  exact ⟨0, 1, #[.int .i32 32], rfl, heap_alloc_new w _, by simp, by simp, by unfold maxLen; omega, fun j hj => by
    have : j = 0 := by simpa using hj
    subst this; rfl⟩
theorem add_box (w : World) (O : Obj) (v : Value) (T : TypeId) : ∀ (j : Nat) u, [v][j]? = some u → ((w.alloc O).alloc (.cells #[v] T)).cell? ((⟨w.heap.size + 1, 0, none⟩ : Addr).add j) = some u := fun j u hu => by
  have hj : j < [v].length := (List.getElem?_eq_some_iff.1 hu).1
  have hj0 : j = 0 := by simpa using hj
  subst hj0
  have hadd : (⟨w.heap.size + 1, 0, none⟩ : Addr).add 0 = ⟨w.heap.size + 1, 0, none⟩ := by unfold Addr.add; split <;> simp_all
  have e : (w.alloc O).heap.size = w.heap.size + 1 := by simp
  rw [hadd, ← e]
  exact ((bcell4 (heap_alloc_new (w.alloc O) _) 0).trans rfl).trans hu
theorem own_at7 {v : Value} {W : World} {b n c : Nat} (h : (Value.slice (some ⟨b, 0, none⟩) n c).ownBlock = v.ownBlock ∨ (Value.slice (some ⟨b, 0, none⟩) n c).ownBlock = some W.heap.size) : v.ownBlock = some b ∨ W.heap.size ≤ b := by
  rcases h with h | h
  · left; exact h.symm
  · right
    have : b = W.heap.size := by simpa [Value.ownBlock] using h
    omega
theorem drop_cells {w : World} {b o : Nat} {l : List Int} {t : Nat} (h : ∀ j, j < l.length → w.cell? ⟨b, o + j, none⟩ = some (.int .i32 (gi l j))) : ∀ (j : Nat) u, ((l.drop t).map (Value.int .i32))[j]? = some u → w.cell? ((⟨b, o + t, none⟩ : Addr).add j) = some u := fun j u hu => by
  have hj : j < (l.drop t).length := by have := (List.getElem?_eq_some_iff.1 hu).1; simpa using this
  have hadd : (⟨b, o + t, none⟩ : Addr).add j = ⟨b, o + (t + j), none⟩ := by unfold Addr.add; split <;> simp_all [Nat.add_assoc]
  rw [List.length_drop] at hj
  rw [hadd, h (t + j) (by omega)]
  rw [List.getElem?_map, List.getElem?_eq_getElem (by rw [List.length_drop]; omega)] at hu
  simp at hu
  rw [← hu, gi_lt (by omega)]
theorem ta_dyn (p : Nat) (w : World) : (Instr.typeAssert (.iface 71 (.pointer (some ⟨p, 0, none⟩))) 130 134 true).run Tryd.prog w = .ok (.tuple #[.iface 71 (.pointer (some ⟨p, 0, none⟩)), .bool true]) w := by kernel_rfl
theorem SegJ.slice {w : World} {B1 : Nat} {ov : Value} {us : List Value} {Q : List (List Int × Nat)} (h : SegJ w B1 ov us Q) : ∃ ad c, ov = .slice ad Q.length c := by
  rcases h.1.2 with ⟨rfl, h0⟩ | ⟨g, cap, cur, rfl, _⟩
  · exact ⟨Option.none, 0, by rw [h0]⟩
  · exact ⟨_, _, rfl⟩
def DPost (R : Value → Nat → World → Prop) (e : Ending) (w' : World) : Prop := ∃ ov off, e = .returned (.tuple #[ov, .int .i64 ((off : Nat) : Int)]) ∧ R ov off w'
set_option maxHeartbeats 1000000 in
theorem doi_any (p d0 : Nat) (lv orig kv : Value) (C : List (List Int × Value)) (ln : List Int) (w : World) (R : Value → Nat → World → Prop) (hp : w.cell? ⟨p, 3, none⟩ = some kv) (hk : Kids w kv C) (hl : RunesAt w lv ln) (h0 : lead ln = 0) (ha : ∀ j, j < ln.length → 0 ≤ gi ln j ∧ gi ln j < 128)
    (hC : C.length ≤ 100) (hln : ln.length ≤ 1000) (hCn : ∀ c ∈ C, c.1.length ≤ 1000)
    (hend : ((dfold ln C).1.length ≠ 1 ∨ ((dfold ln C).1.length = 1 ∧ (dfold ln C).2.1 = ln.length ∧ (dfold ln C).2.2.2 = false)) ∧ (∀ ov us Q B w', Old w w' → w.heap.size ≤ B → SegJ w' B ov us Q → Q.map Prod.fst = (dfold ln C).1 → R ov (dfold ln C).2.1 w') ∨
      (dfold ln C).1.length = 1 ∧ (dfold ln C).2.1 < ln.length ∧ gi ln (dfold ln C).2.1 ≠ 32 ∧ ∀ tv w', Old w w' → RunesAt w' tv (ln.drop (dfold ln C).2.1) → Calls Tryd.prog 57 #[(dfold ln C).2.2.1, tv, .int .i64 ((ln.drop (dfold ln C).2.1).length : Nat), orig] w' (DPost R)) :
    Calls Tryd.prog 57 #[.iface 71 (.pointer (some ⟨p, 0, none⟩)), lv, .int .i64 ln.length, orig] w (DPost R) := by
  have hn1 := nil_gc
  have hm1 := meth_gc
  have hn2 := nil_gn
  have hm2 := meth_gn
  have hn3 := nil_isd
  have hm3 := meth_isd
  have hta := ta_dyn
  have HK := Lib.hid hk
  have HL := Lib.hid hl
  have HA := Lib.hid ha
  have HCN := Lib.hid hCn
  have HE := Lib.hid hend
  have H0 := Lib.hid h0
  have hpl := World.block_lt_of_cell? w _ hp
  obtain ⟨kad, kc, rfl, -⟩ := hk
  obtain ⟨lb, lo, lc, rfl, l1, l2, l3, -⟩ := hl
  unfold maxLen at l2
  have i0 : (ln.length : Int) ≤ lc := by omega
  clear ha hCn hend h0
  go_enter Tryd.func57, Tryd.ntmps57
  go_wp2_with fail
  go_still_tail 4, (by kernel_rfl)
  change wpList _ _ _ _ _ w.drew
  have OD : Hid (Old w w.drew) := Old.drew w
  have HPD : Hid (w.drew.cell? ⟨p, 3, none⟩ = some (.slice kad C.length kc)) := hp
  have HLD := Lib.hid (HL.out.later (Old.drew w))
  generalize w.drew = wd at OD HPD HLD ⊢
  clear hp
  go_upto_region 4 with (go_at_call 85; refine (trim_any _ ln wd HLD.out HA.out).mono ?_; rw [H0.out, List.drop_zero]; rintro e w1 ⟨r1, rfl, o1, s1⟩; have O1 := Lib.hid (OD.out.trans o1); have S1 := Lib.hid s1; have hp := (o1.cell (o := 3) (World.block_lt_of_cell? wd _ HPD.out)).trans HPD.out; obtain ⟨b1, oo1, c1, rfl, -⟩ := s1; clear o1)
  go_upto_region 5 with (go_at_call 170; refine (gc_any p _ _ hp).mono ?_; rintro e w1 ⟨rfl, rfl⟩)
  clear hp
  go_wp2_with fail
  go_loopw [8, 9, 10, 11, 29] (fun ov fv gv lv iv wr => ∃ k us Q, k ≤ C.length ∧ iv = .int .i64 ((k : Nat) : Int) ∧ SegJ wr w1.heap.size ov us Q ∧ Q.map Prod.fst = (dfold ln (C.take k)).1 ∧ fv = .int .i64 (((dfold ln (C.take k)).2.1 : Nat) : Int) ∧ lv = (dfold ln (C.take k)).2.2.1 ∧ gv = .bool (dfold ln (C.take k)).2.2.2 ∧ Old w1 wr ∧ Q.length ≤ k) (fun _ _ _ _ iv _ => C.length - (intOf iv).toNat)
  case atStart => exact ⟨0, [], [], Nat.zero_le _, rfl, SegJ.nil _ _, rfl, rfl, rfl, rfl, Old.refl _, Nat.le_refl _⟩
  case round =>
    obtain ⟨k, us, Q, hk, rfl, hs, hq, rfl, rfl, rfl, hold, hql⟩ := hrel
    have SS := Lib.hid hs
    have HQ := Lib.hid hq
    have OO := Lib.hid hold
    clear hs hq hold
    by_cases hkn : k < C.length
    · obtain ⟨kb, ko, u, rfl, hkb, kc0, _, rfl, p2, ns, fv, kv2, nb, hu, hh0, rc0⟩ := HK.out.at_ hkn
      have OWW := Lib.hid (O1.out.trans OO.out)
      have kc1 := (OWW.out.cell (o := ko + k) hkb).trans kc0
      have hh2 := (OWW.out.heap (Array.getElem?_eq_some_iff.1 hh0).1).trans hh0
      have hnb := Nat.lt_of_lt_of_le rc0.lt O1.out.size
      have rc2 := rc0.old OWW.out
      clear kc0 hh0 rc0
      have hcl := HCN.out _ (List.getElem_mem hkn)
      have DS := Lib.hid (dfold_succ ln hkn)
      obtain ⟨st, hst⟩ : ∃ st, st = dfold ln (C.take k) := ⟨_, rfl⟩
      obtain ⟨c, hc⟩ : ∃ c, c = C[k] := ⟨_, rfl⟩
      rw [← hst] at DS HQ ⊢
      rw [← hc] at hcl DS hu rc2 kc1
      rw [hu] at kc1
      obtain ⟨t1, t2, t3, t4⟩ := st
      obtain ⟨cn, cv⟩ := c
      simp only at hu hcl rc2 HQ ⊢
      subst hu
      have HH2 := Lib.hid hh2
      have RC2 := Lib.hid rc2
      obtain ⟨o2, c2, cur2, rfl, -, -, y3, y4, -⟩ := rc2
      unfold maxLen at y4
      clear hst hc hh2
      obtain ⟨i0, hi0, hz0, hz1, hz2⟩ := info_parts1 info_rs
      go_upto_region 12 with (first
        | (at_make; refine wpList_make_full _ rfl _ _ 59 rfl wr.heap.size 58 i0 (.slice none 0 0) 1 Tryd.underlying59 hi0 hz0 hz1 _ _ _ _ 1 rfl rfl rfl rfl (by rw [hz2]; omega) (by unfold maxLen; omega) (Nat.le_refl _) ?_; intro w3 own3 gr3; have OW3 := Lib.hid own3; have o3 : Old wr w3 := (Old.refl wr).grown gr3 (by simp); have O3 := Lib.hid o3; have e0 := (bcell4 ((o3.heap (Array.getElem?_eq_some_iff.1 HH2.out).1).trans HH2.out) 0).trans rfl; have e1 := (bcell4 ((o3.heap (Array.getElem?_eq_some_iff.1 HH2.out).1).trans HH2.out) 1).trans rfl; have eg := own_cell own3 0 (by omega); have fg := own_open own3 0; clear own3 gr3 o3)
        | (go_at_call 173; refine (isd_any p2 _ e1).mono ?_; rintro e w4 ⟨rfl, rfl⟩)
        | (go_at_call 172; refine (gn_any p2 _ _ e0).mono ?_; rintro e w4 ⟨rfl, rfl⟩))
      have cg := World.cell?_setCell_same' w4 ⟨wr.heap.size, 0, none⟩ (.slice (some ⟨nb, o2, none⟩) cn.length c2) (by rw [eg]; rfl)
      have o5 := O3.out.stored (p := ⟨wr.heap.size, 0, none⟩) (Nat.le_refl _) (.slice (some ⟨nb, o2, none⟩) cn.length c2)
      have hgl : wr.heap.size < (w4.setCell ⟨wr.heap.size, 0, none⟩ (.slice (some ⟨nb, o2, none⟩) cn.length c2)).heap.size := World.block_lt_of_cell? _ _ cg
      obtain ⟨w5, hw5⟩ : ∃ x, x = w4.setCell ⟨wr.heap.size, 0, none⟩ (.slice (some ⟨nb, o2, none⟩) cn.length c2) := ⟨_, rfl⟩
      rw [← hw5] at cg o5 hgl ⊢
      have O5 := Lib.hid o5
      have S5 := Lib.hid (SS.out.old o5)
      clear o5 hw5 eg fg e0 e1 OW3 O3
      obtain ⟨g, hg⟩ : ∃ g, g = wr.heap.size := ⟨_, rfl⟩
      rw [← hg] at cg hgl ⊢
      have CG := Lib.hid cg
      clear hg cg
      obtain ⟨wo, rfl⟩ : ∃ wo : World, wo = wr := ⟨_, rfl⟩
      obtain ⟨ST, hST⟩ : ∃ ST, ST = dstep ln (t1, t2, t3, t4) (cn, .iface 71 (.pointer (some ⟨p2, 0, none⟩))) := ⟨_, rfl⟩
      rw [← hST] at DS
      have HST := Lib.hid hST
      clear hST
      have hszw := OO.out.size
      go_wp2_with fail
      go_loopw [8, 9, 10, 11, 53] (fun ov fv gv lv iv wi => ∃ m us Q, m ≤ 1 ∧ iv = .int .i64 ((m : Nat) : Int) ∧ SegJ wi w1.heap.size ov us Q ∧ Q.map Prod.fst = (pick2 m (t1, t2, t3, t4) ST).1 ∧ fv = .int .i64 (((pick2 m (t1, t2, t3, t4) ST).2.1 : Nat) : Int) ∧ lv = (pick2 m (t1, t2, t3, t4) ST).2.2.1 ∧ gv = .bool (pick2 m (t1, t2, t3, t4) ST).2.2.2 ∧ Old w1 wi ∧ Q.length ≤ k + m ∧ (m = 0 → wi = w5)) (fun _ _ _ _ iv _ => 1 - (intOf iv).toNat)
      case atStart => exact ⟨0, us, Q, Nat.zero_le _, rfl, S5.out, HQ.out, rfl, rfl, rfl, OO.out.trans O5.out, hql, fun _ => rfl⟩
      case round =>
        clear S5 SS HQ hql
        obtain ⟨m, us, Q, hm, rfl, hs, hq, rfl, rfl, rfl, hold, hql, hw5⟩ := hrel
        by_cases hm0 : m = 0
        · subst hm0
          obtain rfl := hw5 rfl
          rw [pick2_zero] at hq ⊢
          have S5 := Lib.hid hs
          have HQ := Lib.hid hq
          have cg := CG.out
          clear hs hq hold hw5 hm
          simp only at HQ ⊢
          by_cases hle : cn.length ≤ ln.length
          · have g0 : decide ((ln.length : Int) ≥ (cn.length : Int)) = true := by simp; omega
            have g1 : decide (cn.length ≤ ln.length) = true := by simp; omega
            cases hpb : preB ln cn with
            | true =>
              have PB := Lib.hid hpb
              by_cases heq : ln.length = cn.length
              · have q0 : ((ln.length : Int) == (cn.length : Int)) = true := by rw [heq]; simp
                have q1 : (ln.length == cn.length) = true := by rw [heq]; simp
                have DV : Hid (ST = (t1 ++ [[32]], cn.length, .iface 71 (.pointer (some ⟨p2, 0, none⟩)), true)) := by unfold Hid; rw [HST.out]; unfold dstep; simp [hle, hpb, heq]
                clear hpb heq
                go_wp2_with (first
                  | (go_at_call 84; refine (pre_any _ _ ln cn _ (S1.out.later (OO.out.trans O5.out)) (RC2.out.old O5.out).runes (by omega) (by omega)).mono ?_; rw [PB.out]; rintro e w6 ⟨rfl, o6⟩; have O6 := Lib.hid o6; have S6 := Lib.hid (S5.out.old o6); clear o6)
                  | (at_builtin; refine wpList_append_own_at ((w6.alloc (.cells #[.int .i32 32] 21)).alloc (.cells #[.slice (some ⟨w6.heap.size, 0, none⟩) 1 1] 58)) rfl (Operand.tmp 71) (Operand.tmp 73) 59 rfl w1.heap.size 58 i0 (.slice none 0 0) 1 24 Tryd.underlying59 hi0 hz0 hz1 hz2 rfl (by decide) u8 Q.length us rfl (own_old S6.out.1 ((Old.alloc w6 _).then_alloc _)) ⟨w6.heap.size + 1, 0, none⟩ 1 1 [.slice (some ⟨w6.heap.size, 0, none⟩) 1 1] rfl rfl (add_box w6 _ _ _) (by intro z hz; simp at hz; subst hz; rfl) (by unfold maxLen; omega) (by omega) (by have h1 := O6.out.size; have h2 := O5.out.size; simp; omega) ?_; intro v7 w7 own7 gr7 _ at7; obtain ⟨b7, cc7, hv7⟩ := own_some own7 (by omega); subst hv7; have S7 : Hid (SegJ w7 w1.heap.size (.slice (some ⟨b7, 0, none⟩) (Q.length + 1) cc7) (us ++ [.slice (some ⟨w6.heap.size, 0, none⟩) 1 1]) (Q ++ [([32], w6.heap.size)])) := S6.out.snoc ((Old.alloc w6 _).then_alloc _) ((rc_one w6 _ rfl).old (Old.alloc _ _)) (own_ne S6.out.1 (Nat.le_refl _)) own7 gr7 (own_at7 at7); have O7 := Lib.hid (Old.own (a := w1) ((OO.out.trans (O5.out.trans O6.out)).trans ((Old.alloc w6 _).then_alloc _)) (Nat.le_refl _) (own_old S6.out.1 ((Old.alloc w6 _).then_alloc _)) gr7); clear own7 gr7 at7))
                go_roundw
                case rel => exact ⟨1, _, _, Nat.le_refl _, by go_num, S7.out, by rw [pick2_one, DV.out, List.map_append, HQ.out]; rfl, by rw [pick2_one, DV.out], by rw [pick2_one, DV.out], by rw [pick2_one, DV.out], O7.out, by simp; omega, fun h => absurd h (by omega)⟩
                case measure => simp [intOf]
              · have q0 : ((ln.length : Int) == (cn.length : Int)) = false := by rw [beq_eq_false_iff_ne]; omega
                have q1 : (ln.length == cn.length) = false := by rw [beq_eq_false_iff_ne]; omega
                have DV : Hid (ST = (t1 ++ [cn], cn.length, .iface 71 (.pointer (some ⟨p2, 0, none⟩)), true)) := by unfold Hid; rw [HST.out]; unfold dstep; simp [hle, hpb, heq]
                clear hpb heq
                go_wp2_with (first
                  | (go_at_call 84; refine (pre_any _ _ ln cn _ (S1.out.later (OO.out.trans O5.out)) (RC2.out.old O5.out).runes (by omega) (by omega)).mono ?_; rw [PB.out]; rintro e w6 ⟨rfl, o6⟩; have O6 := Lib.hid o6; have S6 := Lib.hid (S5.out.old o6); clear o6)
                  | (at_builtin; refine wpList_append_new rfl (Operand.tmp 75) (Operand.tmp 77) 59 58 _ (.slice none 0 0) 1 24 rfl Tryd.underlying59 info_rs rfl (by decide) w1.heap.size u8 Q.length us rfl (own_old S6.out.1 (Old.refl _)) 1 #[.slice (some ⟨nb, o2, none⟩) cn.length c2] rfl (by decide) rfl (by intro z hz; simp at hz; subst hz; rfl) (by omega) (by omega) (by have h1 := O6.out.size; have h2 := O5.out.size; simp; omega) ?_; intro v7 w7 own7 gr7 at7; obtain ⟨b7, cc7, rfl, at7⟩ := at7; have S7 : Hid (SegJ w7 w1.heap.size (.slice (some ⟨b7, 0, none⟩) (Q.length + 1) cc7) (us ++ [.slice (some ⟨nb, o2, none⟩) cn.length c2]) (Q ++ [(cn, nb)])) := S6.out.snoc (Old.refl _) (RC2.out.old (O5.out.trans O6.out)) (fun e => by have := (own_inside S6.out.1 nb e.symm).1; omega) own7 gr7 at7; have O7 := Lib.hid (Old.own (a := w1) ((OO.out.trans (O5.out.trans O6.out)).trans (Old.refl _)) (Nat.le_refl _) (own_old S6.out.1 (Old.refl _)) gr7); clear own7 gr7 at7))
                go_roundw
                case rel => exact ⟨1, _, _, Nat.le_refl _, by go_num, S7.out, by rw [pick2_one, DV.out, List.map_append, HQ.out]; rfl, by rw [pick2_one, DV.out], by rw [pick2_one, DV.out], by rw [pick2_one, DV.out], O7.out, by simp; omega, fun h => absurd h (by omega)⟩
                case measure => simp [intOf]
            | false =>
              have PB := Lib.hid hpb
              have DV : Hid (ST = (t1, t2, t3, t4)) := by unfold Hid; rw [HST.out]; unfold dstep; simp [hle, hpb]
              clear hpb
              go_wp2_with (go_at_call 84; refine (pre_any _ _ ln cn _ (S1.out.later (OO.out.trans O5.out)) (RC2.out.old O5.out).runes (by omega) (by omega)).mono ?_; rw [PB.out]; rintro e w6 ⟨rfl, o6⟩; have O6 := Lib.hid o6; have S6 := Lib.hid (S5.out.old o6); clear o6)
              go_roundw
              case rel => exact ⟨1, us, Q, Nat.le_refl _, by go_num, S6.out, by rw [pick2_one, DV.out]; exact HQ.out, by rw [pick2_one, DV.out], by rw [pick2_one, DV.out], by rw [pick2_one, DV.out], (OO.out.trans (O5.out.trans O6.out)), by omega, fun h => absurd h (by omega)⟩
              case measure => simp [intOf]
          · have g0 : decide ((ln.length : Int) ≥ (cn.length : Int)) = false := by simp; omega
            have g1 : decide (cn.length ≤ ln.length) = false := by simp; omega
            cases hpb : preB cn ln with
            | true =>
              have PB := Lib.hid hpb
              have hne : ¬ c2 = ln.length := by omega
              have DV : Hid (ST = (t1 ++ [cn.drop ln.length], ln.length, .iface 71 (.pointer (some ⟨p2, 0, none⟩)), t4)) := by unfold Hid; rw [HST.out]; unfold dstep; simp [hle, hpb]
              clear hpb
              go_wp2_with (first
                | (go_at_call 84; refine (pre_any _ _ cn ln _ (RC2.out.old O5.out).runes (S1.out.later (OO.out.trans O5.out)) (by omega) (by omega)).mono ?_; rw [PB.out]; rintro e w6 ⟨rfl, o6⟩; have O6 := Lib.hid o6; have S6 := Lib.hid (S5.out.old o6); clear o6)
                | (at_builtin; refine wpList_append_new rfl (Operand.tmp 86) (Operand.tmp 91) 59 58 _ (.slice none 0 0) 1 24 rfl Tryd.underlying59 info_rs rfl (by decide) w1.heap.size u8 Q.length us rfl (own_old S6.out.1 (Old.refl _)) 1 #[.slice (some ⟨nb, o2 + ln.length, none⟩) (cn.length - ln.length) (c2 - ln.length)] rfl (by decide) rfl (by intro z hz; simp at hz; subst hz; rfl) (by omega) (by omega) (by have h1 := O6.out.size; have h2 := O5.out.size; simp; omega) ?_; intro v7 w7 own7 gr7 at7; obtain ⟨b7, cc7, rfl, at7⟩ := at7; have S7 : Hid (SegJ w7 w1.heap.size (.slice (some ⟨b7, 0, none⟩) (Q.length + 1) cc7) (us ++ [.slice (some ⟨nb, o2 + ln.length, none⟩) (cn.length - ln.length) (c2 - ln.length)]) (Q ++ [(cn.drop ln.length, nb)])) := S6.out.snoc (Old.refl _) ((RC2.out.old (O5.out.trans O6.out)).drop (by omega) (by omega)) (fun e => by have := (own_inside S6.out.1 nb e.symm).1; omega) own7 gr7 at7; have O7 := Lib.hid (Old.own (a := w1) ((OO.out.trans (O5.out.trans O6.out)).trans (Old.refl _)) (Nat.le_refl _) (own_old S6.out.1 (Old.refl _)) gr7); clear own7 gr7 at7))
              go_roundw
              case rel => exact ⟨1, _, _, Nat.le_refl _, by go_num, S7.out, by rw [pick2_one, DV.out, List.map_append, HQ.out]; rfl, by rw [pick2_one, DV.out], by rw [pick2_one, DV.out], by rw [pick2_one, DV.out], O7.out, by simp; omega, fun h => absurd h (by omega)⟩
              case measure => simp [intOf]
            | false =>
              have PB := Lib.hid hpb
              have DV : Hid (ST = (t1, t2, t3, t4)) := by unfold Hid; rw [HST.out]; unfold dstep; simp [hle, hpb]
              clear hpb
              go_wp2_with (go_at_call 84; refine (pre_any _ _ cn ln _ (RC2.out.old O5.out).runes (S1.out.later (OO.out.trans O5.out)) (by omega) (by omega)).mono ?_; rw [PB.out]; rintro e w6 ⟨rfl, o6⟩; have O6 := Lib.hid o6; have S6 := Lib.hid (S5.out.old o6); clear o6)
              go_roundw
              case rel => exact ⟨1, us, Q, Nat.le_refl _, by go_num, S6.out, by rw [pick2_one, DV.out]; exact HQ.out, by rw [pick2_one, DV.out], by rw [pick2_one, DV.out], by rw [pick2_one, DV.out], (OO.out.trans (O5.out.trans O6.out)), by omega, fun h => absurd h (by omega)⟩
              case measure => simp [intOf]
        · have hm1 : m = 1 := by omega
          subst hm1
          rw [pick2_one] at hq ⊢
          have SF := Lib.hid hs
          have HQ := Lib.hid hq
          have OF := Lib.hid hold
          clear hs hq hold hw5 hm hm0
          go_wp2_with fail
          go_roundw
          case rel => exact ⟨k + 1, us, Q, by omega, by go_num, SF.out, by rw [DS.out]; exact HQ.out, by rw [DS.out], by rw [DS.out], by rw [DS.out], OF.out, hql⟩
          case measure => simp [intOf]; omega
    · obtain rfl : k = C.length := by omega
      rw [List.take_length] at HQ ⊢
      generalize dfold ln C = D at HQ HE ⊢
      obtain ⟨t1, t2, t3, t4⟩ := D
      simp only at HQ HE ⊢
      have hQ1 : Q.length = t1.length := by have := congrArg List.length HQ.out; simpa using this
      have OW := Lib.hid (O1.out.trans OO.out)
      have LW := Lib.hid (S1.out.later OO.out)
      obtain ⟨ad8, cc8, rfl⟩ := SS.out.slice
      have HB := Lib.hid O1.out.size
      rcases HE.out with ⟨hc, hR⟩ | ⟨h1, h2, h3, hR⟩
      · have HR := Lib.hid hR
        clear hR
        rcases hc with hne | ⟨he, ho, hg⟩
        · have q1 : ((Q.length : Int) != 1) = true := by simp; omega
          have q2 : ((Q.length : Int) == 1) = false := by simp; omega
          clear hne hQ1
          go_wp2_with fail
          go_ret2
          exact ⟨_, t2, rfl, HR.out _ us Q _ _ OW.out HB.out SS.out HQ.out⟩
        · have q1 : ((Q.length : Int) != 1) = false := by simp; omega
          have q2 : ((Q.length : Int) == 1) = true := by simp; omega
          subst hg
          have HO := Lib.hid ho
          clear he hQ1 ho
          obtain ⟨i0, hi0, hz0, hz1, hz2⟩ := info_parts1 info_r
          obtain ⟨g9, hg9⟩ : ∃ g, g = wr.heap.size := ⟨_, rfl⟩
          have HG9 := Lib.hid hg9
          clear hg9
          go_wp2_with (at_make; refine wpList_make_own _ rfl _ _ 58 rfl wr.heap.size 21 i0 (.int .i32 0) 1 Tryd.underlying58 hi0 hz0 hz1 _ _ _ ln.length rfl rfl rfl (by rw [hz2]; omega) (by unfold maxLen; omega) (Nat.le_refl _) ?_; intro w5 own5 gr5; have OW5 := Lib.hid own5; have o5 : Old wr w5 := (Old.refl wr).grown gr5 (by simp); have O5 := Lib.hid o5; clear own5 gr5 o5)
          rw [← HG9.out] at OW5 ⊢
          go_loopw [8, 9, 19, 20] (fun ov fv tv iv wi => ov = .slice ad8 Q.length cc8 ∧ fv = .int .i64 (t2 : Int) ∧ tv = .slice (some ⟨g9, 0, none⟩) 0 ln.length ∧ iv = .int .i64 (t2 : Int) ∧ wi = w5) (fun _ _ _ iv _ => 0)
          case atStart => exact ⟨rfl, rfl, rfl, rfl, rfl⟩
          case round =>
            obtain ⟨rfl, rfl, rfl, rfl, rfl⟩ := hrel
            have e2 : ¬ t2 < ln.length := by have := HO.out; omega
            go_wp2_with fail
            go_ret2
            exact ⟨_, t2, rfl, HR.out _ us Q _ _ (OW.out.trans O5.out) HB.out (SS.out.old O5.out) HQ.out⟩
      · have q1 : ((Q.length : Int) != 1) = false := by simp; omega
        have q2 : ((Q.length : Int) == 1) = true := by simp; omega
        have HR := Lib.hid hR
        have c32 : (gi ln t2 == 32) = false := by rw [beq_eq_false_iff_ne]; exact h3
        clear hR hQ1 h1 h3
        obtain ⟨i0, hi0, hz0, hz1, hz2⟩ := info_parts1 info_r
        obtain ⟨g9, hg9⟩ : ∃ g, g = wr.heap.size := ⟨_, rfl⟩
        have HG9 := Lib.hid hg9
        clear hg9
        go_wp2_with (at_make; refine wpList_make_own _ rfl _ _ 58 rfl wr.heap.size 21 i0 (.int .i32 0) 1 Tryd.underlying58 hi0 hz0 hz1 _ _ _ ln.length rfl rfl rfl (by rw [hz2]; omega) (by unfold maxLen; omega) (Nat.le_refl _) ?_; intro w5 own5 gr5; have OW5 := Lib.hid own5; have o5 : Old wr w5 := (Old.refl wr).grown gr5 (by simp); have O5 := Lib.hid o5; clear own5 gr5 o5)
        rw [← HG9.out] at OW5 ⊢
        go_loopw [8, 9, 19, 20] (fun ov fv tv iv wi => ov = .slice ad8 Q.length cc8 ∧ fv = .int .i64 (t2 : Int) ∧ tv = .slice (some ⟨g9, 0, none⟩) 0 ln.length ∧ iv = .int .i64 (t2 : Int) ∧ wi = w5) (fun _ _ _ iv _ => 0)
        case atStart => exact ⟨rfl, rfl, rfl, rfl, rfl⟩
        case round =>
          obtain ⟨rfl, rfl, rfl, rfl, rfl⟩ := hrel
          obtain ⟨b1', oo1', c1', hv1, y1, y2, y3, y4⟩ := LW.out.later O5.out
          injection hv1 with hv1 hv2 hv3
          injection hv1 with hv1; injection hv1 with hv1 hv4
          subst hv1 hv3 hv4
          have cl := y4 t2 h2
          have Y4 := Lib.hid y4
          unfold maxLen at y2
          have hne : ¬ c1 = t2 := by omega
          clear y4 hv2
          have LD : Hid ((ln.drop t2).length = ln.length - t2) := by unfold Hid; simp
          have HL2 := Lib.hid h2
          go_wp2_with (at_builtin; refine wpList_append_own_at wr rfl (Operand.tmp 116) (Operand.tmp 119) 58 rfl g9 21 i0 (.int .i32 0) 1 4 Tryd.underlying58 hi0 hz0 hz1 hz2 rfl (by decide) _ 0 [] rfl OW5.out ⟨b1, oo1 + t2, none⟩ (ln.length - t2) (c1 - t2) ((ln.drop t2).map (Value.int .i32)) rfl (by rw [List.length_map, LD.out, Nat.mul_one]) (drop_cells Y4.out) (i32_one _) (by unfold maxLen; omega) (by omega) (by have h1 := O5.out.size; have h2 := HG9.out; omega) ?_; intro v7 w7 own7 gr7 _ _; rw [List.nil_append, Nat.zero_add] at own7; obtain ⟨b7, rc7, hb7⟩ := RC.of_own own7 (by have := HL2.out; omega); have o7 : Old w w7 := (OW.out.trans O5.out).grown gr7 (fun q e => by have e' : g9 = q := Option.some.inj e; have h1 := HG9.out; have h2 := OW.out.size; omega); have RT := Lib.hid rc7.runes; have O7 := Lib.hid o7; obtain ⟨o8, c8, cur8, rfl, -⟩ := rc7; clear own7 gr7 o7)
          have CC := HR.out _ w7 O7.out RT.out
          rw [LD.out] at CC
          refine CC.mono ?_
          rintro e w8 ⟨ov8, off8, rfl, hR8⟩
          have HR8 := Lib.hid hR8
          clear CC hR8
          go_wp2_with fail
          go_ret2
          exact ⟨ov8, off8, rfl, HR8.out⟩
end Go.Proofs.YtalkikljjffpmaaDoor
