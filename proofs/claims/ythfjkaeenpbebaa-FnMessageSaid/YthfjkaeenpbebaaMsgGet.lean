/- Contract: impl.MessageRead of the bytes of a message with more behind it. -/
import Derived.Test.YthfjkaeenpbebaaMsgRead
import Derived.Test.YthfjkaeenpbebaaCaught
namespace Go.Proofs.Ythfjkaeenpbebaa
open Go.RowKit
set_option linter.unusedVariables false
set_option linter.unusedSimpArgs false
set_option linter.unnecessarySimpa false
set_option maxRecDepth 100000

theorem results_tmp4 {fn : Func} {t u v x : Tmp} (h : fn.results = #[.tmp t, .tmp u, .tmp v, .tmp x]) (tmps : Array Value) (P : Program) (w : World) :
    (results fn tmps).run P w = .ok (.tuple #[tmps.getD t undef, tmps.getD u undef, tmps.getD v undef, tmps.getD x undef]) w := by
  simp [results, h]
theorem bytes_back_at {P : Program} (w : World) (src dst e : TypeId) (b o cap : Nat) (t : ByteArray) (hs : P.underlying src = some (.slice e)) (he : P.underlying e = some (.int .u8)) (hd : P.underlying dst = some .string)
    (hc : ∀ j, j < t.size → w.cell? ⟨b, o + j, none⟩ = some (.int .u8 (gi (nums t) j))) : (convert src dst (.slice (some ⟨b, o, none⟩) t.size cap)).run P w = .ok (.string t) w := by
  have h := run_convert_bytes_back (P := P) w src dst e ⟨b, o, none⟩ cap t.data.toList hs he hd (fun j hj => by
    have hj' : j < t.size := by simpa using hj
    have := hc j hj'
    rw [gi_nums hj'] at this
    have hadd : (⟨b, o, none⟩ : Addr).add j = ⟨b, o + j, none⟩ := by unfold Addr.add; split <;> simp_all
    rw [hadd, this]
    simp; rfl)
  simpa using h

theorem cell_set_far (w : World) {p q : Nat} (i j : Nat) (v : Value) (h : q ≠ p) : (w.setCell ⟨p, i, none⟩ v).cell? ⟨q, j, none⟩ = w.cell? ⟨q, j, none⟩ := by
  rw [World.cell?_setCell_other]
  exact fun e => h (congrArg Addr.block e).symm

set_option maxHeartbeats 1000000 in
theorem readDoor_any (s p1 p2 p3 n h l k kh kl : Nat) (d r : ByteArray) (W : World) (hs : W.cell? ⟨s, 0, none⟩ = some (.string (hd6 h l kh kl ++ d ++ r)))
    (u1 u2 u3 : Value) (c1 : W.cell? ⟨p1, 0, none⟩ = some u1) (c2 : W.cell? ⟨p2, 0, none⟩ = some u2) (c3 : W.cell? ⟨p3, 0, none⟩ = some u3)
    (f1 : W.frozen? ⟨p1, 0, none⟩ = false) (f2 : W.frozen? ⟨p2, 0, none⟩ = false) (f3 : W.frozen? ⟨p3, 0, none⟩ = false)
    (l1 : p1 < W.heap.size) (l2 : p2 < W.heap.size) (l3 : p3 < W.heap.size) (n1 : p2 ≠ p1) (n2 : p3 ≠ p1) (n3 : p3 ≠ p2)
    (hn : Parted n h l) (hk : Parted k kh kl) (hkh : kh < 128) (hd : n = d.size + 2) (hd1 : d.size ≤ 1000) (hr : r.size ≤ 1000) :
    Calls Try.prog 28 #[.pointer (some ⟨s, 0, none⟩), .pointer (some ⟨p1, 0, none⟩), .pointer (some ⟨p2, 0, none⟩), .pointer (some ⟨p3, 0, none⟩)] W fun e w' => e = .returned (.tuple #[]) ∧
      ∃ w5 m db b o cc, Old W w5 ∧ MsgAt w5 m db d.size k d ∧ W.heap.size ≤ m ∧ W.heap.size ≤ db ∧ W.heap.size ≤ b ∧ (∀ j, j < r.size → w5.cell? ⟨b, o + j, none⟩ = some (.int .u8 (gi (nums r) j))) ∧
        w' = ((w5.setCell ⟨p1, 0, none⟩ (.pointer (some ⟨m, 0, none⟩))).setCell ⟨p2, 0, none⟩ (.slice (some ⟨b, o, none⟩) r.size cc)).setCell ⟨p3, 0, none⟩ .nilIface := by
  have hz : (hd6 h l kh kl ++ d ++ r).size = 6 + d.size + r.size := by rw [ByteArray.size_append, ByteArray.size_append]; rfl
  have HZ := Lib.hid hz
  have N1 := Lib.hid n1
  have N2 := Lib.hid n2
  have N3 := Lib.hid n3
  clear hz n1 n2 n3
  go_enter Try.func28, Try.ntmps28
  go_wp2_with (first
    | (refine wpList_bytes rfl 9 46 5 _ _ rfl rfl Try.underlying9 Try.underlying46 Try.underlying5 (by rw [HZ.out]; omega) ?_; intro c w1 o1 hc1 hc2 hsz hown
       rw [HZ.out] at hc1 hown ⊢
       have O1 := Lib.hid o1; have C1 := Lib.hid hown; have S1 := Lib.hid hsz; have G1 := Lib.hid hc1; have G2 := Lib.hid hc2; clear o1 hown hsz hc1 hc2)
    | (go_at_call 29; refine (readMessage_any W.heap.size c n h l k kh kl d r w1 C1.out (by have := S1.out; omega) G1.out G2.out hn hk hkh hd hd1 hr).mono ?_
       rintro e w5 ⟨m, db, o, cc, rfl, o5, mat, hm, hdb, hrow⟩
       have O5 := Lib.hid (O1.out.trans o5)
       have MA := Lib.hid mat
       have HM := Lib.hid hm
       have HDB := Lib.hid hdb
       have HR := Lib.hid hrow
       have e1 : w5.cell? ⟨p1, 0, none⟩ = some u1 := (O5.out.cell l1).trans c1
       have e2 : (w5.setCell ⟨p1, 0, none⟩ (.pointer (some ⟨m, 0, none⟩))).cell? ⟨p2, 0, none⟩ = some u2 := (cell_set_far w5 0 0 _ N1.out).trans ((O5.out.cell l2).trans c2)
       have e3 : ((w5.setCell ⟨p1, 0, none⟩ (.pointer (some ⟨m, 0, none⟩))).setCell ⟨p2, 0, none⟩ (.slice (some ⟨W.heap.size, o, none⟩) r.size cc)).cell? ⟨p3, 0, none⟩ = some u3 := (cell_set_far _ 0 0 _ N3.out).trans ((cell_set_far w5 0 0 _ N2.out).trans ((O5.out.cell l3).trans c3))
       have v1 : w5.frozen? ⟨p1, 0, none⟩ = false := (O5.out.frozen l1).trans f1
       have v2 : (w5.setCell ⟨p1, 0, none⟩ (.pointer (some ⟨m, 0, none⟩))).frozen? ⟨p2, 0, none⟩ = false := (frozen_setCell _ _ _ _).trans ((O5.out.frozen l2).trans f2)
       have v3 : ((w5.setCell ⟨p1, 0, none⟩ (.pointer (some ⟨m, 0, none⟩))).setCell ⟨p2, 0, none⟩ (.slice (some ⟨W.heap.size, o, none⟩) r.size cc)).frozen? ⟨p3, 0, none⟩ = false := (frozen_setCell _ _ _ _).trans ((frozen_setCell _ _ _ _).trans ((O5.out.frozen l3).trans f3))
       clear o5 mat hm hdb hrow c1 c2 c3 f1 f2 f3))
  (try simp only [Exit.inBlock, Exit.then])
  refine bodyPost_end (results_none rfl _ _ _) rfl ?_
  have hs1 := S1.out
  exact ⟨rfl, w5, m, db, W.heap.size, o, cc, O5.out, MA.out, by have := HM.out; omega, by have := HDB.out; omega, Nat.le_refl _, HR.out, rfl⟩

theorem alloc3 (w : World) (x y z : Obj) : (((w.alloc x).alloc y).alloc z).heap.size = w.heap.size + 3 ∧ (((w.alloc x).alloc y).alloc z).heap[w.heap.size]? = some x ∧
    (((w.alloc x).alloc y).alloc z).heap[w.heap.size + 1]? = some y ∧ (((w.alloc x).alloc y).alloc z).heap[w.heap.size + 2]? = some z := by
  have h1 : (w.alloc x).heap.size = w.heap.size + 1 := by simp
  have h2 : ((w.alloc x).alloc y).heap.size = w.heap.size + 2 := by simp
  refine ⟨by simp, ?_, ?_, ?_⟩
  · rw [heap_alloc_old _ _ (by omega), heap_alloc_old _ _ (by omega)]; exact heap_alloc_new w x
  · rw [heap_alloc_old _ _ (by omega), ← h1]; exact heap_alloc_new _ y
  · rw [← h2]; exact heap_alloc_new _ z
theorem got_any (s p1 p2 p3 n h l k kh kl : Nat) (d r : ByteArray) (w : World) (hs : w.cell? ⟨s, 0, none⟩ = some (.string (hd6 h l kh kl ++ d ++ r))) (hsl : s < w.heap.size)
    (h1 : p1 = w.heap.size) (h2 : p2 = w.heap.size + 1) (h3 : p3 = w.heap.size + 2)
    (hn : Parted n h l) (hk : Parted k kh kl) (hkh : kh < 128) (hd : n = d.size + 2) (hd1 : d.size ≤ 1000) (hr : r.size ≤ 1000) :
    Calls Try.prog 27 #[.func (.func 28) #[] #[.pointer (some ⟨s, 0, none⟩), .pointer (some ⟨p1, 0, none⟩), .pointer (some ⟨p2, 0, none⟩), .pointer (some ⟨p3, 0, none⟩)]]
      (((w.alloc (.cells #[.pointer none] 47)).alloc (.cells #[.slice none 0 0] 46)).alloc (.cells #[.nilIface] 55)) fun e w' => e = .returned (.bool true) ∧ Old w w' ∧
      ∃ m db b o cc, MsgAt w' m db d.size k d ∧ (∀ j, j < r.size → w'.cell? ⟨b, o + j, none⟩ = some (.int .u8 (gi (nums r) j))) ∧
        w'.cell? ⟨p1, 0, none⟩ = some (.pointer (some ⟨m, 0, none⟩)) ∧ w'.cell? ⟨p2, 0, none⟩ = some (.slice (some ⟨b, o, none⟩) r.size cc) ∧ w'.cell? ⟨p3, 0, none⟩ = some .nilIface := by
  subst h1 h2 h3
  generalize hA : ((w.alloc (.cells #[.pointer none] 47)).alloc (.cells #[.slice none 0 0] 46)).alloc (.cells #[.nilIface] 55) = wA
  have oA : Old w wA := by rw [← hA]; exact ((Old.alloc w _).then_alloc _).then_alloc _
  obtain ⟨sA, b1, b2, b3⟩ := alloc3 w (.cells #[.pointer none] 47) (.cells #[.slice none 0 0] 46) (.cells #[.nilIface] 55)
  rw [hA] at sA b1 b2 b3
  have oB : Old wA (wA.alloc (.cells #[.bool false] 4)) := Old.alloc _ _
  have sB : (wA.alloc (.cells #[.bool false] 4)).heap.size = w.heap.size + 4 := by simp [sA]
  have zB : (wA.alloc (.cells #[.bool false] 4)).heap[wA.heap.size]? = some (.cells #[.bool false] 4) := heap_alloc_new wA _
  have cA : ∀ q, q < wA.heap.size → ∀ v t, wA.heap[q]? = some (.cells #[v] t) → (wA.alloc (.cells #[.bool false] 4)).cell? ⟨q, 0, none⟩ = some v ∧ (wA.alloc (.cells #[.bool false] 4)).frozen? ⟨q, 0, none⟩ = false := fun q hq v t hv =>
    ⟨(oB.cell hq).trans ((heap_cell hv 0).trans rfl), (oB.frozen hq).trans (heap_free hv 0)⟩
  have k1 := cA _ (by omega) _ _ b1
  have k2 := cA _ (by omega) _ _ b2
  have k3 := cA _ (by omega) _ _ b3
  have hdoor := readDoor_any s w.heap.size (w.heap.size + 1) (w.heap.size + 2) n h l k kh kl d r (wA.alloc (.cells #[.bool false] 4)) ((oB.cell (by omega)).trans ((oA.cell hsl).trans hs)) _ _ _ k1.1 k2.1 k3.1 k1.2 k2.2 k3.2 (by omega) (by omega) (by omega) (by omega) (by omega) (by omega) hn hk hkh hd hd1 hr
  refine (caught_ok 28 _ wA (fun w' => ∃ w5 m db b o cc, Old (wA.alloc (.cells #[.bool false] 4)) w5 ∧ MsgAt w5 m db d.size k d ∧ (wA.alloc (.cells #[.bool false] 4)).heap.size ≤ m ∧ (wA.alloc (.cells #[.bool false] 4)).heap.size ≤ db ∧ (wA.alloc (.cells #[.bool false] 4)).heap.size ≤ b ∧ (∀ j, j < r.size → w5.cell? ⟨b, o + j, none⟩ = some (.int .u8 (gi (nums r) j))) ∧
        w' = ((w5.setCell ⟨w.heap.size, 0, none⟩ (.pointer (some ⟨m, 0, none⟩))).setCell ⟨w.heap.size + 1, 0, none⟩ (.slice (some ⟨b, o, none⟩) r.size cc)).setCell ⟨w.heap.size + 2, 0, none⟩ .nilIface) (fun _ => rfl) (hdoor.mono ?_)).mono ?_
  · rintro e w1 ⟨rfl, w5, m, db, b, o, cc, o5, mat, hm, hdb, hb, hrow, rfl⟩
    refine ⟨rfl, ?_, w5, m, db, b, o, cc, o5, mat, hm, hdb, hb, hrow, rfl⟩
    rw [Below.heap_setCell _ _ _ _ (by simp; omega), Below.heap_setCell _ _ _ _ (by simp; omega), Below.heap_setCell _ _ _ _ (by simp; omega), o5.heap (by omega)]
    exact zB
  · rintro e w' ⟨rfl, w1, ⟨w5, m, db, b, o, cc, o5, mat, hm, hdb, hb, hrow, rfl⟩, rfl⟩
    obtain ⟨m0, m1, m2, m3⟩ := mat
    rw [sB] at hm hdb hb
    rw [sA]
    have far : ∀ q j, w.heap.size + 4 ≤ q → ((((w5.setCell ⟨w.heap.size, 0, none⟩ (.pointer (some ⟨m, 0, none⟩))).setCell ⟨w.heap.size + 1, 0, none⟩ (.slice (some ⟨b, o, none⟩) r.size cc)).setCell ⟨w.heap.size + 2, 0, none⟩ .nilIface).setCell ⟨w.heap.size + 3, 0, none⟩ (.bool true)).cell? ⟨q, j, none⟩ = w5.cell? ⟨q, j, none⟩ := fun q j hq => by
      rw [cell_set_far _ _ _ _ (by omega), cell_set_far _ _ _ _ (by omega), cell_set_far _ _ _ _ (by omega), cell_set_far _ _ _ _ (by omega)]
    have o5w : Old w w5 := (oA.trans oB).trans o5
    refine ⟨rfl, (((o5w.stored (by simp) _).stored (by simp) _).stored (by simp) _).stored (by simp) _, m, db, b, o, cc, ⟨(far _ _ hm).trans m0, (far _ _ hm).trans m1, fun j hj => ⟨(far _ _ hdb).trans (m2 j hj).1, ?_⟩, ?_⟩, fun j hj => (far _ _ hb).trans (hrow j hj), ?_, ?_, ?_⟩
    · rw [frozen_setCell, frozen_setCell, frozen_setCell, frozen_setCell]; exact (m2 j hj).2
    · simpa [World.setCell] using m3
    · rw [cell_set_far _ _ _ _ (by omega), cell_set_far _ _ _ _ (by omega), cell_set_far _ _ _ _ (by omega)]
      exact World.cell?_setCell_same' w5 _ _ (by rw [o5.cell (by omega), k1.1]; rfl)
    · rw [cell_set_far _ _ _ _ (by omega), cell_set_far _ _ _ _ (by omega)]
      exact World.cell?_setCell_same' _ _ _ (by rw [cell_set_far _ _ _ _ (by omega), o5.cell (by omega), k2.1]; rfl)
    · rw [cell_set_far _ _ _ _ (by omega)]
      exact World.cell?_setCell_same' _ _ _ (by rw [cell_set_far _ _ _ _ (by omega), cell_set_far _ _ _ _ (by omega), o5.cell (by omega), k3.1]; rfl)

theorem ofInt64 (a : Nat) (h : a < 65536) : (BitVec.ofInt 64 (a : Int)).toNat = a := by
  simp [BitVec.toNat_ofInt]
  omega
theorem i64_or_nat (a b : Nat) (ha : a < 65536) (hb : b < 65536) : bits .or .i64 (a : Int) (b : Int) = ((a ||| b : Nat) : Int) := by
  have hx : a ||| b < 2 ^ 16 := Nat.or_lt_two_pow (by omega) (by omega)
  show IntKind.i64.wrap ((BitVec.ofInt 64 (a : Int) ||| BitVec.ofInt 64 (b : Int)).toNat : Int) = _
  rw [BitVec.toNat_or, ofInt64 a ha, ofInt64 b hb]
  exact IntWalk.i64_in _ (by omega)
theorem i64_bytes {h l : Nat} (hh : h < 256) (hl : l < 256) : bits .or .i64 ((h : Int) * 256) (l : Int) = ((h * 256 + l : Nat) : Int) := by
  have := i64_or_nat (h * 256) l (by omega) (by omega)
  rw [or_bytes h l hl] at this
  rw [← this]; congr 1

set_option maxHeartbeats 1000000 in
theorem messageRead_any (n h l k kh kl : Nat) (d r : ByteArray) (w : World) (hn : Parted n h l) (hk : Parted k kh kl) (hkh : kh < 128) (hd : n = d.size + 2) (hd1 : d.size ≤ 1000) (hr : r.size ≤ 1000) :
    Calls Try.prog 15 #[.string (hd6 h l kh kl ++ d ++ r)] w fun e w' => e = .returned (.tuple #[.int .i64 k, .string d, .string r, .bool true]) ∧ Old w w' := by
  have hz : (hd6 h l kh kl ++ d ++ r).size = 6 + d.size + r.size := by rw [ByteArray.size_append, ByteArray.size_append]; rfl
  have hh : h < 256 := by have := hn.1; omega
  have hl := hn.2
  have x0 : (hd6 h l kh kl ++ d ++ r)[0]? = some (0 : UInt8) := by
    rw [getElem?_pos _ 0 (by omega), ByteArray.getElem_append_left (by rw [ByteArray.size_append, size_hd6]; omega), ByteArray.getElem_append_left (by rw [size_hd6]; omega)]; rfl
  have x1 : (hd6 h l kh kl ++ d ++ r)[1]? = some (0 : UInt8) := by
    rw [getElem?_pos _ 1 (by omega), ByteArray.getElem_append_left (by rw [ByteArray.size_append, size_hd6]; omega), ByteArray.getElem_append_left (by rw [size_hd6]; omega)]; rfl
  have x2 : (hd6 h l kh kl ++ d ++ r)[2]? = some (UInt8.ofNat h) := by
    rw [getElem?_pos _ 2 (by omega), ByteArray.getElem_append_left (by rw [ByteArray.size_append, size_hd6]; omega), ByteArray.getElem_append_left (by rw [size_hd6]; omega)]; rfl
  have x3 : (hd6 h l kh kl ++ d ++ r)[3]? = some (UInt8.ofNat l) := by
    rw [getElem?_pos _ 3 (by omega), ByteArray.getElem_append_left (by rw [ByteArray.size_append, size_hd6]; omega), ByteArray.getElem_append_left (by rw [size_hd6]; omega)]; rfl
  have y2 : (UInt8.ofNat h).toNat = h := by rw [UInt8.toNat_ofNat']; exact Nat.mod_eq_of_lt hh
  have y3 : (UInt8.ofNat l).toNat = l := by rw [UInt8.toNat_ofNat']; exact Nat.mod_eq_of_lt hl
  have z1 : decide ((6 : Int) + d.size + r.size ≥ 4) = true := by rw [decide_eq_true_eq]; omega
  have z2 : decide ((d.size : Int) + 2 > 6 + d.size + r.size) = false := by rw [decide_eq_false_iff_not]; omega
  have z3 : bits .or .i64 ((h : Int) * 256) (l : Int) = (d.size : Int) + 2 := by rw [i64_bytes hh hl]; have := hn.1; omega
  generalize ht : hd6 h l kh kl ++ d ++ r = t at hz x0 x1 x2 x3
  have X0 : ∀ h : 0 < t.size, t[0]'h = (0 : UInt8) := fun h => Option.some.inj ((getElem?_pos t 0 h).symm.trans x0)
  have X1 : ∀ h : 1 < t.size, t[1]'h = (0 : UInt8) := fun h => Option.some.inj ((getElem?_pos t 1 h).symm.trans x1)
  have X2 : ∀ q : 2 < t.size, t[2]'q = (UInt8.ofNat h) := fun q => Option.some.inj ((getElem?_pos t 2 q).symm.trans x2)
  have X3 : ∀ h : 3 < t.size, t[3]'h = (UInt8.ofNat l) := fun h => Option.some.inj ((getElem?_pos t 3 h).symm.trans x3)
  clear x0 x1 x2 x3
  have j0 : (0 : Int) < 6 + d.size + r.size := by omega
  have j1 : (1 : Int) < 6 + d.size + r.size := by omega
  have j2 : (2 : Int) < 6 + d.size + r.size := by omega
  have j3 : (3 : Int) < 6 + d.size + r.size := by omega
  have i0 : 0 < 6 + d.size + r.size := by omega
  have i1 : 1 < 6 + d.size + r.size := by omega
  have i2 : 2 < 6 + d.size + r.size := by omega
  have i3 : 3 < 6 + d.size + r.size := by omega
  have HT := Lib.hid ht
  have HN := Lib.hid hn
  have HK := Lib.hid hk
  clear ht hn hk
  go_enter Try.func15, Try.ntmps15
  go_wp2_with fail
  go_quiet (fail)
  have W2 : Hid (((w.alloc (.cells #[.string t] 9)).drewN nq).cell? ⟨w.heap.size, 0, none⟩ = some (.string t)) := (heap_cell (heap_alloc_new w _) 0).trans rfl
  have S2 : Hid (((w.alloc (.cells #[.string t] 9)).drewN nq).heap.size = w.heap.size + 1) := by unfold Hid; simp
  have O2 : Hid (Old w ((w.alloc (.cells #[.string t] 9)).drewN nq)) := (Old.alloc w _).then_drewN nq
  have kr : IntKind.i64.wrap (k : Int) = k := IntWalk.i64_in _ (by have := HK.out.1; have := HK.out.2; omega)
  have KR := Lib.hid kr
  clear kr
  go_wp2_with (go_at_call 27; refine (got_any w.heap.size (w.heap.size + 1) (w.heap.size + 2) (w.heap.size + 3) n h l k kh kl d r _ (by rw [W2.out, HT.out]) (by rw [S2.out]; omega) S2.out.symm (by rw [S2.out]) (by rw [S2.out]) HN.out HK.out hkh hd hd1 hr).mono ?_
               rintro e w9 ⟨rfl, o9, m, db, b, o, cc, mat, hrow, q1, q2, q3⟩
               obtain ⟨m0, m1, m2, m3⟩ := mat
               have q2x := q2
               have d2 := fun n => bytes_back (P := Try.prog) (w9.drewN n) 46 9 5 db d.size d Try.underlying46 Try.underlying5 Try.underlying9 m2
               have d3 := fun n => bytes_back_at (P := Try.prog) (w9.drewN n) 46 9 5 b o cc r Try.underlying46 Try.underlying5 Try.underlying9 hrow
               have kr := KR.out
               have O9 := Lib.hid (O2.out.trans o9)
               clear o9 hrow m2 m3)
  go_quiet (fail)
  go_wp2_with fail
  (try simp only [Exit.inBlock, Exit.then])
  refine bodyPost_ret (results_tmp4 rfl _ _ _) rfl ?_
  exact ⟨rfl, O9.out.then_drewN _⟩
end Go.Proofs.Ythfjkaeenpbebaa
