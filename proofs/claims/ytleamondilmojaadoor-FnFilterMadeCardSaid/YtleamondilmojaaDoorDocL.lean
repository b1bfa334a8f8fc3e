/- A document's lines: zzIndex, zzSplit at line feeds. -/
import Derived.Test.YtleamondilmojaaDoorDocP
namespace Go.Proofs.YtleamondilmojaaDoor
open Go.RowKit
set_option linter.unusedVariables false
set_option linter.unusedSimpArgs false
set_option linter.unnecessarySimpa false
set_option maxRecDepth 100000

theorem one_at {l : Bs} {k : Nat} (h : k < l.length) : (tx l).extract k (k + 1) = tx [l[k]] := by
  rw [extract_eq, bs_tx, Nat.add_sub_cancel_left]
  congr 1
  rw [List.drop_eq_getElem_cons h]; rfl
theorem one_nl (c : UInt8) (h : nl c = true) : tx [c] = ⟨#[10]⟩ := by
  have : c = 10 := by simpa [nl] using h
  subst this; rfl
theorem one_other (c : UInt8) (h : nl c = false) : tx [c] ≠ ⟨#[10]⟩ := by
  intro e
  have : tx [c] = tx [10] := e
  have := tx_inj this
  simp [nl] at h this
  exact h this

theorem toList_bs (s : ByteArray) : s.toList = bs s := ByteArray.toList_eq s
theorem toList10 : (⟨#[10]⟩ : ByteArray).toList = [10] := toList_bs _
theorem toList_ne {a b : ByteArray} (h : a ≠ b) : (a.toList == b.toList) = false := by
  rw [beq_eq_false_iff_ne, toList_bs, toList_bs]
  intro e
  apply h
  rw [← tx_bs a, ← tx_bs b, e]
theorem idx_any (l : Bs) (w : World) (hn : l.length ≤ 1000000) : Calls Tryd.prog 79 #[.string (tx l), .string ⟨#[10]⟩] w fun e w' => e = .returned (.int .i64 (fidx nl l)) ∧ w' = w := by
  have hs : (tx l).size = l.length := tx_size l
  have h1 : (⟨#[10]⟩ : ByteArray).size = 1 := rfl
  go_enter Tryd.func79, Tryd.ntmps79
  go_wp2_with fail
  go_loop [5] (fun i => ∃ k : Nat, k ≤ l.length ∧ i = .int .i64 k ∧ ∀ j (hj : j < l.length), j < k → nl l[j] = false) (fun i => l.length - (intOf i).toNat)
  case atStart => exact ⟨0, Nat.zero_le _, rfl, fun _ _ h => absurd h (by omega)⟩
  case round =>
    obtain ⟨k, hk, rfl, hall⟩ := hrel
    have AL := Lib.hid hall
    clear hall
    by_cases hlt : k < l.length
    · cases hc : nl l[k] with
      | true =>
        have e1 := (one_at hlt).trans (one_nl _ hc)
        have R := Lib.hid (fidx_at hlt AL.out hc)
        clear hc
        go_wp2_with fail
        go_ret
        exact ⟨ret_int R.out, rfl⟩
      | false =>
        have e1 := one_at hlt
        have e2 := toList_ne (one_other _ hc)
        have e3 : ((tx [l[k]]).toList == [10]) = false := by rw [← toList10]; exact toList_ne (one_other _ hc)
        have HC := Lib.hid hc
        generalize l[k] = c at e1 e2 e3
        clear hc
        go_wp2_with fail
        go_round
        case rel =>
          refine ⟨k + 1, by omega, by go_num, fun j hj hjk => ?_⟩
          by_cases e : j = k
          · subst e; exact HC.out
          · exact AL.out j hj (by omega)
        case measure => simp [intOf]; omega
    · have hkn : k = l.length := by omega
      subst hkn
      have R := Lib.hid (fidx_none (p := nl) (fun j hj => AL.out j hj hj))
      go_wp2_with fail
      go_ret
      exact ⟨ret_int R.out, rfl⟩

theorem info_str : (Tryd.prog.info? 9).map (fun i => (i.zero, i.size, i.bytes)) = some (some (.string ByteArray.empty), 1, 16) := by kernel_rfl
def szOf (v : Value) : Nat := match v with | .string s => s.size | _ => 0
/-- The lines, as values. -/
def lineVs (L : List Bs) : List Value := L.map fun l => Value.string (tx l)
theorem lineVs_len (L : List Bs) : (lineVs L).length = L.length := by simp [lineVs]
theorem lineVs_snoc (L : List Bs) (l : Bs) : lineVs (L ++ [l]) = lineVs L ++ [Value.string (tx l)] := by simp [lineVs]
theorem splitL_size (l : Bs) : (splitL l).length ≤ l.length + 1 := by rw [splitL_len]; have := List.countP_le_length (p := nl) (l := l); omega

set_option maxHeartbeats 1000000 in
theorem split_any (l : Bs) (w : World) (hn : l.length ≤ 1000000) : Calls Tryd.prog 67 #[.string (tx l), .string ⟨#[10]⟩] w fun e w' => ∃ v, e = .returned v ∧ Old w w' ∧ w'.ownsRow w.heap.size 9 1 v (splitL l).length (lineVs (splitL l)) := by
  have h1 : (⟨#[10]⟩ : ByteArray).size = 1 := rfl
  go_enter Tryd.func67, Tryd.ntmps67
  go_wp2_with fail
  go_loopw [0, 5] (fun sv ov wr => ∃ (done : List Bs) (rest : Bs), sv = .string (tx rest) ∧ splitL l = done ++ splitL rest ∧ rest.length + done.length ≤ l.length ∧ wr.ownsRow w.heap.size 9 1 ov done.length (lineVs done) ∧ Old w wr) (fun sv _ _ => szOf sv)
  case atStart => exact ⟨[], l, rfl, rfl, by simp, ⟨rfl, .inl ⟨rfl, rfl⟩⟩, Old.refl _⟩
  case round =>
    obtain ⟨done, rest, rfl, hsp, hlen, hown, hold⟩ := hrel
    have OW := Lib.hid hown
    have OO := Lib.hid hold
    have SP := Lib.hid hsp
    clear hown hold hsp
    have hs : (tx rest).size = rest.length := tx_size rest
    by_cases hf : 0 ≤ fidx nl rest
    · obtain ⟨e1, e2⟩ := fidx_flen hf
      have e3 : (tx rest).extract 0 (flen nl rest) = tx (rest.take (flen nl rest)) := by rw [extract_eq, bs_tx]; rfl
      have e4 : (tx rest).extract (flen nl rest + 1) rest.length = tx (rest.drop (flen nl rest + 1)) := by
        rw [extract_eq, bs_tx]; congr 1
        rw [List.take_of_length_le (by simp)]
      have CUT := Lib.hid (splitL_cut e2)
      have E1 := Lib.hid e1
      have i0 : (0 : Int) ≤ flen nl rest := by omega
      have i1 : (flen nl rest : Int) < rest.length := by omega
      have HF := Lib.hid hf
      clear hf e1
      generalize flen nl rest = q at *
      go_wp2_with (first
        | (go_at_call 79; refine (idx_any rest wr (by omega)).mono ?_; rw [E1.out]; rintro e w1 ⟨rfl, rfl⟩)
        | (at_builtin; refine wpList_append1 rfl _ _ 36 9 9 (.string ByteArray.empty) _ 16 rfl Tryd.underlying36 info_str rfl w.heap.size _ done.length _ rfl OW.out rfl rfl (by omega) (by omega) OO.out.size ?_; intro v' w5 hown1 hg1 hv1; obtain ⟨tb', tc', rfl⟩ := hv1; have OW2 := Lib.hid hown1; have O2 := Lib.hid (OO.out.own (Nat.le_refl _) OW.out hg1); clear hown1 hg1))
      go_roundw
      case rel =>
        refine ⟨done ++ [rest.take q], rest.drop (q + 1), rfl, ?_, by simp; omega, ?_, O2.out⟩
        · rw [SP.out, CUT.out]; simp
        · rw [lineVs_snoc, List.length_append]; exact OW2.out
      case measure => simp [szOf, tx_size]; omega
    · obtain ⟨e1, e2⟩ := fidx_neg (p := nl) (l := rest) (by omega)
      have E1 := Lib.hid e1
      have CUT := Lib.hid (splitL_none e2)
      go_wp2_with (first
        | (go_at_call 79; refine (idx_any rest wr (by omega)).mono ?_; rw [E1.out]; rintro e w1 ⟨rfl, rfl⟩)
        | (at_builtin; refine wpList_append1 rfl _ _ 36 9 9 (.string ByteArray.empty) _ 16 rfl Tryd.underlying36 info_str rfl w.heap.size _ done.length _ rfl OW.out rfl rfl (by omega) (by omega) OO.out.size ?_; intro v' w5 hown1 hg1 hv1; obtain ⟨tb', tc', rfl⟩ := hv1; have OW2 := Lib.hid hown1; have O2 := Lib.hid (OO.out.own (Nat.le_refl _) OW.out hg1); clear hown1 hg1))
      go_ret
      refine ⟨_, rfl, O2.out, ?_⟩
      rw [SP.out, CUT.out, lineVs_snoc, List.length_append]
      exact OW2.out

/-- Texts in a row of one's own: cell by cell. -/
theorem lineVs_at {w : World} {base : Nat} {e : TypeId} {v : Value} {L : List Bs} (h : w.ownsRow base e 1 v L.length (lineVs L)) (hp : 0 < L.length) : ∃ b c, v = .slice (some ⟨b, 0, none⟩) L.length c ∧ base ≤ b ∧ b < w.heap.size ∧ L.length ≤ c ∧ c ≤ maxLen ∧ ∀ j, j < L.length → w.cell? ⟨b, j, none⟩ = some (.string (tx (line L j))) := by
  obtain ⟨b, c, rfl⟩ := own_some h hp
  have h4 := own_lt h
  refine ⟨b, c, rfl, h4.1, h4.2.1, h4.2.2.1, h4.2.2.2, fun j hj => ?_⟩
  rw [own_cell h j hj, gv_lt (by rw [lineVs_len]; exact hj)]
  simp [lineVs, line, List.getD, List.getElem?_eq_getElem hj]
theorem lineVs_last {w : World} {base : Nat} {e : TypeId} {v : Value} {L : List Bs} (h : w.ownsRow base e 1 v L.length (lineVs L)) (hp : 0 < L.length) (hn : L.length ≤ 1000001) : ∃ b c n q : Nat, v = .slice (some ⟨b, 0, none⟩) n c ∧ n ≤ c ∧ c ≤ 9223372036854775807 ∧ IntKind.i64.wrap ((n : Int) - 1) = (q : Int) ∧
    (0 : Int) ≤ q ∧ (q : Int) < n ∧ w.cell? ⟨b, q, none⟩ = some (.string (tx (line L (L.length - 1)))) := by
  obtain ⟨b, c, rfl, b1, b2, b3, b4, cells⟩ := lineVs_at h hp
  unfold maxLen at b4
  exact ⟨b, c, L.length, L.length - 1, rfl, b3, by omega, by rw [IntWalk.i64_in _ (by omega)]; omega, by omega, by omega, cells _ (by omega)⟩
section
variable (p : Nat) (l : Bs) (k : Nat) (w : World) (h : DP w p l k) (hk : k ≤ l.length) (ok : okT l)
include h ok
theorem lines_any : Calls Tryd.prog 43 #[.pointer (some ⟨p, 0, none⟩)] w fun e w' => ∃ v, e = .returned v ∧ Old w w' ∧ w'.ownsRow w.heap.size 9 1 v (splitL l).length (lineVs (splitL l)) := by
  have c0 := h.c0
  have hn := ok.n
  clear h ok
  go_enter Tryd.func43, Tryd.ntmps43
  go_wp2_with (go_at_call 67; refine (split_any l _ hn).mono ?_; rintro e w2 ⟨v, rfl, o2, r2⟩; have O2 := Lib.hid o2; have R2 := Lib.hid r2; clear o2 r2)
  go_ret
  exact ⟨_, rfl, O2.out, R2.out⟩
theorem lc_any : Calls Tryd.prog 69 #[.pointer (some ⟨p, 0, none⟩)] w fun e w' => e = .returned (.int .i64 (splitL l).length) ∧ Old w w' := by
  have H := Lib.hid h
  have OK := Lib.hid ok
  clear h ok
  go_enter Tryd.func69, Tryd.ntmps69
  go_wp2_with (go_at_call 43; refine (lines_any p l k _ H.out OK.out).mono ?_; rintro e w2 ⟨v, rfl, o2, r2⟩; obtain ⟨b, c, rfl, _⟩ := lineVs_at r2 (splitL_pos l); have O2 := Lib.hid o2; have R2 := Lib.hid r2; clear o2 r2)
  go_ret
  exact ⟨rfl, O2.out⟩
include hk
theorem clb_any : Calls Tryd.prog 38 #[.pointer (some ⟨p, 0, none⟩)] w fun e w' => e = .returned (.string (tx (lineB l k))) ∧ Old w w' := by
  have H := Lib.hid h
  have OK := Lib.hid ok
  have hn := (ok.take k).n
  clear h ok
  have hlast : Hid (line (splitL (l.take k)) ((splitL (l.take k)).length - 1) = lineB l k) := line_last _
  go_enter Tryd.func38, Tryd.ntmps38
  go_wp2_with (first
    | (go_at_call 36; refine (tb_any p l k _ H.out hk OK.out).mono ?_; rintro e w1 ⟨rfl, o1⟩; have O1 := Lib.hid o1; clear o1)
    | (go_at_call 67; refine (split_any (l.take k) _ hn).mono ?_; rintro e w2 ⟨v, rfl, o2, r2⟩; obtain ⟨b, c, n, q, rfl, b3, b4, i0, i1, i2, g0⟩ := lineVs_last r2 (splitL_pos _) (by have := splitL_size (l.take k); omega); have O2 := Lib.hid (O1.out.trans o2); rw [hlast.out] at g0; clear o2 r2))
  go_ret
  exact ⟨rfl, O2.out⟩
theorem cla_any : Calls Tryd.prog 39 #[.pointer (some ⟨p, 0, none⟩)] w fun e w' => e = .returned (.string (tx (lineA l k))) ∧ Old w w' := by
  have H := Lib.hid h
  have OK := Lib.hid ok
  have hn := (ok.drop k).n
  clear h ok
  have hlast : Hid (line (splitL (l.drop k)) 0 = lineA l k) := line_zero _
  go_enter Tryd.func39, Tryd.ntmps39
  go_wp2_with (first
    | (go_at_call 37; refine (ta_any p l k _ H.out hk OK.out).mono ?_; rintro e w1 ⟨rfl, o1⟩; have O1 := Lib.hid o1; clear o1)
    | (go_at_call 67; refine (split_any (l.drop k) _ hn).mono ?_; rintro e w2 ⟨v, rfl, o2, r2⟩; obtain ⟨b, c, rfl, b1, b2, b3, b4, cells⟩ := lineVs_at r2 (splitL_pos _); have O2 := Lib.hid (O1.out.trans o2); have hpos := splitL_pos (l.drop k); have g0 := cells 0 hpos; rw [hlast.out] at g0; clear o2 r2 cells))
  go_ret
  exact ⟨rfl, O2.out⟩
theorem cl_any : Calls Tryd.prog 40 #[.pointer (some ⟨p, 0, none⟩)] w fun e w' => e = .returned (.string (tx (lineB l k ++ lineA l k))) ∧ Old w w' := by
  have H := Lib.hid h
  have OK := Lib.hid ok
  have hap := tx_append (lineB l k) (lineA l k)
  have s1 : (tx (lineB l k)).size ≤ 1000000 := by rw [tx_size]; exact ((ok.take k).drop _).n
  have s2 : (tx (lineA l k)).size ≤ 1000000 := by rw [tx_size]; exact ((ok.drop k).take _).n
  clear h ok
  go_enter Tryd.func40, Tryd.ntmps40
  go_wp2_with (first
    | (go_at_call 38; refine (clb_any p l k _ H.out hk OK.out).mono ?_; rintro e w1 ⟨rfl, o1⟩; have O1 := Lib.hid o1; clear o1)
    | (go_at_call 39; refine (cla_any p l k _ (H.out.old O1.out) hk OK.out).mono ?_; rintro e w2 ⟨rfl, o2⟩; have O2 := Lib.hid (O1.out.trans o2); clear o2))
  go_ret
  exact ⟨rfl, O2.out⟩
theorem eol_any : Calls Tryd.prog 45 #[.pointer (some ⟨p, 0, none⟩)] w fun e w' => e = .returned (.int .i64 (lineA l k).length) ∧ Old w w' := by
  have H := Lib.hid h
  have OK := Lib.hid ok
  have OKA : Hid (okT (lineA l k)) := (ok.drop k).take _
  have hn := OKA.out.n
  clear h ok
  go_enter Tryd.func45, Tryd.ntmps45
  go_wp2_with (first
    | (go_at_call 39; refine (cla_any p l k _ H.out hk OK.out).mono ?_; rintro e w1 ⟨rfl, o1⟩; have O1 := Lib.hid o1; clear o1)
    | (refine wpList_runes rfl 9 42 21 _ (tx (lineA l k)) rfl rfl (by kernel_rfl) (by kernel_rfl) (by kernel_rfl) (by rw [tx_size]; omega) ?_; intro vv w2 o2 r2 hv2 own2; have O2 := Lib.hid (O1.out.trans o2); rw [runes_tx OKA.out] at hv2; obtain ⟨vb, vc, rfl⟩ := hv2; rw [List.length_map]; clear o2 r2 own2))
  go_ret
  exact ⟨rfl, O2.out⟩
end
end Go.Proofs.YtleamondilmojaaDoor
