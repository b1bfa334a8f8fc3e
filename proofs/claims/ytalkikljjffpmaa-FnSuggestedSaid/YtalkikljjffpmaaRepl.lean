/- zzReplaceAll of a byte that a text has not; deleteBreakLineCharacters of a printable text. -/
import Derived.Test.YtalkikljjffpmaaWid
import Derived.Test.YtalkikljjffpmaaApp
import Derived.Test.YtalkikljjffpmaaDocL
import Derived.Lib.BufferRead
namespace Go.Proofs.Ytalkikljjffpmaa
open Go.RowKit
set_option linter.unusedVariables false
set_option linter.unusedSimpArgs false
set_option linter.unnecessarySimpa false
set_option maxRecDepth 100000

theorem info_byteR : (Try.prog.info? 5).map (fun i => (i.zero, i.size, i.bytes)) = some (some (.int .u8 0), 1, 1) := by kernel_rfl
def byV (l : Bs) : List Value := l.map fun c => Value.int .u8 c.toNat
theorem byV_succ {l : Bs} {k : Nat} (h : k < l.length) : byV (l.take k) ++ [.int .u8 l[k].toNat] = byV (l.take (k + 1)) := by
  unfold byV; rw [List.take_succ_eq_append_getElem h, List.map_append]; rfl
theorem byV_cown {w : World} {base : Nat} {e : TypeId} {b c : Nat} {l : Bs} (h : w.ownsRow base e 1 (.slice (some ⟨b, 0, none⟩) l.length c) l.length (byV l)) : COwn w b .u8 (tx l).size (gi (nums (tx l))) := by
  intro j hj
  have hj2 : j < l.length := by rwa [tx_size] at hj
  refine ⟨?_, ?_⟩
  · have hc := own_cell h j hj2
    rw [hc, gv_lt (by unfold byV; simpa using hj2), nums_tx, gi_lt (by simpa using hj2)]
    simp [byV]
  · obtain ⟨-, h | ⟨g, cap, cur, h0, h1, h2, h3, h4, h5, h6⟩⟩ := h
    · simp at h
    · injection h0 with e1 e2 e3; injection e1 with e1; injection e1 with e1; subst e1
      unfold World.frozen?; rw [h2]; simp
set_option maxHeartbeats 1000000 in
theorem ra_any (l : Bs) (c : UInt8) (w : World) (hn : l.length ≤ 1000000) (hc : ∀ x ∈ l, x ≠ c) : Calls Try.prog 25 #[.string (tx l), .string ⟨#[c]⟩, .string ⟨#[]⟩] w fun e w' => e = .returned (.string (tx l)) ∧ Old w w' := by
  have hs : (tx l).size = l.length := tx_size l
  have h1 : (⟨#[c]⟩ : ByteArray).size = 1 := rfl
  have HC := Lib.hid hc
  clear hc
  go_enter Try.func25, Try.ntmps25
  go_wp2_with fail
  go_loopw [7, 8] (fun v i wr => ∃ k : Nat, k ≤ l.length ∧ i = .int .i64 k ∧ wr.ownsRow w.heap.size 5 1 v k (byV (l.take k)) ∧ Old w wr) (fun _ i _ => l.length - (intOf i).toNat)
  case atStart => exact ⟨0, Nat.zero_le _, rfl, ⟨rfl, .inl ⟨rfl, rfl⟩⟩, Old.refl _⟩
  case round =>
    obtain ⟨k, hk, rfl, hown, hold⟩ := hrel
    have OW := Lib.hid hown
    have OO := Lib.hid hold
    clear hold
    by_cases hlt : k < l.length
    · clear hown
      have e1 := one_at hlt
      have hne := HC.out _ (List.getElem_mem hlt)
      have e2 : ((tx [l[k]]).toList == (⟨#[c]⟩ : ByteArray).toList) = false := toList_ne (fun h => hne (by have := tx_inj (a := [l[k]]) (b := [c]) h; simpa using this))
      have e4 : (⟨#[c]⟩ : ByteArray).toList = [c] := toList_bs _
      have SU := Lib.hid (byV_succ hlt)
      have hg : (tx l)[k]'(by omega) = l[k] := get_tx hlt (by omega)
      obtain ⟨x, hx⟩ : ∃ x, x = l[k] := ⟨_, rfl⟩
      rw [← hx] at e1 e2 SU hg
      have e3 : ((tx [x]).toList == [c]) = false := by rw [← e4]; exact e2
      clear hx hne
      go_wp2_with (at_builtin; refine wpList_append1 rfl _ _ 55 5 5 (.int .u8 0) _ 1 rfl Try.underlying55 info_byteR rfl w.heap.size _ k _ rfl OW.out rfl rfl (by omega) (by omega) OO.out.size ?_; intro v' w5 hown1 hg1 hv1; obtain ⟨tb', tc', rfl⟩ := hv1; have OW2 := Lib.hid hown1; have O2 := Lib.hid (OO.out.own (Nat.le_refl _) OW.out hg1); clear hown1 hg1)
      refine ⟨⟨k + 1, by omega, by go_num, by rw [← SU.out]; exact OW2.out, O2.out⟩, ?_⟩
      simp [intOf]; omega
    · obtain rfl : k = l.length := by omega
      rw [List.take_length] at OW hown
      by_cases h0 : l.length = 0
      · obtain rfl := List.eq_nil_of_length_eq_zero h0
        obtain ⟨-, hv | ⟨g, cap, cur, rfl, -⟩⟩ := hown
        · obtain ⟨rfl, -⟩ := hv
          have hconv := Lib.run_convert_nil_bytes (P := Try.prog) wr 55 9 5 0 (by kernel_rfl) (by kernel_rfl) (by kernel_rfl)
          go_wp2_with fail
          go_ret
          exact ⟨rfl, OO.out⟩
        · have hconv := bytes_back (P := Try.prog) wr 55 9 5 g cap (tx []) (by kernel_rfl) (by kernel_rfl) (by kernel_rfl) (fun j hj => absurd hj (by rw [tx_size]; simp))
          have e9 : (tx []).size = 0 := rfl
          rw [e9] at hconv
          go_wp2_with fail
          go_ret
          exact ⟨rfl, OO.out⟩
      · obtain ⟨b, cc, rfl⟩ := own_some hown (by omega)
        have hconv := bytes_back (P := Try.prog) wr 55 9 5 b cc (tx l) (by kernel_rfl) (by kernel_rfl) (by kernel_rfl) (byV_cown hown)
        rw [hs] at hconv
        clear hown
        go_wp2_with fail
        go_ret
        exact ⟨rfl, OO.out⟩

theorem db_any (l : Bs) (w : World) (ok : prT l) : Calls Try.prog 20 #[.string (tx l)] w fun e w' => e = .returned (.string (tx l)) ∧ Old w w' := by
  have H1 := fun W => ra_any l 10 W ok.n (fun x hx h => by have := ok.a x hx; subst h; simp at this)
  have H2 := fun W => ra_any l 13 W ok.n (fun x hx h => by have := ok.a x hx; subst h; simp at this)
  have A1 := Lib.hid H1
  have A2 := Lib.hid H2
  clear H1 H2 ok
  go_enter Try.func20, Try.ntmps20
  go_wp2_with (first
    | (go_at_call 25; with_reducible refine (A1.out w).mono ?_; rintro e w1 ⟨rfl, o1⟩; have O1 := Lib.hid o1; clear o1)
    | (go_at_call 25; with_reducible refine (A2.out w1).mono ?_; rintro e w2 ⟨rfl, o2⟩; have O2 := Lib.hid (O1.out.trans o2); clear o2))
  go_ret
  exact ⟨rfl, O2.out⟩
end Go.Proofs.Ytalkikljjffpmaa
