/- FnMessage: the walk (the statement is told in the row). -/
import Derived.Test.YthfjkaeenpbebaaMsgGet
namespace Go.Proofs.Ythfjkaeenpbebaa
open Go.RowKit
set_option linter.unusedVariables false
set_option linter.unusedSimpArgs false
set_option maxRecDepth 100000

theorem msg_guard (k : Int) (d r : ByteArray) (w : World) (hd : d.size ≤ 140737488351232) (hr : r.size ≤ 140737488351232) (h : ¬ (d.size ≤ 1000 ∧ r.size ≤ 1000 ∧ k < 32768)) :
    Calls Try.prog 6 #[.int .u16 k, .string d, .string r] w fun e w' => e = .returned (.bool true) ∧ Old w w' := by
  have H := Lib.hid h
  clear h
  go_enter Try.func6, Try.ntmps6
  by_cases h1 : 2147483647 < d.size
  · go_wp2_with fail
    go_ret
    exact ⟨rfl, Old.refl _⟩
  by_cases h2 : 2147483647 < r.size
  · go_wp2_with fail
    go_ret
    exact ⟨rfl, Old.refl _⟩
  by_cases h3 : 1000 < d.size
  · go_wp2_with fail
    go_ret
    exact ⟨rfl, Old.refl _⟩
  by_cases h4 : 1000 < r.size
  · go_wp2_with fail
    go_ret
    exact ⟨rfl, Old.refl _⟩
  by_cases h5 : 32768 ≤ k
  · go_wp2_with fail
    go_ret
    exact ⟨rfl, Old.refl _⟩
  exact absurd ⟨by omega, by omega, by omega⟩ H.out

set_option maxHeartbeats 1000000 in
theorem msg_nat (k : Nat) (d r : ByteArray) (w : World) (hd : d.size ≤ 1000) (hr : r.size ≤ 1000) (hk : k < 32768) :
    Calls Try.prog 6 #[.int .u16 k, .string d, .string r] w fun e w' => e = .returned (.bool true) ∧ Old w w' := by
  have hn : Parted (d.size + 2) ((d.size + 2) / 256) ((d.size + 2) % 256) := ⟨by omega, by omega⟩
  have hkp : Parted k (k / 256) (k % 256) := ⟨by omega, by omega⟩
  have hkh : k / 256 < 128 := by omega
  have kr : IntKind.i64.wrap (k : Int) = k := IntWalk.i64_in _ (by omega)
  have HN := Lib.hid hn
  have HK := Lib.hid hkp
  have HH := Lib.hid hkh
  have HD := Lib.hid hd
  have HR := Lib.hid hr
  generalize (d.size + 2) / 256 = h at HN
  generalize (d.size + 2) % 256 = l at HN
  generalize k / 256 = kh at HK HH
  generalize k % 256 = kl at HK
  clear hn hkp hkh
  have hz : (hd6 h l kh kl).size = 6 := rfl
  go_enter Try.func6, Try.ntmps6
  go_wp2_with (first
    | (go_at_call 14; refine (written_any _ h l k kh kl d _ HN.out HK.out HH.out rfl HD.out).mono ?_; rintro e w1 ⟨rfl, o1⟩; have O1 := Lib.hid o1; clear o1)
    | (go_at_call 15; refine (messageRead_any _ h l k kh kl d r _ HN.out HK.out HH.out rfl HD.out HR.out).mono ?_; rintro e w2 ⟨rfl, o2⟩; have O2 := Lib.hid o2; clear o2)
    | (go_at_call 16; refine (specMessage_any _ h l k kh kl d _ HN.out HK.out HH.out rfl HD.out).mono ?_; rintro e w3 ⟨rfl, o3⟩; have O3 := Lib.hid o3; clear o3))
  all_goals have hd' := HD.out
  all_goals have hr' := HR.out
  all_goals try (exfalso; omega)
  go_ret
  exact ⟨ret_bool (by simp), (O1.out.trans O2.out).trans O3.out⟩

theorem law_message (k : Int) (d r : ByteArray) (w : World) (hk : (Lit.int .u16 k).wf = true) (hd : d.size ≤ 140737488351232) (hr : r.size ≤ 140737488351232) :
    Calls Try.prog 6 #[.int .u16 k, .string d, .string r] w fun e w' => e = .returned (.bool true) ∧ Below w.heap.size w w' := by
  by_cases h : d.size ≤ 1000 ∧ r.size ≤ 1000 ∧ k < 32768
  · have h0 : 0 ≤ k := by
      simp [Lit.wf, IntKind.min, IntKind.signed] at hk
      exact hk.1
    obtain ⟨n, rfl⟩ := Int.eq_ofNat_of_zero_le h0
    exact msg_nat n d r w h.1 h.2.1 (by omega)
  · exact msg_guard k d r w hd hr h
end Go.Proofs.Ythfjkaeenpbebaa
