/- readline.Get2: two numbers of an attribute. -/
import Derived.Test.YthfjkaeenpbebaaDoorSplit9
import Derived.Test.YthfjkaeenpbebaaDoorNumber
import Derived.Test.YthfjkaeenpbebaaDoorAtoi
namespace Go.Proofs.YthfjkaeenpbebaaDoor
open Go.RowKit
set_option linter.unusedVariables false
set_option linter.unusedSimpArgs false
set_option linter.unnecessarySimpa false
set_option maxRecDepth 100000

set_option maxHeartbeats 1000000 in
theorem get2_any (p : Nat) (s x y : ByteArray) (a b : Nat) (rest : List ByteArray) (w : World) (hp : w.cell? ⟨p, 0, none⟩ = some (.string s)) (hs : s.size ≤ 1000) (hsp : spAll s 59 = x :: y :: rest) (hx : Dig x a) (hy : Dig y b) (ha : a ≤ 999999999) (hb : b ≤ 999999999) :
    Calls Tryd.prog 43 #[.pointer (some ⟨p, 0, none⟩)] w fun e w' => e = .returned (.tuple #[.int .i64 a, .int .i64 b, .bool true]) ∧ Old w w' := by
  have HS := Lib.hid hsp
  have HX := Lib.hid hx
  have HY := Lib.hid hy
  clear hsp hx hy
  have mk : Hid True := trivial
  have hrl : Hid (rest.length ≤ 1000) := by
    unfold Hid
    have h1 : (spAll s 59).length = rest.length + 2 := by rw [HS.out]; rfl
    have h2 := sp_len s 59 s.size
    unfold spAll at h1
    simp at h1
    omega
  go_enter Tryd.func43, Tryd.ntmps43
  go_wp2_with (first
    | (go_at_call 54; refine (split9_any s 59 w hs (by omega) (by omega)).mono ?_; rintro e w1 ⟨r, rfl, hr, o1⟩; rw [HS.out] at hr
       obtain ⟨rb, rc, rfl, hrl1, hrc⟩ := hr
       have k0 : w1.cell? ⟨rb, 0, none⟩ = some (.string x) := hrc 0 (by simp)
       have k1 : w1.cell? ⟨rb, 1, none⟩ = some (.string y) := hrc 1 (by simp)
       have K1 := Lib.hid k1
       have hl := hrl.out
       simp only [List.length_cons]
       have O1 := Lib.hid o1
       clear o1 hrc)
    | (go_at_call 42; have q := mk; clear mk q; refine (atoi_good x (by have := HX.out.2.1; omega) a (HX.out.atoi (by omega)) w1).mono ?_; rintro e w2 ⟨rfl, o2⟩; have k1 := (o2.cell hrl1).trans K1.out; have O2 := Lib.hid (O1.out.trans o2); clear o2)
    | (go_at_call 42; refine (atoi_good y (by have := HY.out.2.1; omega) b (HY.out.atoi (by omega)) w2).mono ?_; rintro e w3 ⟨rfl, o3⟩; have O3 := Lib.hid (O2.out.trans o3); clear o3))
  go_ret3
  exact ⟨rfl, O3.out⟩

theorem Get2_any (s x y : ByteArray) (a b : Nat) (rest : List ByteArray) (w : World) (hs : s.size ≤ 1000) (hsp : spAll s 59 = x :: y :: rest) (hx : Dig x a) (hy : Dig y b) (ha : a ≤ 999999999) (hb : b ≤ 999999999) :
    Calls Tryd.prog 31 #[.string s] w fun e w' => e = .returned (.tuple #[.int .i64 a, .int .i64 b, .bool true]) ∧ Old w w' := by
  have HS := Lib.hid hsp
  have HX := Lib.hid hx
  have HY := Lib.hid hy
  have hz : (Instr.build 77 #[(0, .string s)]).run Tryd.prog w = .ok (.agg #[.string s, .int .i32 0]) w := by kernel_rfl
  clear hsp hx hy
  go_enter Tryd.func31, Tryd.ntmps31
  go_wp2_with (go_at_call 43; refine (get2_any w.heap.size s x y a b rest _ ((heap_cell (heap_alloc_new w _) 0).trans rfl) hs HS.out HX.out HY.out ha hb).mono ?_; rintro e w1 ⟨rfl, o1⟩; have O1 := Lib.hid o1; clear o1)
  go_ret3
  exact ⟨rfl, (Old.alloc _ _).trans O1.out⟩
theorem two_any (s x y : ByteArray) (a b : Nat) (rest : List ByteArray) (w : World) (hs : s.size ≤ 1000) (hsp : spAll s 59 = x :: y :: rest) (hx : Dig x a) (hy : Dig y b) (ha : a ≤ 999999999) (hb : b ≤ 999999999) :
    Calls Tryd.prog 20 #[.string s] w fun e w' => e = .returned (.tuple #[.int .i64 a, .int .i64 b, .bool true]) ∧ Old w w' := by
  have HG := Lib.hid (Get2_any s x y a b rest w hs hsp hx hy ha hb)
  clear hsp hx hy
  go_enter Tryd.func20, Tryd.ntmps20
  go_wp2_with (go_at_call 31; refine HG.out.mono ?_; rintro e w1 ⟨rfl, o1⟩; have O1 := Lib.hid o1; clear o1)
  go_ret3
  exact ⟨rfl, O1.out⟩
theorem Dig.no59 {s : ByteArray} {n : Nat} (h : Dig s n) : ∀ k, k < s.size → ¬ gi (nums s) k = 59 := by
  intro k hk e
  have hd := h.2.2.1 s[k] (Array.mem_toList_iff.2 (Array.getElem_mem (xs := s.data) hk))
  rw [gi_nums hk] at e
  unfold digit at hd
  omega
end Go.Proofs.YthfjkaeenpbebaaDoor
