/- impl.WordsUntil: the words next to a cursor, by separators. (Printed by mkuntil.py.) -/
import Derived.Test.YtbkdppfjmfepiaaDoorDocV
import Derived.Test.YtbkdppfjmfepiaaDoorDocG
namespace Go.Proofs.YtbkdppfjmfepiaaDoor
open Go.RowKit
set_option linter.unusedVariables false
set_option linter.unusedSimpArgs false
set_option linter.unnecessarySimpa false
set_option maxRecDepth 100000

theorem results_tmp4 {fn : Func} {t u v x : Tmp} (h : fn.results = #[.tmp t, .tmp u, .tmp v, .tmp x]) (tmps : Array Value) (P : Program) (w : World) :
    (results fn tmps).run P w = .ok (.tuple #[tmps.getD t undef, tmps.getD u undef, tmps.getD v undef, tmps.getD x undef]) w := by
  simp [results, h]
/-- The four words. -/
def w1t (l : Bs) (k : Nat) (S : Bs) : Bs := (l.take k).drop (wS (setP S false) (l.take k))
def w2t (l : Bs) (k : Nat) (S : Bs) : Bs := (l.drop k).take (wE (setP S false) (l.drop k))
def w3t (l : Bs) (k : Nat) (S : Bs) : Bs := (l.take k).drop (wSS (setP S false) (setP S true) (l.take k))
def w4t (l : Bs) (k : Nat) (S : Bs) : Bs := (l.drop k).take (wES (setP S false) (setP S true) (l.drop k))
set_option maxHeartbeats 2000000 in
theorem wu_any (l : Bs) (k : Nat) (S : Bs) (w : World) (hk : k ≤ l.length) (ok : okT l) (okS : okT S) (h0S : 0 < S.length) :
    Calls Tryd.prog 11 #[.agg #[.string (tx l), .int .i64 k], .string (tx S)] w fun e w' => e = .returned (.tuple #[.string (tx (w1t l k S)), .string (tx (w2t l k S)), .string (tx (w3t l k S)), .string (tx (w4t l k S))]) ∧ Old w w' := by
  have OK := Lib.hid ok
  have OKS := Lib.hid okS
  clear ok okS
  go_enter Tryd.func11, Tryd.ntmps11
  go_wp2_with (first
    | (go_at_call 19; refine (docD_any l k _ hk OK.out).mono ?_; rintro e w0 ⟨p, rfl, o0, hp, d0⟩; have O0 := Lib.hid ((Old.alloc _ _).trans o0); have D : Hid (∀ w', Old w0 w' → DP w' p l k) := fun w' o => d0.old o; have Z0 := Lib.hid (Old.refl w0); clear o0 d0)
    | (go_at_call 20; refine (wbu_any p l k S _ (D.out _ Z0.out) hk OK.out OKS.out h0S).mono ?_; rintro e w1 ⟨rfl, o⟩; have Z1 := Lib.hid (Z0.out.trans o); clear o)
    | (go_at_call 21; refine (wau_any p l k S _ (D.out _ Z1.out) hk OK.out OKS.out h0S).mono ?_; rintro e w2 ⟨rfl, o⟩; have Z2 := Lib.hid (Z1.out.trans o); clear o)
    | (go_at_call 22; refine (wbsu_any p l k S _ (D.out _ Z2.out) hk OK.out OKS.out h0S).mono ?_; rintro e w3 ⟨rfl, o⟩; have Z3 := Lib.hid (Z2.out.trans o); clear o)
    | (go_at_call 23; refine (wasu_any p l k S _ (D.out _ Z3.out) hk OK.out OKS.out h0S).mono ?_; rintro e w4 ⟨rfl, o⟩; have Z4 := Lib.hid (Z3.out.trans o); clear o))
  (try simp only [Exit.inBlock, Exit.then])
  refine bodyPost_ret (results_tmp4 rfl _ _ _) rfl ?_
  exact ⟨rfl, O0.out.trans Z4.out⟩
end Go.Proofs.YtbkdppfjmfepiaaDoor
