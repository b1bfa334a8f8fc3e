/- impl.step: what a step of a script makes of a buffer. (Printed by mkstepe.py.) -/
import Derived.Test.YtleamondilmojaaDoorBufO
namespace Go.Proofs.YtleamondilmojaaDoor
open Go.RowKit
set_option linter.unusedVariables false
set_option linter.unusedSimpArgs false
set_option linter.unnecessarySimpa false
set_option maxRecDepth 100000

/-- A step of a script, as a value. -/
structure Ed where
  op : Int
  n : Int
  t : ByteArray
  f : Bool
def Ed.v (e : Ed) : Value := .agg #[.int .i64 e.op, .int .i64 e.n, .string e.t, .bool e.f]
/-- A buffer's text, cursor and column. -/
structure St where
  l : Bs
  k : Nat
  pc : Int
def EPost (bp lb : Nat) (s : St) (t : Bs) (w : World) (e : Ending) (w' : World) : Prop := e = .returned (.tuple #[.string (tx t), .bool true]) ∧ BE w' bp lb s.l s.k s.pc ∧ Two bp lb w w'
/-- What a step does, whatever the buffer. -/
def Does (e : Ed) (s s' : St) (t : Bs) : Prop := ∀ (bp lb : Nat) (w : World), BE w bp lb s.l s.k s.pc → Calls Tryd.prog 61 #[.pointer (some ⟨bp, 0, none⟩), e.v] w (EPost bp lb s' t w)
theorem ret_pair {a b : Bs} (h : a = b) : Ending.returned (.tuple #[.string (tx a), .bool true]) = .returned (.tuple #[.string (tx b), .bool true]) := by rw [h]
/-- What Delete leaves, and takes out; what JoinNextLine leaves. -/
def delT (l : Bs) (k n : Nat) : Bs := if k < l.length then delM l k n else l
def delR (l : Bs) (k n : Nat) : Bs := if k < l.length then (l.drop k).take n else []
def joinT (l : Bs) (k : Nat) (v : Bs) : Bs := if row l k + 1 = (splitL l).length then l else joinM l k v
def joinK (l : Bs) (k : Nat) : Nat := if row l k + 1 = (splitL l).length then k else k + (lineA l k).length
theorem del_any9 (bp lb : Nat) (l : Bs) (k : Nat) (pc : Int) (dv : Value) (w : World) (h : B9 w bp lb l k pc dv) (hk : k ≤ l.length) (ok : okT l) (n : Nat) (hn0 : k < l.length → k + n ≤ l.length) :
    Calls Tryd.prog 87 #[.pointer (some ⟨bp, 0, none⟩), .int .i64 n] w (TakePost bp lb (delT l k n) k pc (delR l k n) w) := del_any bp lb l k pc dv w h hk ok n hn0
theorem join_any9 (bp lb : Nat) (l : Bs) (k : Nat) (pc : Int) (dv : Value) (w : World) (h : B9 w bp lb l k pc dv) (hk : k ≤ l.length) (ok : okT l) (sep : Bs) (oks : okT sep) :
    Calls Tryd.prog 89 #[.pointer (some ⟨bp, 0, none⟩), .string (tx sep)] w (StepPost bp lb (joinT l k sep) (joinK l k) pc w) := join_any bp lb l k pc dv w h hk ok sep oks
section
variable (l : Bs) (k : Nat) (pc : Int) (ok : okT l)
include ok
theorem does_ins (hk : k ≤ l.length) (n : Int) (v : Bs) (okv : okT v) : Does ⟨1, n, tx v, false⟩ ⟨l, k, pc⟩ ⟨insM l k v, k + v.length, pc⟩ ([]) := fun bp lb w hb => by
  obtain ⟨dv, h⟩ := hb
  have H := Lib.hid h
  have OK := Lib.hid ok
  have OV := Lib.hid okv
  clear okv
  clear h ok
  unfold Ed.v
  go_enter Tryd.func61, Tryd.ntmps61
  go_wp2_with (go_at_call 81; refine (insT_any bp lb l k pc dv _ (H.out.old (Old.alloc _ _)) hk OK.out v OV.out).mono ?_; rintro e w1 ⟨rfl, h1, t1⟩; have H1 := Lib.hid h1; have T1 := Lib.hid ((Two.of_old (Old.alloc w _)).trans t1); clear h1 t1)
  go_ret2
  exact ⟨rfl, H1.out, T1.out⟩
theorem does_insA (hk : k ≤ l.length) (n : Int) (v : Bs) (okv : okT v) : Does ⟨2, n, tx v, false⟩ ⟨l, k, pc⟩ ⟨insM l k v, k, pc⟩ ([]) := fun bp lb w hb => by
  obtain ⟨dv, h⟩ := hb
  have H := Lib.hid h
  have OK := Lib.hid ok
  have OV := Lib.hid okv
  clear okv
  clear h ok
  unfold Ed.v
  go_enter Tryd.func61, Tryd.ntmps61
  go_wp2_with (go_at_call 81; refine (insF_any bp lb l k pc dv _ (H.out.old (Old.alloc _ _)) hk OK.out v OV.out).mono ?_; rintro e w1 ⟨rfl, h1, t1⟩; have H1 := Lib.hid h1; have T1 := Lib.hid ((Two.of_old (Old.alloc w _)).trans t1); clear h1 t1)
  go_ret2
  exact ⟨rfl, H1.out, T1.out⟩
theorem does_insO (n : Int) (v : Bs) (okv : okT v) (hkv : k + v.length ≤ l.length) : Does ⟨1, n, tx v, true⟩ ⟨l, k, pc⟩ ⟨putM l k v (overN l k v), k + v.length, pc⟩ ([]) := fun bp lb w hb => by
  obtain ⟨dv, h⟩ := hb
  have H := Lib.hid h
  have OK := Lib.hid ok
  have OV := Lib.hid okv
  clear okv
  clear h ok
  unfold Ed.v
  go_enter Tryd.func61, Tryd.ntmps61
  go_wp2_with (go_at_call 81; refine (insOT_any bp lb l k pc dv _ (H.out.old (Old.alloc _ _)) OK.out v OV.out hkv).mono ?_; rintro e w1 ⟨rfl, h1, t1⟩; have H1 := Lib.hid h1; have T1 := Lib.hid ((Two.of_old (Old.alloc w _)).trans t1); clear h1 t1)
  go_ret2
  exact ⟨rfl, H1.out, T1.out⟩
theorem does_left (hk : k ≤ l.length) (n : Nat) (v : ByteArray) (f : Bool) (hn : n ≤ 1000000) : Does ⟨3, n, v, f⟩ ⟨l, k, pc⟩ ⟨l, k - min n (lineB l k).length, pc⟩ ([]) := fun bp lb w hb => by
  obtain ⟨dv, h⟩ := hb
  have H := Lib.hid h
  have OK := Lib.hid ok
  clear h ok
  unfold Ed.v
  go_enter Tryd.func61, Tryd.ntmps61
  go_wp2_with (go_at_call 82; refine (cleft_any bp lb l k pc dv _ (H.out.old (Old.alloc _ _)) hk OK.out n hn).mono ?_; rintro e w1 ⟨rfl, h1, t1⟩; have H1 := Lib.hid h1; have T1 := Lib.hid ((Two.of_old (Old.alloc w _)).trans t1); clear h1 t1)
  go_ret2
  exact ⟨rfl, H1.out, T1.out⟩
theorem does_right (hk : k ≤ l.length) (n : Nat) (v : ByteArray) (f : Bool) (hn : n ≤ 1000000) : Does ⟨4, n, v, f⟩ ⟨l, k, pc⟩ ⟨l, k + min n (lineA l k).length, pc⟩ ([]) := fun bp lb w hb => by
  obtain ⟨dv, h⟩ := hb
  have H := Lib.hid h
  have OK := Lib.hid ok
  clear h ok
  unfold Ed.v
  go_enter Tryd.func61, Tryd.ntmps61
  go_wp2_with (go_at_call 83; refine (cright_any bp lb l k pc dv _ (H.out.old (Old.alloc _ _)) hk OK.out n hn).mono ?_; rintro e w1 ⟨rfl, h1, t1⟩; have H1 := Lib.hid h1; have T1 := Lib.hid ((Two.of_old (Old.alloc w _)).trans t1); clear h1 t1)
  go_ret2
  exact ⟨rfl, H1.out, T1.out⟩
theorem does_del (hk : k ≤ l.length) (n : Nat) (v : ByteArray) (f : Bool) (hn0 : k < l.length → k + n ≤ l.length) : Does ⟨8, n, v, f⟩ ⟨l, k, pc⟩ ⟨delT l k n, k, pc⟩ (delR l k n) := fun bp lb w hb => by
  obtain ⟨dv, h⟩ := hb
  have H := Lib.hid h
  have OK := Lib.hid ok
  have HN := Lib.hid hn0
  clear hn0
  clear h ok
  unfold Ed.v
  go_enter Tryd.func61, Tryd.ntmps61
  go_wp2_with (go_at_call 87; refine (del_any9 bp lb l k pc dv _ (H.out.old (Old.alloc _ _)) hk OK.out n HN.out).mono ?_; rintro e w1 ⟨rfl, h1, t1⟩; have H1 := Lib.hid h1; have T1 := Lib.hid ((Two.of_old (Old.alloc w _)).trans t1); clear h1 t1)
  go_ret2
  exact ⟨rfl, H1.out, T1.out⟩
theorem does_nline (hk : k ≤ l.length) (n : Int) (v : ByteArray) : Does ⟨9, n, v, false⟩ ⟨l, k, pc⟩ ⟨insM l k [10], k + 1, pc⟩ ([]) := fun bp lb w hb => by
  obtain ⟨dv, h⟩ := hb
  have H := Lib.hid h
  have OK := Lib.hid ok
  clear h ok
  unfold Ed.v
  go_enter Tryd.func61, Tryd.ntmps61
  go_wp2_with (go_at_call 88; refine (nline_any bp lb l k pc dv _ (H.out.old (Old.alloc _ _)) hk OK.out).mono ?_; rintro e w1 ⟨rfl, h1, t1⟩; have H1 := Lib.hid h1; have T1 := Lib.hid ((Two.of_old (Old.alloc w _)).trans t1); clear h1 t1)
  go_ret2
  exact ⟨rfl, H1.out, T1.out⟩
theorem does_join (hk : k ≤ l.length) (n : Int) (v : Bs) (f : Bool) (okv : okT v) : Does ⟨10, n, tx v, f⟩ ⟨l, k, pc⟩ ⟨joinT l k v, joinK l k, pc⟩ ([]) := fun bp lb w hb => by
  obtain ⟨dv, h⟩ := hb
  have H := Lib.hid h
  have OK := Lib.hid ok
  have OV := Lib.hid okv
  clear okv
  clear h ok
  unfold Ed.v
  go_enter Tryd.func61, Tryd.ntmps61
  go_wp2_with (go_at_call 89; refine (join_any9 bp lb l k pc dv _ (H.out.old (Old.alloc _ _)) hk OK.out v OV.out).mono ?_; rintro e w1 ⟨rfl, h1, t1⟩; have H1 := Lib.hid h1; have T1 := Lib.hid ((Two.of_old (Old.alloc w _)).trans t1); clear h1 t1)
  go_ret2
  exact ⟨rfl, H1.out, T1.out⟩
theorem key_gle (hk : k ≤ l.length) (bp lb : Nat) (dv : Value) (w : World) (h : B9 w bp lb l k pc dv) : Calls Tryd.prog 91 #[.pointer (some ⟨bp, 0, none⟩), .int .i64 12] w fun e w' => e = .returned (.bool true) ∧ BE w' bp lb l (k + (lineA l k).length) pc ∧ Two bp lb w w' := by
  have H := Lib.hid h
  have OK := Lib.hid ok
  clear h ok
  go_enter Tryd.func91, Tryd.ntmps91
  go_wp2_with (go_at_call 113; refine (gle_any bp lb l k pc dv w H.out hk OK.out).mono ?_; rintro e w1 ⟨rfl, h1⟩; have H1 := Lib.hid h1; clear h1)
  go_ret
  exact ⟨rfl, H1.out⟩
theorem does_gle (hk : k ≤ l.length) (n : Int) (v : ByteArray) (f : Bool) : Does ⟨12, n, v, f⟩ ⟨l, k, pc⟩ ⟨l, k + (lineA l k).length, pc⟩ [] := fun bp lb w hb => by
  obtain ⟨dv, h⟩ := hb
  have H := Lib.hid h
  have OK := Lib.hid ok
  have hbz := h.lt
  clear h ok
  unfold Ed.v
  go_enter Tryd.func61, Tryd.ntmps61
  go_wp2_with (go_at_call 91; refine (key_gle l k pc OK.out hk bp lb dv _ (H.out.old (Old.alloc _ _))).mono ?_; rintro e w1 ⟨rfl, h1, t1⟩; have H1 := Lib.hid h1; have T1 := Lib.hid ((Two.of_old (Old.alloc w _)).trans t1); clear h1 t1)
  go_ret2
  exact ⟨rfl, H1.out, T1.out⟩
theorem key_glb (hk : k ≤ l.length) (bp lb : Nat) (dv : Value) (w : World) (h : B9 w bp lb l k pc dv) : Calls Tryd.prog 91 #[.pointer (some ⟨bp, 0, none⟩), .int .i64 13] w fun e w' => e = .returned (.bool true) ∧ BE w' bp lb l (k - (lineB l k).length) pc ∧ Two bp lb w w' := by
  have H := Lib.hid h
  have OK := Lib.hid ok
  clear h ok
  go_enter Tryd.func91, Tryd.ntmps91
  go_wp2_with (go_at_call 114; refine (glb_any bp lb l k pc dv w H.out hk OK.out).mono ?_; rintro e w1 ⟨rfl, h1⟩; have H1 := Lib.hid h1; clear h1)
  go_ret
  exact ⟨rfl, H1.out⟩
theorem does_glb (hk : k ≤ l.length) (n : Int) (v : ByteArray) (f : Bool) : Does ⟨13, n, v, f⟩ ⟨l, k, pc⟩ ⟨l, k - (lineB l k).length, pc⟩ [] := fun bp lb w hb => by
  obtain ⟨dv, h⟩ := hb
  have H := Lib.hid h
  have OK := Lib.hid ok
  have hbz := h.lt
  clear h ok
  unfold Ed.v
  go_enter Tryd.func61, Tryd.ntmps61
  go_wp2_with (go_at_call 91; refine (key_glb l k pc OK.out hk bp lb dv _ (H.out.old (Old.alloc _ _))).mono ?_; rintro e w1 ⟨rfl, h1, t1⟩; have H1 := Lib.hid h1; have T1 := Lib.hid ((Two.of_old (Old.alloc w _)).trans t1); clear h1 t1)
  go_ret2
  exact ⟨rfl, H1.out, T1.out⟩
theorem key_grc (hk : k ≤ l.length) (bp lb : Nat) (dv : Value) (w : World) (h : B9 w bp lb l k pc dv) : Calls Tryd.prog 91 #[.pointer (some ⟨bp, 0, none⟩), .int .i64 17] w fun e w' => e = .returned (.bool true) ∧ BE w' bp lb l (k + min 1 (lineA l k).length) pc ∧ Two bp lb w w' := by
  have H := Lib.hid h
  have OK := Lib.hid ok
  clear h ok
  go_enter Tryd.func91, Tryd.ntmps91
  go_wp2_with (go_at_call 118; refine (grc_any bp lb l k pc dv w H.out hk OK.out).mono ?_; rintro e w1 ⟨rfl, h1⟩; have H1 := Lib.hid h1; clear h1)
  go_ret
  exact ⟨rfl, H1.out⟩
theorem does_grc (hk : k ≤ l.length) (n : Int) (v : ByteArray) (f : Bool) : Does ⟨17, n, v, f⟩ ⟨l, k, pc⟩ ⟨l, k + min 1 (lineA l k).length, pc⟩ [] := fun bp lb w hb => by
  obtain ⟨dv, h⟩ := hb
  have H := Lib.hid h
  have OK := Lib.hid ok
  have hbz := h.lt
  clear h ok
  unfold Ed.v
  go_enter Tryd.func61, Tryd.ntmps61
  go_wp2_with (go_at_call 91; refine (key_grc l k pc OK.out hk bp lb dv _ (H.out.old (Old.alloc _ _))).mono ?_; rintro e w1 ⟨rfl, h1, t1⟩; have H1 := Lib.hid h1; have T1 := Lib.hid ((Two.of_old (Old.alloc w _)).trans t1); clear h1 t1)
  go_ret2
  exact ⟨rfl, H1.out, T1.out⟩
theorem key_glc (hk : k ≤ l.length) (bp lb : Nat) (dv : Value) (w : World) (h : B9 w bp lb l k pc dv) : Calls Tryd.prog 91 #[.pointer (some ⟨bp, 0, none⟩), .int .i64 18] w fun e w' => e = .returned (.bool true) ∧ BE w' bp lb l (k - min 1 (lineB l k).length) pc ∧ Two bp lb w w' := by
  have H := Lib.hid h
  have OK := Lib.hid ok
  clear h ok
  go_enter Tryd.func91, Tryd.ntmps91
  go_wp2_with (go_at_call 119; refine (glc_any bp lb l k pc dv w H.out hk OK.out).mono ?_; rintro e w1 ⟨rfl, h1⟩; have H1 := Lib.hid h1; clear h1)
  go_ret
  exact ⟨rfl, H1.out⟩
theorem does_glc (hk : k ≤ l.length) (n : Int) (v : ByteArray) (f : Bool) : Does ⟨18, n, v, f⟩ ⟨l, k, pc⟩ ⟨l, k - min 1 (lineB l k).length, pc⟩ [] := fun bp lb w hb => by
  obtain ⟨dv, h⟩ := hb
  have H := Lib.hid h
  have OK := Lib.hid ok
  have hbz := h.lt
  clear h ok
  unfold Ed.v
  go_enter Tryd.func61, Tryd.ntmps61
  go_wp2_with (go_at_call 91; refine (key_glc l k pc OK.out hk bp lb dv _ (H.out.old (Old.alloc _ _))).mono ?_; rintro e w1 ⟨rfl, h1, t1⟩; have H1 := Lib.hid h1; have T1 := Lib.hid ((Two.of_old (Old.alloc w _)).trans t1); clear h1 t1)
  go_ret2
  exact ⟨rfl, H1.out, T1.out⟩
end
end Go.Proofs.YtleamondilmojaaDoor
