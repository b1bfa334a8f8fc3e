/- Steps of an edited line, as plain functions. -/
import Derived.Test.YtlfmmmbafkelhaaDoorRBK0
namespace Go.Proofs.YtlfmmmbafkelhaaDoor
open Go.RowKit
set_option linter.unusedVariables false
set_option linter.unusedSimpArgs false
set_option maxRecDepth 100000

/-- A step: its kind, a text, a place or code point, two flags. -/
structure KeyS where
  op : Int
  text : ByteArray
  n : Int
  f : Bool
  b : Bool
def KeyS.v (k : KeyS) : Value := .agg #[.int .i64 k.op, .string k.text, .int .i64 k.n, .bool k.f, .bool k.b]
def KeyS.cs (k : KeyS) : List Value := [.int .i64 k.op, .string k.text, .int .i64 k.n, .bool k.f, .bool k.b]
/-- A step of its kind alone. -/
def opk (op : Int) : KeyS := ⟨op, ⟨#[]⟩, 0, false, false⟩
/-- The step that sets a line. -/
def setk (s : ByteArray) (k : Int) : KeyS := ⟨20, s, k, false, false⟩

/-- The state behind a step, and what it tells. -/
def next (st : St) (op : Int) : St × Int :=
  if op = 2 then ({ st with at_ := min (st.at_ + 1) st.l.length }, -1)
  else if op = 3 then ({ st with at_ := st.at_ - 1 }, -1)
  else if op = 4 then ({ st with at_ := 0 }, -1)
  else if op = 5 then ({ st with at_ := st.l.length }, -1)
  else if op = 6 then if st.at_ = st.l.length then (st, 0) else ({ st with l := cutAt st.l st.at_ (st.at_ + 1), kl := (st.l.drop st.at_).take 1 }, 1)
  else if op = 7 then if st.at_ = 0 then (st, -1) else ({ st with l := cutAt st.l (st.at_ - 1) st.at_, at_ := st.at_ - 1 }, -1)
  else if op = 9 then ({ st with l := [], at_ := 0, kl := st.l }, -1)
  else if op = 15 then ({ st with l := st.l.take st.at_, kl := st.l.drop st.at_ }, -1)
  else if op = 16 then if st.at_ = 0 then (st, -1) else ({ st with l := st.l.drop st.at_, at_ := 0, kl := st.l.take st.at_ }, -1)
  else if op = 17 then ({ st with l := st.l.take st.at_ ++ (st.kl ++ st.l.drop st.at_), at_ := st.at_ + st.kl.length }, -1)
  else (st, -1)
end Go.Proofs.YtlfmmmbafkelhaaDoor
