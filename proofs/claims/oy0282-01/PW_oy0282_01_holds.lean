import PyProof.Rows.All
import Wide.All
import OpenK.AllK
import Wide.FinOn
import KE.KFromBytes
import KE.KTryDeep
import KE.KTryMore
import PyProof.AttrMissHeap
import Lean
import PySem.Challenge.RW_oy0282_01
set_option Elab.async false
section
open PySem PySem.W PyProof.Rows
namespace Mine
set_option maxRecDepth 100000
set_option maxHeartbeats 8000000
/-- what is tried where a premise is left open -/
def tRfl : Lean.Syntax := (Lean.Unhygienic.run `(Lean.Parser.Tactic.tacticSeq| rfl)).raw
def tUn : Lean.Syntax := (Lean.Unhygienic.run `(Lean.Parser.Tactic.tacticSeq| with_unfolding_all rfl)).raw
def tDec : Lean.Syntax := (Lean.Unhygienic.run `(Lean.Parser.Tactic.tacticSeq| decide)).raw
def tIRfl : Lean.Syntax := (Lean.Unhygienic.run `(Lean.Parser.Tactic.tacticSeq| (intro _; rfl))).raw
def tIIRfl : Lean.Syntax := (Lean.Unhygienic.run `(Lean.Parser.Tactic.tacticSeq| (intro _ _; rfl))).raw
def tIUn : Lean.Syntax := (Lean.Unhygienic.run `(Lean.Parser.Tactic.tacticSeq| (intro _; with_unfolding_all rfl))).raw
def tIIUn : Lean.Syntax := (Lean.Unhygienic.run `(Lean.Parser.Tactic.tacticSeq| (intro _ _; with_unfolding_all rfl))).raw
def tIIIUn : Lean.Syntax := (Lean.Unhygienic.run `(Lean.Parser.Tactic.tacticSeq| (intro _ _ _; with_unfolding_all rfl))).raw
theorem memH {α : Type} {p x : α} {l : List α} (h : p = x) : p ∈ x :: l := h ▸ List.Mem.head _
/-- the text's own rows -/
noncomputable def topB : List Stmt := PySem.Challenge.rw_oy0282_01.row.prog.main.body
def fnAt (l : List Stmt) (i : Nat) : Arguments × List Stmt × Scope := match l.drop i with
  | .FunctionDef _ a b _ _ _ s _ _ _ :: _ => (a, b, s)
  | _ => (⟨[], [], none, [], [], none, []⟩, [], { kind := .function, names := [], isGenerator := false, isCoroutine := false })
def clsAt (l : List Stmt) (i : Nat) : List Stmt := match l.drop i with
  | .ClassDef _ _ _ b _ _ _ _ _ _ _ :: _ => b
  | _ => []
noncomputable def ob2 : Params → Obj := fun P => { cls := Value.none, data := Data.dict #[] }
noncomputable def ob3 : Params → Obj := fun P => { cls := Value.type "dict", data := Data.dict #[{ hash := PyData.keyHash P (Str.ofString "__name__"), key := Value.str (Str.ofString "__name__") 165, val := Value.str (Str.ofString "law_oy0282_01") 446 }, { hash := PyData.keyHash P (Str.ofString "__doc__"), key := Value.str (Str.ofString "__doc__") 166, val := Value.none }, { hash := PyData.keyHash P (Str.ofString "__package__"), key := Value.str (Str.ofString "__package__") 167, val := Value.none }, { hash := PyData.keyHash P (Str.ofString "__loader__"), key := Value.str (Str.ofString "__loader__") 168, val := Value.builtin "__main__.__loader__#opaque" }, { hash := PyData.keyHash P (Str.ofString "__spec__"), key := Value.str (Str.ofString "__spec__") 169, val := Value.none }, { hash := PyData.keyHash P (Str.ofString "__annotations__"), key := Value.str (Str.ofString "__annotations__") 170, val := Value.ref 6 }, { hash := PyData.keyHash P (Str.ofString "__builtins__"), key := Value.str (Str.ofString "__builtins__") 171, val := Value.ref 4 }, { hash := PyData.keyHash P (Str.ofString "__file__"), key := Value.str (Str.ofString "__file__") 173, val := Value.str (Str.ofString "/claim/cut.py") 172 }, { hash := PyData.keyHash P (Str.ofString "__cached__"), key := Value.str (Str.ofString "__cached__") 174, val := Value.none }, { hash := PyData.keyHash P (Str.ofString "_wall"), key := Value.str (Str.ofString "_wall") 193, val := Value.ref 21 }, { hash := PyData.keyHash P (Str.ofString "_NODE_OUT"), key := Value.str (Str.ofString "_NODE_OUT") 198, val := Value.int (-1) 197 }, { hash := PyData.keyHash P (Str.ofString "_NODE_DONE"), key := Value.str (Str.ofString "_NODE_DONE") 201, val := Value.int (-2) 200 }, { hash := PyData.keyHash P (Str.ofString "_NodeInfo"), key := Value.str (Str.ofString "_NodeInfo") 238, val := Value.ref 40 }, { hash := PyData.keyHash P (Str.ofString "CycleError"), key := Value.str (Str.ofString "CycleError") 256, val := Value.ref 55 }, { hash := PyData.keyHash P (Str.ofString "TopologicalSorter"), key := Value.str (Str.ofString "TopologicalSorter") 375, val := Value.ref 137 }, { hash := PyData.keyHash P (Str.ofString "heappush"), key := Value.str (Str.ofString "heappush") 385, val := Value.ref 148 }, { hash := PyData.keyHash P (Str.ofString "heappop"), key := Value.str (Str.ofString "heappop") 394, val := Value.ref 155 }, { hash := PyData.keyHash P (Str.ofString "_siftdown"), key := Value.str (Str.ofString "_siftdown") 406, val := Value.ref 162 }, { hash := PyData.keyHash P (Str.ofString "_siftup"), key := Value.str (Str.ofString "_siftup") 419, val := Value.ref 169 }, { hash := PyData.keyHash P (Str.ofString "_strcoll"), key := Value.str (Str.ofString "_strcoll") 429, val := Value.ref 176 }, { hash := PyData.keyHash P (Str.ofString "_strxfrm"), key := Value.str (Str.ofString "_strxfrm") 436, val := Value.ref 183 }, { hash := PyData.keyHash P (Str.ofString "_build_localename"), key := Value.str (Str.ofString "_build_localename") 445, val := Value.ref 190 }, { hash := PyData.keyHash P (Str.ofString "_law_pair"), key := Value.str (Str.ofString "_law_pair") 454, val := Value.ref 197 }, { hash := PyData.keyHash P (Str.ofString "_law_name"), key := Value.str (Str.ofString "_law_name") 461, val := Value.ref 204 }, { hash := PyData.keyHash P (Str.ofString "_law_five"), key := Value.str (Str.ofString "_law_five") 467, val := Value.ref 209 }, { hash := PyData.keyHash P (Str.ofString "_law_refused"), key := Value.str (Str.ofString "_law_refused") 475, val := Value.ref 216 }, { hash := PyData.keyHash P (Str.ofString "_law_off"), key := Value.str (Str.ofString "_law_off") 493, val := Value.ref 223 }, { hash := PyData.keyHash P (Str.ofString "_law_least"), key := Value.str (Str.ofString "_law_least") 499, val := Value.ref 228 }, { hash := PyData.keyHash P (Str.ofString "_law_order"), key := Value.str (Str.ofString "_law_order") 505, val := Value.ref 233 }, { hash := PyData.keyHash P (Str.ofString "law"), key := Value.str (Str.ofString "law") 511, val := Value.ref 238 }] 30 }
noncomputable def ob15 : Params → Obj := fun P => { cls := Value.type "tuple", data := Data.seq #[] }
noncomputable def ob17 : Params → Obj := fun P => { cls := Value.type "tuple", data := Data.seq #[Value.str (Str.ofString "k") 190] }
noncomputable def ob18 : Params → Obj := fun P => { cls := Value.type "tuple", data := Data.seq #[] }
noncomputable def ob20 : Params → Obj := fun P => { cls := Value.type "code", data := Data.fields #[Value.str (Str.ofString "_wall") 187, Value.str (Str.ofString "_wall") 188, Value.str (Str.ofString "/claim/cut.py") 189, Value.int 1 0, Value.int 1 0, Value.int 0 0, Value.int 0 0, Value.int 3 0, Value.ref 15, Value.bool true, Value.int 181 0, Value.ref 16, Value.none, Value.ref 17, Value.ref 18, Value.ref 19, Value.int 191 0, Value.int 1 0, Value.str (Str.ofString "/claim/cut.py") 192] }
noncomputable def ob21 : Params → Obj := fun P => { cls := Value.type "function", data := Data.func { name := Str.ofString "_wall", qualname := Str.ofString "_wall", params := (fnAt topB 0).1, body := FuncBody.stmts (fnAt topB 0).2.1, scope := (fnAt topB 0).2.2, globals := 3, closure := [], defaults := Value.none, kwdefaults := Value.none, pyModule := Value.str (Str.ofString "__main__") 164, code := Value.ref 20 } }
noncomputable def ob29 : Params → Obj := fun P => { cls := Value.type "tuple", data := Data.seq #[Value.str (Str.ofString "node") 214, Value.str (Str.ofString "npredecessors") 215, Value.str (Str.ofString "successors") 216] }
noncomputable def ob30 : Params → Obj := fun P => { cls := Value.type "tuple", data := Data.seq #[] }
noncomputable def ob32 : Params → Obj := fun P => { cls := Value.type "tuple", data := Data.seq #[Value.str (Str.ofString "self") 221, Value.str (Str.ofString "node") 222] }
noncomputable def ob33 : Params → Obj := fun P => { cls := Value.type "tuple", data := Data.seq #[] }
noncomputable def ob35 : Params → Obj := fun P => { cls := Value.type "code", data := Data.fields #[Value.str (Str.ofString "__init__") 218, Value.str (Str.ofString "_NodeInfo.__init__") 219, Value.str (Str.ofString "/claim/cut.py") 220, Value.int 10 0, Value.int 2 0, Value.int 0 0, Value.int 0 0, Value.int 3 0, Value.ref 30, Value.bool true, Value.int 181 0, Value.ref 31, Value.none, Value.ref 32, Value.ref 33, Value.ref 34, Value.int 223 0, Value.int 10 0, Value.str (Str.ofString "/claim/cut.py") 224] }
noncomputable def ob36 : Params → Obj := fun P => { cls := Value.type "function", data := Data.func { name := Str.ofString "__init__", qualname := Str.ofString "_NodeInfo.__init__", params := (fnAt (clsAt topB 4) 1).1, body := FuncBody.stmts (fnAt (clsAt topB 4) 1).2.1, scope := (fnAt (clsAt topB 4) 1).2.2, globals := 3, closure := [], defaults := Value.none, kwdefaults := Value.none, pyModule := Value.str (Str.ofString "cpy313.graphlib") 194, code := Value.ref 35 } }
noncomputable def ob37 : Params → Obj := fun P => { cls := Value.type "tuple", data := Data.seq #[Value.str (Str.ofString "node") 226, Value.str (Str.ofString "npredecessors") 227, Value.str (Str.ofString "successors") 228] }
noncomputable def ob39 : Params → Obj := fun P => { cls := Value.type "dict", data := Data.dict #[{ hash := PyData.keyHash P (Str.ofString "__module__"), key := Value.str (Str.ofString "__module__") 209, val := Value.str (Str.ofString "cpy313.graphlib") 194 }, { hash := PyData.keyHash P (Str.ofString "__firstlineno__"), key := Value.str (Str.ofString "__firstlineno__") 213, val := Value.int 7 212 }, { hash := PyData.keyHash P (Str.ofString "__slots__"), key := Value.str (Str.ofString "__slots__") 217, val := Value.ref 29 }, { hash := PyData.keyHash P (Str.ofString "__init__"), key := Value.str (Str.ofString "__init__") 225, val := Value.ref 36 }, { hash := PyData.keyHash P (Str.ofString "__static_attributes__"), key := Value.str (Str.ofString "__static_attributes__") 229, val := Value.ref 37 }, { hash := PyData.keyHash P (Str.ofString "node"), key := Value.str (Str.ofString "node") 231, val := Value.ref 41 }, { hash := PyData.keyHash P (Str.ofString "npredecessors"), key := Value.str (Str.ofString "npredecessors") 233, val := Value.ref 42 }, { hash := PyData.keyHash P (Str.ofString "successors"), key := Value.str (Str.ofString "successors") 235, val := Value.ref 43 }, { hash := PyData.keyHash P (Str.ofString "__doc__"), key := Value.str (Str.ofString "__doc__") 236, val := Value.none }] 5 }
noncomputable def ob40 : Params → Obj := fun P => { cls := Value.type "type", data := Data.cls { name := Str.ofString "_NodeInfo", bases := [Value.type "object"], mro := [Value.ref 40, Value.type "object"], ns := 39, qualname := Str.ofString "_NodeInfo", hasDict := false, slotNames := [Str.ofString "node", Str.ofString "npredecessors", Str.ofString "successors"] }, slots := #[none, none, some (Value.str (Str.ofString "_NodeInfo") 202), some (Value.str (Str.ofString "_NodeInfo") 210), some (Value.builtin "object.__new__"), some (Value.bool false)] }
noncomputable def ob41 : Params → Obj := fun P => { cls := Value.type "member_descriptor", data := Data.fields #[Value.str (Str.ofString "node") 230, Value.ref 40, Value.builtin "proto.slot", Value.builtin "proto.slot#set", Value.int 2 0] }
noncomputable def ob42 : Params → Obj := fun P => { cls := Value.type "member_descriptor", data := Data.fields #[Value.str (Str.ofString "npredecessors") 232, Value.ref 40, Value.builtin "proto.slot", Value.builtin "proto.slot#set", Value.int 1 0] }
noncomputable def ob43 : Params → Obj := fun P => { cls := Value.type "member_descriptor", data := Data.fields #[Value.str (Str.ofString "successors") 234, Value.ref 40, Value.builtin "proto.slot", Value.builtin "proto.slot#set", Value.int 0 0] }
noncomputable def ob46 : Params → Obj := fun P => { cls := Value.type "tuple", data := Data.seq #[Value.type "ValueError"] }
noncomputable def ob53 : Params → Obj := fun P => { cls := Value.type "tuple", data := Data.seq #[] }
noncomputable def ob54 : Params → Obj := fun P => { cls := Value.type "dict", data := Data.dict #[{ hash := PyData.keyHash P (Str.ofString "__module__"), key := Value.str (Str.ofString "__module__") 246, val := Value.str (Str.ofString "cpy313.graphlib") 194 }, { hash := PyData.keyHash P (Str.ofString "__firstlineno__"), key := Value.str (Str.ofString "__firstlineno__") 250, val := Value.int 14 249 }, { hash := PyData.keyHash P (Str.ofString "__static_attributes__"), key := Value.str (Str.ofString "__static_attributes__") 251, val := Value.ref 53 }, { hash := PyData.keyHash P (Str.ofString "__weakref__"), key := Value.str (Str.ofString "__weakref__") 253, val := Value.ref 56 }, { hash := PyData.keyHash P (Str.ofString "__doc__"), key := Value.str (Str.ofString "__doc__") 254, val := Value.none }] 3 }
noncomputable def ob55 : Params → Obj := fun P => { cls := Value.type "type", data := Data.cls { name := Str.ofString "CycleError", bases := [Value.type "ValueError"], mro := [Value.ref 55, Value.type "ValueError", Value.type "Exception", Value.type "BaseException", Value.type "object"], ns := 54, qualname := Str.ofString "CycleError" }, slots := #[some (Value.ref 46), none, some (Value.str (Str.ofString "CycleError") 239), some (Value.str (Str.ofString "CycleError") 247), some (Value.builtin "ValueError.__new__"), some (Value.bool true)] }
noncomputable def ob56 : Params → Obj := fun P => { cls := Value.type "getset_descriptor", data := Data.fields #[Value.str (Str.ofString "__weakref__") 252, Value.ref 55, Value.builtin "ExceptionGroup.__weakref__", Value.none] }
noncomputable def ob66 : Params → Obj := fun P => { cls := Value.type "tuple", data := Data.seq #[Value.none] }
noncomputable def ob67 : Params → Obj := fun P => { cls := Value.type "tuple", data := Data.seq #[] }
noncomputable def ob69 : Params → Obj := fun P => { cls := Value.type "tuple", data := Data.seq #[Value.str (Str.ofString "self") 272, Value.str (Str.ofString "graph") 273, Value.str (Str.ofString "node") 274, Value.str (Str.ofString "predecessors") 275] }
noncomputable def ob70 : Params → Obj := fun P => { cls := Value.type "tuple", data := Data.seq #[] }
noncomputable def ob72 : Params → Obj := fun P => { cls := Value.type "code", data := Data.fields #[Value.str (Str.ofString "__init__") 269, Value.str (Str.ofString "TopologicalSorter.__init__") 270, Value.str (Str.ofString "/claim/cut.py") 271, Value.int 18 0, Value.int 2 0, Value.int 0 0, Value.int 0 0, Value.int 3 0, Value.ref 67, Value.bool true, Value.int 181 0, Value.ref 68, Value.none, Value.ref 69, Value.ref 70, Value.ref 71, Value.int 276 0, Value.int 18 0, Value.str (Str.ofString "/claim/cut.py") 277] }
noncomputable def ob73 : Params → Obj := fun P => { cls := Value.type "function", data := Data.func { name := Str.ofString "__init__", qualname := Str.ofString "TopologicalSorter.__init__", params := (fnAt (clsAt topB 6) 0).1, body := FuncBody.stmts (fnAt (clsAt topB 6) 0).2.1, scope := (fnAt (clsAt topB 6) 0).2.2, globals := 3, closure := [], defaults := Value.ref 66, kwdefaults := Value.none, pyModule := Value.str (Str.ofString "cpy313.graphlib") 194, code := Value.ref 72 } }
noncomputable def ob74 : Params → Obj := fun P => { cls := Value.type "tuple", data := Data.seq #[] }
noncomputable def ob76 : Params → Obj := fun P => { cls := Value.type "tuple", data := Data.seq #[Value.str (Str.ofString "self") 282, Value.str (Str.ofString "node") 283, Value.str (Str.ofString "result") 284] }
noncomputable def ob77 : Params → Obj := fun P => { cls := Value.type "tuple", data := Data.seq #[] }
noncomputable def ob79 : Params → Obj := fun P => { cls := Value.type "code", data := Data.fields #[Value.str (Str.ofString "_get_nodeinfo") 279, Value.str (Str.ofString "TopologicalSorter._get_nodeinfo") 280, Value.str (Str.ofString "/claim/cut.py") 281, Value.int 27 0, Value.int 2 0, Value.int 0 0, Value.int 0 0, Value.int 3 0, Value.ref 74, Value.bool true, Value.int 181 0, Value.ref 75, Value.none, Value.ref 76, Value.ref 77, Value.ref 78, Value.int 285 0, Value.int 27 0, Value.str (Str.ofString "/claim/cut.py") 286] }
noncomputable def ob80 : Params → Obj := fun P => { cls := Value.type "function", data := Data.func { name := Str.ofString "_get_nodeinfo", qualname := Str.ofString "TopologicalSorter._get_nodeinfo", params := (fnAt (clsAt topB 6) 1).1, body := FuncBody.stmts (fnAt (clsAt topB 6) 1).2.1, scope := (fnAt (clsAt topB 6) 1).2.2, globals := 3, closure := [], defaults := Value.none, kwdefaults := Value.none, pyModule := Value.str (Str.ofString "cpy313.graphlib") 194, code := Value.ref 79 } }
noncomputable def ob81 : Params → Obj := fun P => { cls := Value.type "tuple", data := Data.seq #[] }
noncomputable def ob83 : Params → Obj := fun P => { cls := Value.type "tuple", data := Data.seq #[Value.str (Str.ofString "self") 291, Value.str (Str.ofString "node") 292, Value.str (Str.ofString "predecessors") 293, Value.str (Str.ofString "nodeinfo") 294, Value.str (Str.ofString "pred") 295, Value.str (Str.ofString "pred_info") 296] }
noncomputable def ob84 : Params → Obj := fun P => { cls := Value.type "tuple", data := Data.seq #[] }
noncomputable def ob86 : Params → Obj := fun P => { cls := Value.type "code", data := Data.fields #[Value.str (Str.ofString "add") 288, Value.str (Str.ofString "TopologicalSorter.add") 289, Value.str (Str.ofString "/claim/cut.py") 290, Value.int 32 0, Value.int 2 0, Value.int 0 0, Value.int 0 0, Value.int 7 0, Value.ref 81, Value.bool true, Value.int 181 0, Value.ref 82, Value.none, Value.ref 83, Value.ref 84, Value.ref 85, Value.int 297 0, Value.int 32 0, Value.str (Str.ofString "/claim/cut.py") 298] }
noncomputable def ob87 : Params → Obj := fun P => { cls := Value.type "function", data := Data.func { name := Str.ofString "add", qualname := Str.ofString "TopologicalSorter.add", params := (fnAt (clsAt topB 6) 2).1, body := FuncBody.stmts (fnAt (clsAt topB 6) 2).2.1, scope := (fnAt (clsAt topB 6) 2).2.2, globals := 3, closure := [], defaults := Value.none, kwdefaults := Value.none, pyModule := Value.str (Str.ofString "cpy313.graphlib") 194, code := Value.ref 86 } }
noncomputable def ob88 : Params → Obj := fun P => { cls := Value.type "tuple", data := Data.seq #[] }
noncomputable def ob91 : Params → Obj := fun P => { cls := Value.type "code", data := Data.fields #[Value.str (Str.ofString "prepare") 300, Value.str (Str.ofString "TopologicalSorter.prepare") 301, Value.str (Str.ofString "/claim/cut.py") 302, Value.int 41 0, Value.int 1 0, Value.int 0 0, Value.int 0 0, Value.int 3 0, Value.ref 88, Value.bool true, Value.int 181 0, Value.ref 89, Value.none, Value.none, Value.none, Value.ref 90, Value.int 303 0, Value.int 41 0, Value.str (Str.ofString "/claim/cut.py") 304] }
noncomputable def ob92 : Params → Obj := fun P => { cls := Value.type "function", data := Data.func { name := Str.ofString "prepare", qualname := Str.ofString "TopologicalSorter.prepare", params := (fnAt (clsAt topB 6) 3).1, body := FuncBody.stmts (fnAt (clsAt topB 6) 3).2.1, scope := (fnAt (clsAt topB 6) 3).2.2, globals := 3, closure := [], defaults := Value.none, kwdefaults := Value.none, pyModule := Value.str (Str.ofString "cpy313.graphlib") 194, code := Value.ref 91 } }
noncomputable def ob93 : Params → Obj := fun P => { cls := Value.type "tuple", data := Data.seq #[] }
noncomputable def ob95 : Params → Obj := fun P => { cls := Value.type "tuple", data := Data.seq #[Value.str (Str.ofString "self") 309, Value.str (Str.ofString "result") 310, Value.str (Str.ofString "n2i") 311, Value.str (Str.ofString "node") 312] }
noncomputable def ob96 : Params → Obj := fun P => { cls := Value.type "tuple", data := Data.seq #[] }
noncomputable def ob98 : Params → Obj := fun P => { cls := Value.type "code", data := Data.fields #[Value.str (Str.ofString "get_ready") 306, Value.str (Str.ofString "TopologicalSorter.get_ready") 307, Value.str (Str.ofString "/claim/cut.py") 308, Value.int 49 0, Value.int 1 0, Value.int 0 0, Value.int 0 0, Value.int 3 0, Value.ref 93, Value.bool true, Value.int 181 0, Value.ref 94, Value.none, Value.ref 95, Value.ref 96, Value.ref 97, Value.int 313 0, Value.int 49 0, Value.str (Str.ofString "/claim/cut.py") 314] }
noncomputable def ob99 : Params → Obj := fun P => { cls := Value.type "function", data := Data.func { name := Str.ofString "get_ready", qualname := Str.ofString "TopologicalSorter.get_ready", params := (fnAt (clsAt topB 6) 4).1, body := FuncBody.stmts (fnAt (clsAt topB 6) 4).2.1, scope := (fnAt (clsAt topB 6) 4).2.2, globals := 3, closure := [], defaults := Value.none, kwdefaults := Value.none, pyModule := Value.str (Str.ofString "cpy313.graphlib") 194, code := Value.ref 98 } }
noncomputable def ob100 : Params → Obj := fun P => { cls := Value.type "tuple", data := Data.seq #[] }
noncomputable def ob102 : Params → Obj := fun P => { cls := Value.type "tuple", data := Data.seq #[Value.str (Str.ofString "self") 319] }
noncomputable def ob103 : Params → Obj := fun P => { cls := Value.type "tuple", data := Data.seq #[] }
noncomputable def ob105 : Params → Obj := fun P => { cls := Value.type "code", data := Data.fields #[Value.str (Str.ofString "is_active") 316, Value.str (Str.ofString "TopologicalSorter.is_active") 317, Value.str (Str.ofString "/claim/cut.py") 318, Value.int 60 0, Value.int 1 0, Value.int 0 0, Value.int 0 0, Value.int 3 0, Value.ref 100, Value.bool true, Value.int 181 0, Value.ref 101, Value.none, Value.ref 102, Value.ref 103, Value.ref 104, Value.int 320 0, Value.int 60 0, Value.str (Str.ofString "/claim/cut.py") 321] }
noncomputable def ob106 : Params → Obj := fun P => { cls := Value.type "function", data := Data.func { name := Str.ofString "is_active", qualname := Str.ofString "TopologicalSorter.is_active", params := (fnAt (clsAt topB 6) 5).1, body := FuncBody.stmts (fnAt (clsAt topB 6) 5).2.1, scope := (fnAt (clsAt topB 6) 5).2.2, globals := 3, closure := [], defaults := Value.none, kwdefaults := Value.none, pyModule := Value.str (Str.ofString "cpy313.graphlib") 194, code := Value.ref 105 } }
noncomputable def ob107 : Params → Obj := fun P => { cls := Value.type "tuple", data := Data.seq #[] }
noncomputable def ob109 : Params → Obj := fun P => { cls := Value.type "tuple", data := Data.seq #[Value.str (Str.ofString "self") 326] }
noncomputable def ob110 : Params → Obj := fun P => { cls := Value.type "tuple", data := Data.seq #[] }
noncomputable def ob112 : Params → Obj := fun P => { cls := Value.type "code", data := Data.fields #[Value.str (Str.ofString "__bool__") 323, Value.str (Str.ofString "TopologicalSorter.__bool__") 324, Value.str (Str.ofString "/claim/cut.py") 325, Value.int 65 0, Value.int 1 0, Value.int 0 0, Value.int 0 0, Value.int 3 0, Value.ref 107, Value.bool true, Value.int 181 0, Value.ref 108, Value.none, Value.ref 109, Value.ref 110, Value.ref 111, Value.int 327 0, Value.int 65 0, Value.str (Str.ofString "/claim/cut.py") 328] }
noncomputable def ob113 : Params → Obj := fun P => { cls := Value.type "function", data := Data.func { name := Str.ofString "__bool__", qualname := Str.ofString "TopologicalSorter.__bool__", params := (fnAt (clsAt topB 6) 6).1, body := FuncBody.stmts (fnAt (clsAt topB 6) 6).2.1, scope := (fnAt (clsAt topB 6) 6).2.2, globals := 3, closure := [], defaults := Value.none, kwdefaults := Value.none, pyModule := Value.str (Str.ofString "cpy313.graphlib") 194, code := Value.ref 112 } }
noncomputable def ob114 : Params → Obj := fun P => { cls := Value.type "tuple", data := Data.seq #[] }
noncomputable def ob116 : Params → Obj := fun P => { cls := Value.type "tuple", data := Data.seq #[Value.str (Str.ofString "self") 333, Value.str (Str.ofString "nodes") 334, Value.str (Str.ofString "n2i") 335, Value.str (Str.ofString "node") 336, Value.str (Str.ofString "nodeinfo") 337, Value.str (Str.ofString "stat") 338, Value.str (Str.ofString "successor") 339, Value.str (Str.ofString "successor_info") 340] }
noncomputable def ob117 : Params → Obj := fun P => { cls := Value.type "tuple", data := Data.seq #[] }
noncomputable def ob119 : Params → Obj := fun P => { cls := Value.type "code", data := Data.fields #[Value.str (Str.ofString "done") 330, Value.str (Str.ofString "TopologicalSorter.done") 331, Value.str (Str.ofString "/claim/cut.py") 332, Value.int 68 0, Value.int 1 0, Value.int 0 0, Value.int 0 0, Value.int 7 0, Value.ref 114, Value.bool true, Value.int 181 0, Value.ref 115, Value.none, Value.ref 116, Value.ref 117, Value.ref 118, Value.int 341 0, Value.int 68 0, Value.str (Str.ofString "/claim/cut.py") 342] }
noncomputable def ob120 : Params → Obj := fun P => { cls := Value.type "function", data := Data.func { name := Str.ofString "done", qualname := Str.ofString "TopologicalSorter.done", params := (fnAt (clsAt topB 6) 7).1, body := FuncBody.stmts (fnAt (clsAt topB 6) 7).2.1, scope := (fnAt (clsAt topB 6) 7).2.2, globals := 3, closure := [], defaults := Value.none, kwdefaults := Value.none, pyModule := Value.str (Str.ofString "cpy313.graphlib") 194, code := Value.ref 119 } }
noncomputable def ob121 : Params → Obj := fun P => { cls := Value.type "tuple", data := Data.seq #[] }
noncomputable def ob123 : Params → Obj := fun P => { cls := Value.type "tuple", data := Data.seq #[Value.str (Str.ofString "self") 347, Value.str (Str.ofString "n2i") 348, Value.str (Str.ofString "stack") 349, Value.str (Str.ofString "itstack") 350, Value.str (Str.ofString "seen") 351, Value.str (Str.ofString "node2stacki") 352, Value.str (Str.ofString "node") 353] }
noncomputable def ob124 : Params → Obj := fun P => { cls := Value.type "tuple", data := Data.seq #[] }
noncomputable def ob126 : Params → Obj := fun P => { cls := Value.type "code", data := Data.fields #[Value.str (Str.ofString "_find_cycle") 344, Value.str (Str.ofString "TopologicalSorter._find_cycle") 345, Value.str (Str.ofString "/claim/cut.py") 346, Value.int 91 0, Value.int 1 0, Value.int 0 0, Value.int 0 0, Value.int 3 0, Value.ref 121, Value.bool true, Value.int 181 0, Value.ref 122, Value.none, Value.ref 123, Value.ref 124, Value.ref 125, Value.int 354 0, Value.int 91 0, Value.str (Str.ofString "/claim/cut.py") 355] }
noncomputable def ob127 : Params → Obj := fun P => { cls := Value.type "function", data := Data.func { name := Str.ofString "_find_cycle", qualname := Str.ofString "TopologicalSorter._find_cycle", params := (fnAt (clsAt topB 6) 8).1, body := FuncBody.stmts (fnAt (clsAt topB 6) 8).2.1, scope := (fnAt (clsAt topB 6) 8).2.2, globals := 3, closure := [], defaults := Value.none, kwdefaults := Value.none, pyModule := Value.str (Str.ofString "cpy313.graphlib") 194, code := Value.ref 126 } }
noncomputable def ob128 : Params → Obj := fun P => { cls := Value.type "tuple", data := Data.seq #[] }
noncomputable def ob130 : Params → Obj := fun P => { cls := Value.type "tuple", data := Data.seq #[Value.str (Str.ofString "self") 360] }
noncomputable def ob131 : Params → Obj := fun P => { cls := Value.type "tuple", data := Data.seq #[] }
noncomputable def ob133 : Params → Obj := fun P => { cls := Value.type "code", data := Data.fields #[Value.str (Str.ofString "static_order") 357, Value.str (Str.ofString "TopologicalSorter.static_order") 358, Value.str (Str.ofString "/claim/cut.py") 359, Value.int 120 0, Value.int 1 0, Value.int 0 0, Value.int 0 0, Value.int 3 0, Value.ref 128, Value.bool true, Value.int 181 0, Value.ref 129, Value.none, Value.ref 130, Value.ref 131, Value.ref 132, Value.int 361 0, Value.int 120 0, Value.str (Str.ofString "/claim/cut.py") 362] }
noncomputable def ob134 : Params → Obj := fun P => { cls := Value.type "function", data := Data.func { name := Str.ofString "static_order", qualname := Str.ofString "TopologicalSorter.static_order", params := (fnAt (clsAt topB 6) 9).1, body := FuncBody.stmts (fnAt (clsAt topB 6) 9).2.1, scope := (fnAt (clsAt topB 6) 9).2.2, globals := 3, closure := [], defaults := Value.none, kwdefaults := Value.none, pyModule := Value.str (Str.ofString "cpy313.graphlib") 194, code := Value.ref 133 } }
noncomputable def ob135 : Params → Obj := fun P => { cls := Value.type "tuple", data := Data.seq #[Value.str (Str.ofString "_nfinished") 364, Value.str (Str.ofString "_node2info") 365, Value.str (Str.ofString "_npassedout") 366, Value.str (Str.ofString "_ready_nodes") 367] }
noncomputable def ob136 : Params → Obj := fun P => { cls := Value.type "dict", data := Data.dict #[{ hash := PyData.keyHash P (Str.ofString "__module__"), key := Value.str (Str.ofString "__module__") 264, val := Value.str (Str.ofString "cpy313.graphlib") 194 }, { hash := PyData.keyHash P (Str.ofString "__firstlineno__"), key := Value.str (Str.ofString "__firstlineno__") 268, val := Value.int 16 267 }, { hash := PyData.keyHash P (Str.ofString "__init__"), key := Value.str (Str.ofString "__init__") 278, val := Value.ref 73 }, { hash := PyData.keyHash P (Str.ofString "_get_nodeinfo"), key := Value.str (Str.ofString "_get_nodeinfo") 287, val := Value.ref 80 }, { hash := PyData.keyHash P (Str.ofString "add"), key := Value.str (Str.ofString "add") 299, val := Value.ref 87 }, { hash := PyData.keyHash P (Str.ofString "prepare"), key := Value.str (Str.ofString "prepare") 305, val := Value.ref 92 }, { hash := PyData.keyHash P (Str.ofString "get_ready"), key := Value.str (Str.ofString "get_ready") 315, val := Value.ref 99 }, { hash := PyData.keyHash P (Str.ofString "is_active"), key := Value.str (Str.ofString "is_active") 322, val := Value.ref 106 }, { hash := PyData.keyHash P (Str.ofString "__bool__"), key := Value.str (Str.ofString "__bool__") 329, val := Value.ref 113 }, { hash := PyData.keyHash P (Str.ofString "done"), key := Value.str (Str.ofString "done") 343, val := Value.ref 120 }, { hash := PyData.keyHash P (Str.ofString "_find_cycle"), key := Value.str (Str.ofString "_find_cycle") 356, val := Value.ref 127 }, { hash := PyData.keyHash P (Str.ofString "static_order"), key := Value.str (Str.ofString "static_order") 363, val := Value.ref 134 }, { hash := PyData.keyHash P (Str.ofString "__static_attributes__"), key := Value.str (Str.ofString "__static_attributes__") 368, val := Value.ref 135 }, { hash := PyData.keyHash P (Str.ofString "__dict__"), key := Value.str (Str.ofString "__dict__") 370, val := Value.ref 138 }, { hash := PyData.keyHash P (Str.ofString "__weakref__"), key := Value.str (Str.ofString "__weakref__") 372, val := Value.ref 139 }, { hash := PyData.keyHash P (Str.ofString "__doc__"), key := Value.str (Str.ofString "__doc__") 373, val := Value.none }] 4 }
noncomputable def ob137 : Params → Obj := fun P => { cls := Value.type "type", data := Data.cls { name := Str.ofString "TopologicalSorter", bases := [Value.type "object"], mro := [Value.ref 137, Value.type "object"], ns := 136, qualname := Str.ofString "TopologicalSorter" }, slots := #[none, none, some (Value.str (Str.ofString "TopologicalSorter") 257), some (Value.str (Str.ofString "TopologicalSorter") 265), some (Value.builtin "object.__new__"), some (Value.bool true)] }
noncomputable def ob138 : Params → Obj := fun P => { cls := Value.type "getset_descriptor", data := Data.fields #[Value.str (Str.ofString "__dict__") 369, Value.ref 137, Value.builtin "function.__dict__", Value.builtin "function.__dict__#set"] }
noncomputable def ob139 : Params → Obj := fun P => { cls := Value.type "getset_descriptor", data := Data.fields #[Value.str (Str.ofString "__weakref__") 371, Value.ref 137, Value.builtin "ExceptionGroup.__weakref__", Value.none] }
noncomputable def ob142 : Params → Obj := fun P => { cls := Value.type "tuple", data := Data.seq #[] }
noncomputable def ob144 : Params → Obj := fun P => { cls := Value.type "tuple", data := Data.seq #[Value.str (Str.ofString "heap") 381, Value.str (Str.ofString "item") 382] }
noncomputable def ob145 : Params → Obj := fun P => { cls := Value.type "tuple", data := Data.seq #[] }
noncomputable def ob147 : Params → Obj := fun P => { cls := Value.type "code", data := Data.fields #[Value.str (Str.ofString "heappush") 378, Value.str (Str.ofString "heappush") 379, Value.str (Str.ofString "/claim/cut.py") 380, Value.int 123 0, Value.int 2 0, Value.int 0 0, Value.int 0 0, Value.int 3 0, Value.ref 142, Value.bool true, Value.int 181 0, Value.ref 143, Value.none, Value.ref 144, Value.ref 145, Value.ref 146, Value.int 383 0, Value.int 123 0, Value.str (Str.ofString "/claim/cut.py") 384] }
noncomputable def ob148 : Params → Obj := fun P => { cls := Value.type "function", data := Data.func { name := Str.ofString "heappush", qualname := Str.ofString "heappush", params := (fnAt topB 8).1, body := FuncBody.stmts (fnAt topB 8).2.1, scope := (fnAt topB 8).2.2, globals := 3, closure := [], defaults := Value.none, kwdefaults := Value.none, pyModule := Value.str (Str.ofString "cpy313.heapq") 376, code := Value.ref 147 } }
noncomputable def ob149 : Params → Obj := fun P => { cls := Value.type "tuple", data := Data.seq #[] }
noncomputable def ob151 : Params → Obj := fun P => { cls := Value.type "tuple", data := Data.seq #[Value.str (Str.ofString "heap") 389, Value.str (Str.ofString "lastelt") 390, Value.str (Str.ofString "returnitem") 391] }
noncomputable def ob152 : Params → Obj := fun P => { cls := Value.type "tuple", data := Data.seq #[] }
noncomputable def ob154 : Params → Obj := fun P => { cls := Value.type "code", data := Data.fields #[Value.str (Str.ofString "heappop") 386, Value.str (Str.ofString "heappop") 387, Value.str (Str.ofString "/claim/cut.py") 388, Value.int 126 0, Value.int 1 0, Value.int 0 0, Value.int 0 0, Value.int 3 0, Value.ref 149, Value.bool true, Value.int 181 0, Value.ref 150, Value.none, Value.ref 151, Value.ref 152, Value.ref 153, Value.int 392 0, Value.int 126 0, Value.str (Str.ofString "/claim/cut.py") 393] }
noncomputable def ob155 : Params → Obj := fun P => { cls := Value.type "function", data := Data.func { name := Str.ofString "heappop", qualname := Str.ofString "heappop", params := (fnAt topB 9).1, body := FuncBody.stmts (fnAt topB 9).2.1, scope := (fnAt topB 9).2.2, globals := 3, closure := [], defaults := Value.none, kwdefaults := Value.none, pyModule := Value.str (Str.ofString "cpy313.heapq") 376, code := Value.ref 154 } }
noncomputable def ob156 : Params → Obj := fun P => { cls := Value.type "tuple", data := Data.seq #[] }
noncomputable def ob158 : Params → Obj := fun P => { cls := Value.type "tuple", data := Data.seq #[Value.str (Str.ofString "heap") 398, Value.str (Str.ofString "startpos") 399, Value.str (Str.ofString "pos") 400, Value.str (Str.ofString "newitem") 401, Value.str (Str.ofString "parentpos") 402, Value.str (Str.ofString "parent") 403] }
noncomputable def ob159 : Params → Obj := fun P => { cls := Value.type "tuple", data := Data.seq #[] }
noncomputable def ob161 : Params → Obj := fun P => { cls := Value.type "code", data := Data.fields #[Value.str (Str.ofString "_siftdown") 395, Value.str (Str.ofString "_siftdown") 396, Value.str (Str.ofString "/claim/cut.py") 397, Value.int 134 0, Value.int 3 0, Value.int 0 0, Value.int 0 0, Value.int 3 0, Value.ref 156, Value.bool true, Value.int 181 0, Value.ref 157, Value.none, Value.ref 158, Value.ref 159, Value.ref 160, Value.int 404 0, Value.int 134 0, Value.str (Str.ofString "/claim/cut.py") 405] }
noncomputable def ob162 : Params → Obj := fun P => { cls := Value.type "function", data := Data.func { name := Str.ofString "_siftdown", qualname := Str.ofString "_siftdown", params := (fnAt topB 10).1, body := FuncBody.stmts (fnAt topB 10).2.1, scope := (fnAt topB 10).2.2, globals := 3, closure := [], defaults := Value.none, kwdefaults := Value.none, pyModule := Value.str (Str.ofString "cpy313.heapq") 376, code := Value.ref 161 } }
noncomputable def ob163 : Params → Obj := fun P => { cls := Value.type "tuple", data := Data.seq #[] }
noncomputable def ob165 : Params → Obj := fun P => { cls := Value.type "tuple", data := Data.seq #[Value.str (Str.ofString "heap") 410, Value.str (Str.ofString "pos") 411, Value.str (Str.ofString "endpos") 412, Value.str (Str.ofString "startpos") 413, Value.str (Str.ofString "newitem") 414, Value.str (Str.ofString "childpos") 415, Value.str (Str.ofString "rightpos") 416] }
noncomputable def ob166 : Params → Obj := fun P => { cls := Value.type "tuple", data := Data.seq #[] }
noncomputable def ob168 : Params → Obj := fun P => { cls := Value.type "code", data := Data.fields #[Value.str (Str.ofString "_siftup") 407, Value.str (Str.ofString "_siftup") 408, Value.str (Str.ofString "/claim/cut.py") 409, Value.int 145 0, Value.int 2 0, Value.int 0 0, Value.int 0 0, Value.int 3 0, Value.ref 163, Value.bool true, Value.int 181 0, Value.ref 164, Value.none, Value.ref 165, Value.ref 166, Value.ref 167, Value.int 417 0, Value.int 145 0, Value.str (Str.ofString "/claim/cut.py") 418] }
noncomputable def ob169 : Params → Obj := fun P => { cls := Value.type "function", data := Data.func { name := Str.ofString "_siftup", qualname := Str.ofString "_siftup", params := (fnAt topB 11).1, body := FuncBody.stmts (fnAt topB 11).2.1, scope := (fnAt topB 11).2.2, globals := 3, closure := [], defaults := Value.none, kwdefaults := Value.none, pyModule := Value.str (Str.ofString "cpy313.heapq") 376, code := Value.ref 168 } }
noncomputable def ob170 : Params → Obj := fun P => { cls := Value.type "tuple", data := Data.seq #[] }
noncomputable def ob172 : Params → Obj := fun P => { cls := Value.type "tuple", data := Data.seq #[Value.str (Str.ofString "a") 425, Value.str (Str.ofString "b") 426] }
noncomputable def ob173 : Params → Obj := fun P => { cls := Value.type "tuple", data := Data.seq #[] }
noncomputable def ob175 : Params → Obj := fun P => { cls := Value.type "code", data := Data.fields #[Value.str (Str.ofString "_strcoll") 422, Value.str (Str.ofString "_strcoll") 423, Value.str (Str.ofString "/claim/cut.py") 424, Value.int 160 0, Value.int 2 0, Value.int 0 0, Value.int 0 0, Value.int 3 0, Value.ref 170, Value.bool true, Value.int 181 0, Value.ref 171, Value.none, Value.ref 172, Value.ref 173, Value.ref 174, Value.int 427 0, Value.int 160 0, Value.str (Str.ofString "/claim/cut.py") 428] }
noncomputable def ob176 : Params → Obj := fun P => { cls := Value.type "function", data := Data.func { name := Str.ofString "_strcoll", qualname := Str.ofString "_strcoll", params := (fnAt topB 13).1, body := FuncBody.stmts (fnAt topB 13).2.1, scope := (fnAt topB 13).2.2, globals := 3, closure := [], defaults := Value.none, kwdefaults := Value.none, pyModule := Value.str (Str.ofString "cpy313.locale") 420, code := Value.ref 175 } }
noncomputable def ob177 : Params → Obj := fun P => { cls := Value.type "tuple", data := Data.seq #[] }
noncomputable def ob179 : Params → Obj := fun P => { cls := Value.type "tuple", data := Data.seq #[Value.str (Str.ofString "s") 433] }
noncomputable def ob180 : Params → Obj := fun P => { cls := Value.type "tuple", data := Data.seq #[] }
noncomputable def ob182 : Params → Obj := fun P => { cls := Value.type "code", data := Data.fields #[Value.str (Str.ofString "_strxfrm") 430, Value.str (Str.ofString "_strxfrm") 431, Value.str (Str.ofString "/claim/cut.py") 432, Value.int 162 0, Value.int 1 0, Value.int 0 0, Value.int 0 0, Value.int 3 0, Value.ref 177, Value.bool true, Value.int 181 0, Value.ref 178, Value.none, Value.ref 179, Value.ref 180, Value.ref 181, Value.int 434 0, Value.int 162 0, Value.str (Str.ofString "/claim/cut.py") 435] }
noncomputable def ob183 : Params → Obj := fun P => { cls := Value.type "function", data := Data.func { name := Str.ofString "_strxfrm", qualname := Str.ofString "_strxfrm", params := (fnAt topB 14).1, body := FuncBody.stmts (fnAt topB 14).2.1, scope := (fnAt topB 14).2.2, globals := 3, closure := [], defaults := Value.none, kwdefaults := Value.none, pyModule := Value.str (Str.ofString "cpy313.locale") 420, code := Value.ref 182 } }
noncomputable def ob184 : Params → Obj := fun P => { cls := Value.type "tuple", data := Data.seq #[] }
noncomputable def ob186 : Params → Obj := fun P => { cls := Value.type "tuple", data := Data.seq #[Value.str (Str.ofString "localetuple") 440, Value.str (Str.ofString "language") 441, Value.str (Str.ofString "encoding") 442] }
noncomputable def ob187 : Params → Obj := fun P => { cls := Value.type "tuple", data := Data.seq #[] }
noncomputable def ob189 : Params → Obj := fun P => { cls := Value.type "code", data := Data.fields #[Value.str (Str.ofString "_build_localename") 437, Value.str (Str.ofString "_build_localename") 438, Value.str (Str.ofString "/claim/cut.py") 439, Value.int 164 0, Value.int 1 0, Value.int 0 0, Value.int 0 0, Value.int 3 0, Value.ref 184, Value.bool true, Value.int 181 0, Value.ref 185, Value.none, Value.ref 186, Value.ref 187, Value.ref 188, Value.int 443 0, Value.int 164 0, Value.str (Str.ofString "/claim/cut.py") 444] }
noncomputable def ob190 : Params → Obj := fun P => { cls := Value.type "function", data := Data.func { name := Str.ofString "_build_localename", qualname := Str.ofString "_build_localename", params := (fnAt topB 15).1, body := FuncBody.stmts (fnAt topB 15).2.1, scope := (fnAt topB 15).2.2, globals := 3, closure := [], defaults := Value.none, kwdefaults := Value.none, pyModule := Value.str (Str.ofString "cpy313.locale") 420, code := Value.ref 189 } }
noncomputable def ob191 : Params → Obj := fun P => { cls := Value.type "tuple", data := Data.seq #[] }
noncomputable def ob193 : Params → Obj := fun P => { cls := Value.type "tuple", data := Data.seq #[Value.str (Str.ofString "x") 451] }
noncomputable def ob194 : Params → Obj := fun P => { cls := Value.type "tuple", data := Data.seq #[] }
noncomputable def ob196 : Params → Obj := fun P => { cls := Value.type "code", data := Data.fields #[Value.str (Str.ofString "_law_pair") 448, Value.str (Str.ofString "_law_pair") 449, Value.str (Str.ofString "/claim/cut.py") 450, Value.int 176 0, Value.int 1 0, Value.int 0 0, Value.int 0 0, Value.int 3 0, Value.ref 191, Value.bool true, Value.int 181 0, Value.ref 192, Value.none, Value.ref 193, Value.ref 194, Value.ref 195, Value.int 452 0, Value.int 176 0, Value.str (Str.ofString "/claim/cut.py") 453] }
noncomputable def ob197 : Params → Obj := fun P => { cls := Value.type "function", data := Data.func { name := Str.ofString "_law_pair", qualname := Str.ofString "_law_pair", params := (fnAt topB 17).1, body := FuncBody.stmts (fnAt topB 17).2.1, scope := (fnAt topB 17).2.2, globals := 3, closure := [], defaults := Value.none, kwdefaults := Value.none, pyModule := Value.str (Str.ofString "law_oy0282_01") 446, code := Value.ref 196 } }
noncomputable def ob198 : Params → Obj := fun P => { cls := Value.type "tuple", data := Data.seq #[] }
noncomputable def ob200 : Params → Obj := fun P => { cls := Value.type "tuple", data := Data.seq #[Value.str (Str.ofString "x") 458] }
noncomputable def ob201 : Params → Obj := fun P => { cls := Value.type "tuple", data := Data.seq #[] }
noncomputable def ob203 : Params → Obj := fun P => { cls := Value.type "code", data := Data.fields #[Value.str (Str.ofString "_law_name") 455, Value.str (Str.ofString "_law_name") 456, Value.str (Str.ofString "/claim/cut.py") 457, Value.int 178 0, Value.int 1 0, Value.int 0 0, Value.int 0 0, Value.int 3 0, Value.ref 198, Value.bool true, Value.int 181 0, Value.ref 199, Value.none, Value.ref 200, Value.ref 201, Value.ref 202, Value.int 459 0, Value.int 178 0, Value.str (Str.ofString "/claim/cut.py") 460] }
noncomputable def ob204 : Params → Obj := fun P => { cls := Value.type "function", data := Data.func { name := Str.ofString "_law_name", qualname := Str.ofString "_law_name", params := (fnAt topB 18).1, body := FuncBody.stmts (fnAt topB 18).2.1, scope := (fnAt topB 18).2.2, globals := 3, closure := [], defaults := Value.none, kwdefaults := Value.none, pyModule := Value.str (Str.ofString "law_oy0282_01") 446, code := Value.ref 203 } }
noncomputable def ob205 : Params → Obj := fun P => { cls := Value.type "tuple", data := Data.seq #[] }
noncomputable def ob208 : Params → Obj := fun P => { cls := Value.type "code", data := Data.fields #[Value.str (Str.ofString "_law_five") 462, Value.str (Str.ofString "_law_five") 463, Value.str (Str.ofString "/claim/cut.py") 464, Value.int 180 0, Value.int 1 0, Value.int 0 0, Value.int 0 0, Value.int 3 0, Value.ref 205, Value.bool true, Value.int 181 0, Value.ref 206, Value.none, Value.none, Value.none, Value.ref 207, Value.int 465 0, Value.int 180 0, Value.str (Str.ofString "/claim/cut.py") 466] }
noncomputable def ob209 : Params → Obj := fun P => { cls := Value.type "function", data := Data.func { name := Str.ofString "_law_five", qualname := Str.ofString "_law_five", params := (fnAt topB 19).1, body := FuncBody.stmts (fnAt topB 19).2.1, scope := (fnAt topB 19).2.2, globals := 3, closure := [], defaults := Value.none, kwdefaults := Value.none, pyModule := Value.str (Str.ofString "law_oy0282_01") 446, code := Value.ref 208 } }
noncomputable def ob210 : Params → Obj := fun P => { cls := Value.type "tuple", data := Data.seq #[] }
noncomputable def ob212 : Params → Obj := fun P => { cls := Value.type "tuple", data := Data.seq #[Value.str (Str.ofString "thing") 471, Value.str (Str.ofString "fault") 472] }
noncomputable def ob213 : Params → Obj := fun P => { cls := Value.type "tuple", data := Data.seq #[] }
noncomputable def ob215 : Params → Obj := fun P => { cls := Value.type "code", data := Data.fields #[Value.str (Str.ofString "_law_refused") 468, Value.str (Str.ofString "_law_refused") 469, Value.str (Str.ofString "/claim/cut.py") 470, Value.int 185 0, Value.int 1 0, Value.int 0 0, Value.int 0 0, Value.int 3 0, Value.ref 210, Value.bool true, Value.int 181 0, Value.ref 211, Value.none, Value.ref 212, Value.ref 213, Value.ref 214, Value.int 473 0, Value.int 185 0, Value.str (Str.ofString "/claim/cut.py") 474] }
noncomputable def ob216 : Params → Obj := fun P => { cls := Value.type "function", data := Data.func { name := Str.ofString "_law_refused", qualname := Str.ofString "_law_refused", params := (fnAt topB 20).1, body := FuncBody.stmts (fnAt topB 20).2.1, scope := (fnAt topB 20).2.2, globals := 3, closure := [], defaults := Value.none, kwdefaults := Value.none, pyModule := Value.str (Str.ofString "law_oy0282_01") 446, code := Value.ref 215 } }
noncomputable def ob217 : Params → Obj := fun P => { cls := Value.type "tuple", data := Data.seq #[] }
noncomputable def ob219 : Params → Obj := fun P => { cls := Value.type "tuple", data := Data.seq #[Value.str (Str.ofString "names") 479, Value.str (Str.ofString "needs") 480, Value.str (Str.ofString "sorter") 481, Value.str (Str.ofString "heap") 482, Value.str (Str.ofString "order") 483, Value.str (Str.ofString "right") 484, Value.str (Str.ofString "k") 485, Value.str (Str.ofString "need") 486, Value.str (Str.ofString "ready") 487, Value.str (Str.ofString "behind") 488, Value.str (Str.ofString "name") 489, Value.str (Str.ofString "place") 490] }
noncomputable def ob220 : Params → Obj := fun P => { cls := Value.type "tuple", data := Data.seq #[] }
noncomputable def ob222 : Params → Obj := fun P => { cls := Value.type "code", data := Data.fields #[Value.str (Str.ofString "_law_off") 476, Value.str (Str.ofString "_law_off") 477, Value.str (Str.ofString "/claim/cut.py") 478, Value.int 190 0, Value.int 2 0, Value.int 0 0, Value.int 0 0, Value.int 3 0, Value.ref 217, Value.bool true, Value.int 181 0, Value.ref 218, Value.none, Value.ref 219, Value.ref 220, Value.ref 221, Value.int 491 0, Value.int 190 0, Value.str (Str.ofString "/claim/cut.py") 492] }
noncomputable def ob223 : Params → Obj := fun P => { cls := Value.type "function", data := Data.func { name := Str.ofString "_law_off", qualname := Str.ofString "_law_off", params := (fnAt topB 21).1, body := FuncBody.stmts (fnAt topB 21).2.1, scope := (fnAt topB 21).2.2, globals := 3, closure := [], defaults := Value.none, kwdefaults := Value.none, pyModule := Value.str (Str.ofString "law_oy0282_01") 446, code := Value.ref 222 } }
noncomputable def ob224 : Params → Obj := fun P => { cls := Value.type "tuple", data := Data.seq #[] }
noncomputable def ob227 : Params → Obj := fun P => { cls := Value.type "code", data := Data.fields #[Value.str (Str.ofString "_law_least") 494, Value.str (Str.ofString "_law_least") 495, Value.str (Str.ofString "/claim/cut.py") 496, Value.int 206 0, Value.int 3 0, Value.int 0 0, Value.int 0 0, Value.int 3 0, Value.ref 224, Value.bool true, Value.int 181 0, Value.ref 225, Value.none, Value.none, Value.none, Value.ref 226, Value.int 497 0, Value.int 206 0, Value.str (Str.ofString "/claim/cut.py") 498] }
noncomputable def ob228 : Params → Obj := fun P => { cls := Value.type "function", data := Data.func { name := Str.ofString "_law_least", qualname := Str.ofString "_law_least", params := (fnAt topB 22).1, body := FuncBody.stmts (fnAt topB 22).2.1, scope := (fnAt topB 22).2.2, globals := 3, closure := [], defaults := Value.none, kwdefaults := Value.none, pyModule := Value.str (Str.ofString "law_oy0282_01") 446, code := Value.ref 227 } }
noncomputable def ob229 : Params → Obj := fun P => { cls := Value.type "tuple", data := Data.seq #[] }
noncomputable def ob232 : Params → Obj := fun P => { cls := Value.type "code", data := Data.fields #[Value.str (Str.ofString "_law_order") 500, Value.str (Str.ofString "_law_order") 501, Value.str (Str.ofString "/claim/cut.py") 502, Value.int 211 0, Value.int 2 0, Value.int 0 0, Value.int 0 0, Value.int 3 0, Value.ref 229, Value.bool true, Value.int 181 0, Value.ref 230, Value.none, Value.none, Value.none, Value.ref 231, Value.int 503 0, Value.int 211 0, Value.str (Str.ofString "/claim/cut.py") 504] }
noncomputable def ob233 : Params → Obj := fun P => { cls := Value.type "function", data := Data.func { name := Str.ofString "_law_order", qualname := Str.ofString "_law_order", params := (fnAt topB 23).1, body := FuncBody.stmts (fnAt topB 23).2.1, scope := (fnAt topB 23).2.2, globals := 3, closure := [], defaults := Value.none, kwdefaults := Value.none, pyModule := Value.str (Str.ofString "law_oy0282_01") 446, code := Value.ref 232 } }
noncomputable def ob234 : Params → Obj := fun P => { cls := Value.type "tuple", data := Data.seq #[] }
noncomputable def ob237 : Params → Obj := fun P => { cls := Value.type "code", data := Data.fields #[Value.str (Str.ofString "law") 506, Value.str (Str.ofString "law") 507, Value.str (Str.ofString "/claim/cut.py") 508, Value.int 216 0, Value.int 1 0, Value.int 0 0, Value.int 0 0, Value.int 3 0, Value.ref 234, Value.bool true, Value.int 181 0, Value.ref 235, Value.none, Value.none, Value.none, Value.ref 236, Value.int 509 0, Value.int 216 0, Value.str (Str.ofString "/claim/cut.py") 510] }
noncomputable def ob238 : Params → Obj := fun P => { cls := Value.type "function", data := Data.func { name := Str.ofString "law", qualname := Str.ofString "law", params := (fnAt topB 24).1, body := FuncBody.stmts (fnAt topB 24).2.1, scope := (fnAt topB 24).2.2, globals := 3, closure := [], defaults := Value.none, kwdefaults := Value.none, pyModule := Value.str (Str.ofString "law_oy0282_01") 446, code := Value.ref 237 } }
noncomputable def Kh : Params → Frag := fun P => (nat_lit 2, ob2 P) :: (nat_lit 3, ob3 P) :: (nat_lit 15, ob15 P) :: (nat_lit 17, ob17 P) :: (nat_lit 18, ob18 P) :: (nat_lit 20, ob20 P) :: (nat_lit 21, ob21 P) :: (nat_lit 29, ob29 P) :: (nat_lit 30, ob30 P) :: (nat_lit 32, ob32 P) :: (nat_lit 33, ob33 P) :: (nat_lit 35, ob35 P) :: (nat_lit 36, ob36 P) :: (nat_lit 37, ob37 P) :: (nat_lit 39, ob39 P) :: (nat_lit 40, ob40 P) :: (nat_lit 41, ob41 P) :: (nat_lit 42, ob42 P) :: (nat_lit 43, ob43 P) :: (nat_lit 46, ob46 P) :: (nat_lit 53, ob53 P) :: (nat_lit 54, ob54 P) :: (nat_lit 55, ob55 P) :: (nat_lit 56, ob56 P) :: (nat_lit 66, ob66 P) :: (nat_lit 67, ob67 P) :: (nat_lit 69, ob69 P) :: (nat_lit 70, ob70 P) :: (nat_lit 72, ob72 P) :: (nat_lit 73, ob73 P) :: (nat_lit 74, ob74 P) :: (nat_lit 76, ob76 P) :: (nat_lit 77, ob77 P) :: (nat_lit 79, ob79 P) :: (nat_lit 80, ob80 P) :: (nat_lit 81, ob81 P) :: (nat_lit 83, ob83 P) :: (nat_lit 84, ob84 P) :: (nat_lit 86, ob86 P) :: (nat_lit 87, ob87 P) :: (nat_lit 88, ob88 P) :: (nat_lit 91, ob91 P) :: (nat_lit 92, ob92 P) :: (nat_lit 93, ob93 P) :: (nat_lit 95, ob95 P) :: (nat_lit 96, ob96 P) :: (nat_lit 98, ob98 P) :: (nat_lit 99, ob99 P) :: (nat_lit 100, ob100 P) :: (nat_lit 102, ob102 P) :: (nat_lit 103, ob103 P) :: (nat_lit 105, ob105 P) :: (nat_lit 106, ob106 P) :: (nat_lit 107, ob107 P) :: (nat_lit 109, ob109 P) :: (nat_lit 110, ob110 P) :: (nat_lit 112, ob112 P) :: (nat_lit 113, ob113 P) :: (nat_lit 114, ob114 P) :: (nat_lit 116, ob116 P) :: (nat_lit 117, ob117 P) :: (nat_lit 119, ob119 P) :: (nat_lit 120, ob120 P) :: (nat_lit 121, ob121 P) :: (nat_lit 123, ob123 P) :: (nat_lit 124, ob124 P) :: (nat_lit 126, ob126 P) :: (nat_lit 127, ob127 P) :: (nat_lit 128, ob128 P) :: (nat_lit 130, ob130 P) :: (nat_lit 131, ob131 P) :: (nat_lit 133, ob133 P) :: (nat_lit 134, ob134 P) :: (nat_lit 135, ob135 P) :: (nat_lit 136, ob136 P) :: (nat_lit 137, ob137 P) :: (nat_lit 138, ob138 P) :: (nat_lit 139, ob139 P) :: (nat_lit 142, ob142 P) :: (nat_lit 144, ob144 P) :: (nat_lit 145, ob145 P) :: (nat_lit 147, ob147 P) :: (nat_lit 148, ob148 P) :: (nat_lit 149, ob149 P) :: (nat_lit 151, ob151 P) :: (nat_lit 152, ob152 P) :: (nat_lit 154, ob154 P) :: (nat_lit 155, ob155 P) :: (nat_lit 156, ob156 P) :: (nat_lit 158, ob158 P) :: (nat_lit 159, ob159 P) :: (nat_lit 161, ob161 P) :: (nat_lit 162, ob162 P) :: (nat_lit 163, ob163 P) :: (nat_lit 165, ob165 P) :: (nat_lit 166, ob166 P) :: (nat_lit 168, ob168 P) :: (nat_lit 169, ob169 P) :: (nat_lit 170, ob170 P) :: (nat_lit 172, ob172 P) :: (nat_lit 173, ob173 P) :: (nat_lit 175, ob175 P) :: (nat_lit 176, ob176 P) :: (nat_lit 177, ob177 P) :: (nat_lit 179, ob179 P) :: (nat_lit 180, ob180 P) :: (nat_lit 182, ob182 P) :: (nat_lit 183, ob183 P) :: (nat_lit 184, ob184 P) :: (nat_lit 186, ob186 P) :: (nat_lit 187, ob187 P) :: (nat_lit 189, ob189 P) :: (nat_lit 190, ob190 P) :: (nat_lit 191, ob191 P) :: (nat_lit 193, ob193 P) :: (nat_lit 194, ob194 P) :: (nat_lit 196, ob196 P) :: (nat_lit 197, ob197 P) :: (nat_lit 198, ob198 P) :: (nat_lit 200, ob200 P) :: (nat_lit 201, ob201 P) :: (nat_lit 203, ob203 P) :: (nat_lit 204, ob204 P) :: (nat_lit 205, ob205 P) :: (nat_lit 208, ob208 P) :: (nat_lit 209, ob209 P) :: (nat_lit 210, ob210 P) :: (nat_lit 212, ob212 P) :: (nat_lit 213, ob213 P) :: (nat_lit 215, ob215 P) :: (nat_lit 216, ob216 P) :: (nat_lit 217, ob217 P) :: (nat_lit 219, ob219 P) :: (nat_lit 220, ob220 P) :: (nat_lit 222, ob222 P) :: (nat_lit 223, ob223 P) :: (nat_lit 224, ob224 P) :: (nat_lit 227, ob227 P) :: (nat_lit 228, ob228 P) :: (nat_lit 229, ob229 P) :: (nat_lit 232, ob232 P) :: (nat_lit 233, ob233 P) :: (nat_lit 234, ob234 P) :: (nat_lit 237, ob237 P) :: (nat_lit 238, ob238 P) :: []
end Mine
end
section
open PySem PySem.W PyProof.Rows PySem.Calls
set_option maxRecDepth 100000
set_option maxHeartbeats 8000000
namespace Mine
abbrev prog : Program := PySem.Challenge.rw_oy0282_01.row.prog
abbrev Led := List (Addr × Obj)
structure Pk where
  dp : Nat
  un : Nat
  gd : Option (List Code)
  outer : List Env
abbrev topC (cn : Str) (cs : Scope) (a : Addr) (ccd : Value) (cl : List (Str × Addr)) (q : Pk) (L : Addr) : Around := ktrTop q.dp q.un q.gd cn cs L a ccd cl q.outer
/-- what every walk knows of the frames below and of the top -/
structure Amb (w : World) (q : Pk) (h₀ : Heap) : Prop where
  below : ∃ A₀ base, Below A₀ base q.outer h₀
  inK : (Kh w.params).In h₀
  top : ∃ v lo mean mg mb, Top v lo mean mg mb h₀
/-- a def's contract: called on vs over the ledger news it hands back r over a ledger news' with Post -/
def Spec (w : World) (f : Addr) (dn : Nat) (vs : List Value) (news : Led) (Post : Value → Led → Prop) : Prop :=
  ∀ (q : Pk) (cn : Str) (cs : Scope) (a : Addr) (ccd : Value) (cl : List (Str × Addr)) (h₀ : Heap) (L : Addr) (m : Str → Option Value) (s : Shared) (R : Result → Shared → Prop),
    Amb w q h₀ → cs.kind = .function → Fr h₀ L s.heap m → News h₀ L s.heap news → q.dp + dn < recursionLimit → q.un + 8 * dn < cLine →
    (∀ r news' h' tk', Post r news' → Fr h₀ L h' m → News h₀ L h' news' → R (.ok (.ret r)) { s with heap := h', toks := tk' }) →
    codeAny (model prog w) (topC cn cs a ccd cl q L) (.call (.ref f) ⟨vs, []⟩) R s
/-- a body's contract -/
def Ends (g : Heap) (L : Addr) (s : Shared) (Post : Value → Led → Prop) (Qf : Flow → Shared → Prop) : Prop :=
  ∀ v news' h' tk' m', Post v news' → Fr g L h' m' → News g L h' news' → Qf (.ret v) { s with heap := h', toks := tk' } ∧ (v = .none → Qf .next { s with heap := h', toks := tk' })
theorem Ends.ret {g : Heap} {L : Addr} {s : Shared} {Post : Value → Led → Prop} {Qf : Flow → Shared → Prop} (e : Ends g L s Post Qf) {v : Value} {news' : Led} {h' : Heap} {tk' : Nat} {m' : Str → Option Value} (p : Post v news') (F : Fr g L h' m') (N : News g L h' news') : Qf (.ret v) { s with heap := h', toks := tk' } := (e v news' h' tk' m' p F N).1
theorem Ends.next {g : Heap} {L : Addr} {s : Shared} {Post : Value → Led → Prop} {Qf : Flow → Shared → Prop} (e : Ends g L s Post Qf) {news' : Led} {h' : Heap} {tk' : Nat} {m' : Str → Option Value} (p : Post .none news') (F : Fr g L h' m') (N : News g L h' news') : Qf .next { s with heap := h', toks := tk' } := (e .none news' h' tk' m' p F N).2 rfl
section
variable {w : World} {f : Addr} {dn : Nat} {vs : List Value} {news : Led} {Post : Value → Led → Prop} {name qual : Str} {params : Arguments} {body : List Stmt} {scope : Scope} {dV kV doc pm cdv ct oc : Value} {an od : Option Addr} {osl : Array (Option Value)}
/-- the body's walk, whatever the ledger behind the arguments -/
def BodyOk (w : World) (dn : Nat) (qual : Str) (body : List Stmt) (scope : Scope) (f : Addr) (cdv : Value) (binds : List (Str × Value)) (news : Led) (Post : Value → Led → Prop) : Prop :=
  ∀ (q : Pk) (g : Heap) (L : Addr) (s : Shared) (Qf : Flow → Shared → Prop), Amb w q g → Fr g L s.heap (fun y => binds.reverse.lookup y) → News g L s.heap news → q.dp + dn < recursionLimit → q.un + 8 * dn < cLine → Ends g L s Post Qf →
    wpAny (model prog w) (topC qual scope f cdv [] q L) (execs body (envOf qual scope L f cdv)) Qf (fun _ _ => False) s
theorem BodyOk.run {binds : List (Str × Value)} (h : BodyOk w dn qual body scope f cdv binds news Post) {q : Pk} {cn : Str} {cs : Scope} {a : Addr} {ccd : Value} {cl : List (Str × Addr)} {h₀ g h₁ : Heap} {L L' : Addr} {m : Str → Option Value} {s : Shared} {tk : Nat} {R : Result → Shared → Prop} {E : Value → Shared → Prop} {base : Heap} {v : Program} {lo : List Str} {mean : ExcName → Option Value} {mg mb : Str → Option Value}
    (F' : Fr g L' h₁ fun y => binds.reverse.lookup y) (N' : News g L' h₁ news) (B' : Below (topC cn cs a ccd cl q L) base (envX cn cs L a ccd cl :: q.outer) g) (X' : (Kh w.params).In g) (T' : Top v lo mean mg mb g)
    (hd : q.dp + (dn + 1) < recursionLimit) (hu : q.un + 8 * (dn + 1) < cLine)
    (hret : ∀ r news' h' tk', Post r news' → Fr h₀ L h' m → News h₀ L h' news' → R (.ok (.ret r)) { s with heap := h', toks := tk' }) :
    wpAny (model prog w) ((topC cn cs a ccd cl q L).deeper (envOf qual scope L' f cdv)) (execs body (envOf qual scope L' f cdv)) (fun fl s' => LeaveK h₀ L m g R (match fl with | .ret v => v | _ => .none) s') E { s with heap := h₁, toks := tk } := by
  refine wpAny_mono (h ⟨q.dp + 1, q.un + 3, q.gd, envX cn cs L a ccd cl :: q.outer⟩ g L' { s with heap := h₁, toks := tk } (fun fl s' => LeaveK h₀ L m g _ (match fl with | .ret v => v | _ => .none) s') ⟨⟨_, _, B'⟩, X', ⟨_, _, _, _, _, T'⟩⟩ F' N' (by show q.dp + 1 + dn < recursionLimit; omega) (by show q.un + 3 + 8 * dn < cLine; omega) ?_) (fun _ _ x => x) (fun _ _ x => x.elim)
  intro v news' h' tk' m' p F'' N''
  exact ⟨leaveK_ F'' N'' fun F3 N3 => hret v news' h' tk' p F3 N3, fun e => by subst e; exact leaveK_ F'' N'' fun F3 N3 => hret .none news' h' tk' p F3 N3⟩
theorem enter {binds : List (Str × Value)} (ho : (Kh w.params).lookup f = some ⟨oc, od, .func (fnOf name qual params body scope dV kV doc pm an cdv ct), osl⟩) (hcd : codeIn (Kh w.params) cdv qual = true)
    (hbind : ∀ s : Shared, (Kh w.params).In s.heap → BindsTo s (fnOf name qual params body scope dV kV doc pm an cdv ct) ⟨vs, []⟩ binds) (hloc : ∀ y ∈ binds, scope.names.lookup y.1 = some .local)
    (hco : scope.isCoroutine = false) (hgen : scope.isGenerator = false) (hk : scope.kind = .function) (hcell : ∀ x ∈ scope.names, x.2 ≠ .cell)
    (h : BodyOk w dn qual body scope f cdv binds news Post) : Spec w f (dn + 1) vs news Post := by
  intro q cn cs a ccd cl h₀ L m s R hA hcs F N hd hu hret
  obtain ⟨⟨A₀, base, B⟩, X, ⟨v, lo, mean, mg, mb, T⟩⟩ := hA
  exact code_def (binds := binds) (env := envX cn cs L a ccd cl) (outer := q.outer) B F X N T rfl rfl hcs ho hcd (by show q.dp < recursionLimit; omega) (hbind _ (X.keeps F.keep)) hloc (fun g L' h₁ FG F' N' B' X' T' => h.run F' N' B' X' T' hd hu hret) hco hgen hk hcell
/-- a def with a rest parameter -/
theorem enterR {us : List Value} {g₁ : Addr → Option (List (Str × Value))} {binds : Addr → List (Str × Value)} (ho : (Kh w.params).lookup f = some ⟨oc, od, .func (fnOf name qual params body scope dV kV doc pm an cdv ct), osl⟩) (hcd : codeIn (Kh w.params) cdv qual = true)
    (hv : vs.drop (params.posonlyargs.length + params.args.length) = us)
    (hp : peek1 (Kh w.params) ⟨prog, w.params⟩ (bindArgs (fnOf name qual params body scope dV kV doc pm an cdv ct) ⟨vs, []⟩) = some (({ cls := .type "tuple", data := .seq us.toArray } : Obj), g₁)) (hg : ∀ D, g₁ D = some (binds D))
    (hloc : ∀ D, ∀ y ∈ binds D, scope.names.lookup y.1 = some .local)
    (hco : scope.isCoroutine = false) (hgen : scope.isGenerator = false) (hk : scope.kind = .function) (hcell : ∀ x ∈ scope.names, x.2 ≠ .cell)
    (h : ∀ D, (∀ p ∈ news, p.1 < D) → BodyOk w dn qual body scope f cdv (binds D) ((D, ({ cls := .type "tuple", data := .seq us.toArray } : Obj)) :: news) Post) : Spec w f (dn + 1) vs news Post := by
  intro q cn cs a ccd cl h₀ L m s R hA hcs F N hd hu hret
  obtain ⟨⟨A₀, base, B⟩, X, ⟨v, lo, mean, mg, mb, T⟩⟩ := hA
  exact kp_rest (binds := binds) (env := envX cn cs L a ccd cl) (outer := q.outer) B F X N T rfl rfl hcs ho hcd (by show q.dp < recursionLimit; omega) hv hp hg hloc (fun D g L' h₁ l FG F' N' B' X' T' => (h D l).run F' N' B' X' T' hd hu hret) hco hgen hk hcell
/-- a class called -/
theorem makeS {C fI : Addr} (hm : makesIn (Kh w.params) C = true) (hi : findIn (Kh w.params) (.ref C) "__init__" = some (some (.ref fI))) (hf : isFn (Kh w.params) (.ref fI) = true)
    (h : ∀ x dx, (∀ p ∈ news, p.1 < dx) → dx < x → Spec w fI dn (.ref x :: vs) ((x, instObj C dx) :: (dx, dictOf [] 0) :: news) (fun r l => r = .none ∧ Post (.ref x) l)) : Spec w C (dn + 2) vs news Post := by
  intro q cn cs a ccd cl h₀ L m s R hA hcs F N hd hu hret
  refine make_K F N (hA.inK.keeps F.keep) hm hi (beq_iff_eq.mp hf) (fun x dx h' F' N' l1 l2 => ?_)
  refine h x dx l1 l2 ⟨q.dp + 1, q.un + (Code.builtin "type.__call__" ⟨.ref C :: vs, []⟩).cUnits, q.gd, q.outer⟩ cn cs a ccd cl h₀ L m { s with heap := h' } (InitBack x R) ⟨hA.below, hA.inK, hA.top⟩ hcs F' N' (by show q.dp + 1 + dn < _; omega) ?_ (fun r news' h'' tk' p F'' N'' => ⟨p.1, hret _ _ _ _ p.2 F'' N''⟩)
  have : (Code.builtin "type.__call__" ⟨.ref C :: vs, []⟩).cUnits ≤ 8 := by
    have e : (Code.builtin "type.__call__" ⟨.ref C :: vs, []⟩).cUnits = 1 := by rfl
    omega
  show q.un + (Code.builtin "type.__call__" ⟨.ref C :: vs, []⟩).cUnits + 8 * dn < cLine
  omega
end
/-- a ledger's part -/
theorem News.sub {h₀ h : Heap} {L : Addr} {news news' : Led} (N : News h₀ L h news) (hs : ∀ p ∈ news', p ∈ news) : News h₀ L h news' := fun p hp => N p (hs p hp)
theorem Spec.mono {w : World} {f : Addr} {dn dn' : Nat} {vs : List Value} {news : Led} {Post Post' : Value → Led → Prop} (h : Spec w f dn vs news Post) (hd : dn ≤ dn') (hp : ∀ v l, Post v l → Post' v l) : Spec w f dn' vs news Post' := by
  intro q cn cs a ccd cl h₀ L m s R hA hcs F N h1 h2 hret
  exact h q cn cs a ccd cl h₀ L m s R hA hcs F N (by omega) (by omega) fun r n' h' tk' p => hret r n' h' tk' (hp r n' p)
theorem spec_use {w : World} {f : Addr} {dn : Nat} {vs : List Value} {news news₀ : Led} {Post : Value → Led → Prop} {q : Pk} {cn : Str} {cs : Scope} {a : Addr} {ccd : Value} {cl : List (Str × Addr)} {h₀ : Heap} {L : Addr} {m : Str → Option Value} {s : Shared} {Q E : Value → Shared → Prop}
    (S : Spec w f dn vs news Post) (hA : Amb w q h₀) (hk : cs.kind = .function) (F : Fr h₀ L s.heap m) (N : News h₀ L s.heap news₀) (hs : ∀ p ∈ news, p ∈ news₀) (hd : q.dp + dn < recursionLimit) (hu : q.un + 8 * dn < cLine)
    (ret : ∀ r news' h' tk', Post r news' → Fr h₀ L h' m → News h₀ L h' news' → Q r { s with heap := h', toks := tk' }) : wpAny (model prog w) (topC cn cs a ccd cl q L) (call (.ref f) vs) Q E s :=
  wpAny_call (S q cn cs a ccd cl h₀ L m s (fun r s' => match r with | .ok (.ret v) => Q v s' | .ok _ => False | .error e => E e s') hA hk F (News.sub N hs) hd hu ret)
theorem units_lt {q : Pk} {dn : Nat} {cn : Str} {cs : Scope} {a : Addr} {ccd : Value} {cl : List (Str × Addr)} {L : Addr} (hu : q.un + 8 * dn < cLine) : (topC cn cs a ccd cl q L).units < cLine := by
  show q.un < cLine
  omega
end Mine
end
section
open PySem PySem.W PyProof.Rows PySem.Calls
set_option maxRecDepth 100000
set_option maxHeartbeats 1000000
namespace Mine
open PySem.MeetsSeq PySem.AutoSeq1
/-- `<` between two values gives a bool and leaves the state -/
def LtGives (y x : Value) (b : Bool) : Prop :=
  ∀ (prog : Program) (w : World) (A : Around) (E : Value → Shared → Prop) (s : Shared) (Q : Value → Shared → Prop), Q (.bool b) s → wpAny (model prog w) A (richCompare .Lt y x) Q E s
theorem ltGives_str (x y : Str) (t u : Tok) : LtGives (.str x t) (.str y u) (x.cps.toList < y.cps.toList) := by
  intro prog w A E s Q h
  exact richCompare_gives (op := .Lt) (typeIs_str s x t) (typeIs_str s y u) F.slot_str_lt F.entry_str_lt (F.args_str_lt_2 _ _) (gives_str_lt x y t u) (by simp [Made.takes]) h

theorem lt_loop (l b : Addr) (items items2 : Array Value) (n n2 : Nat) (j : Nat) (hj1 : j < items.size) (hj2 : j < items2.size) (c : Bool)
    (he : ∀ m (h1 : m < items.size) (h2 : m < items2.size), m < j → EqGives items[m] items2[m] true) (hne : EqGives items[j] items2[j] false) (hlt : LtGives items[j] items2[j] c) (k : Nat) :
    ∀ i : Nat, i ≤ j → j - i = k → Meets (Builtin.«list.__eq__.loop» ⟨[.ref l, .ref b, rawInt i, rawInt 0], []⟩)
      (fun _ R s => s.heap.get? l = some { cls := .type "list", dict := none, data := .seq items n, slots := #[] } ∧ s.heap.get? b = some { cls := .type "list", dict := none, data := .seq items2 n2, slots := #[] } ∧
        R (.ok (.ret (.bool c))) s) := by
  induction k with
  | zero =>
    intro i hij hk prog w A R s h
    obtain ⟨hp, g, d, tk, os⟩ := s; obtain ⟨hl, hb, h⟩ := h
    have e : i = j := by omega
    subst e
    wp_walk using wpAny_loadPart' hl, wpAny_loadPart' hb
    have hi1 : items[((i : Nat) : Int).toNat]? = some items[i] := by simp [hj1]
    have hi2 : items2[((i : Nat) : Int).toNat]? = some items2[i] := by simp [hj2]
    rw [hi1, hi2]
    refine wpAny_bind (hne prog w _ _ _ _ ?_)
    wp_walk using wpAny_loadPart' hl, wpAny_loadPart' hb
    rw [hi1, hi2]
    refine wpAny_bind (hlt prog w _ _ _ _ ?_)
    wp_walk
    exact h
  | succ k ih =>
    intro i hij hk prog w A R s h
    obtain ⟨hp, g, d, tk, os⟩ := s; obtain ⟨hl, hb, h⟩ := h
    wp_walk using wpAny_loadPart' hl, wpAny_loadPart' hb
    have hlt1 : i < items.size := by omega
    have hlt2 : i < items2.size := by omega
    have hi1 : items[((i : Nat) : Int).toNat]? = some items[i] := by simp [hlt1]
    have hi2 : items2[((i : Nat) : Int).toNat]? = some items2[i] := by simp [hlt2]
    have hc : ((i : Int) + 1) = ((i + 1 : Nat) : Int) := by push_cast; rfl
    rw [hi1, hi2]
    refine wpAny_bind (he i hlt1 hlt2 (by omega) prog w _ _ _ _ ?_)
    wp_walk
    rw [hc]
    exact ⟨plainId_quiet MeetsSeq3.plain_eq_loop _, codeAny_builtin MeetsSeq3.entry_eq_loop (by
      rw [Around.under_plainId MeetsSeq3.plain_eq_loop _]
      exact ih (i + 1) (by omega) (by omega) prog w A R _ ⟨hl, hb, h⟩)⟩

theorem list_lt_meets (l b : Addr) (items items2 : Array Value) (n n2 : Nat) (j : Nat) (hj1 : j < items.size) (hj2 : j < items2.size) (c : Bool)
    (he : ∀ m (h1 : m < items.size) (h2 : m < items2.size), m < j → EqGives items[m] items2[m] true) (hne : EqGives items[j] items2[j] false) (hlt : LtGives items[j] items2[j] c) :
    Meets (Builtin.«list.__lt__» ⟨[.ref l, .ref b], []⟩)
      (fun _ R s => s.heap.get? l = some { cls := .type "list", dict := none, data := .seq items n, slots := #[] } ∧ s.heap.get? b = some { cls := .type "list", dict := none, data := .seq items2 n2, slots := #[] } ∧
        R (.ok (.ret (.bool c))) s) := by
  intro prog w A R s h
  obtain ⟨hp, g, d, tk, os⟩ := s; obtain ⟨hl, hb, h⟩ := h
  have f3 := AutoSeq1.sub_list_list
  wp_walk using wpAny_loadPart' hl, wpAny_loadPart' hb
  exact ⟨plainId_quiet MeetsSeq3.plain_eq_loop _, codeAny_builtin MeetsSeq3.entry_eq_loop (by
    rw [Around.under_plainId MeetsSeq3.plain_eq_loop _]
    exact lt_loop l b items items2 n n2 j hj1 hj2 c he hne hlt _ 0 (by omega) rfl prog w A R _ ⟨hl, hb, h⟩)⟩

theorem lt_lists {prog : Program} {w : World} {A : Around} {E : Value → Shared → Prop} {s : Shared} {l b : Addr} {items items2 : Array Value} {n n2 : Nat} {Q : Value → Shared → Prop} (j : Nat) (hj1 : j < items.size) (hj2 : j < items2.size) (c : Bool)
    (he : ∀ m (h1 : m < items.size) (h2 : m < items2.size), m < j → EqGives items[m] items2[m] true) (hne : EqGives items[j] items2[j] false) (hlt : LtGives items[j] items2[j] c)
    (hl : s.heap.get? l = some (listOf items n)) (hb : s.heap.get? b = some (listOf items2 n2)) (hu : A.units < cLine) (h : Q (.bool c) s) : wpAny (model prog w) A (compareOp .Lt (.ref l) (.ref b)) Q E s :=
  show wpAny (model prog w) A (richCompare .Lt (.ref l) (.ref b)) Q E s from
  richCompare_meets_room (op := .Lt) ⟨_, hl, rfl⟩ ⟨_, hb, rfl⟩ F.slot_list_lt F.entry_list_lt (F.args_list_lt_2 _ _) (list_lt_meets l b items items2 n n2 j hj1 hj2 c he hne hlt) ⟨hl, hb, show (Value.bool c ≠ Value.notImplemented) ∧ Q (.bool c) s from ⟨(fun e => by cases e), h⟩⟩ hu

/-- two items of the heap: a name and a place each, the names apart -/
theorem lt_items {prog : Program} {w : World} {A : Around} {E : Value → Shared → Prop} {s : Shared} {l b : Addr} {x y : Str} {tx ty ux uy : Tok} {i k : Int} {n n2 : Nat} {Q : Value → Shared → Prop}
    (hl : s.heap.get? l = some (listOf #[.str x tx, .int i ux] n)) (hb : s.heap.get? b = some (listOf #[.str y ty, .int k uy] n2)) (hxy : x ≠ y) (hu : A.units < cLine)
    (h : Q (.bool (decide (x.cps.toList < y.cps.toList))) s) : wpAny (model prog w) A (compareOp .Lt (.ref l) (.ref b)) Q E s := by
  refine lt_lists (items := #[.str x tx, .int i ux]) (items2 := #[.str y ty, .int k uy]) 0 (by simp) (by simp) _ (fun m _ _ hm => absurd hm (Nat.not_lt_zero _)) ?_ (ltGives_str x y tx ty) hl hb hu h
  have e := SeqRoads2.EqGives.str x y tx ty
  have : (x.cps.toList == y.cps.toList) = false := by
    rw [beq_eq_false_iff_ne]
    intro q
    exact hxy (by cases x; cases y; simp only [Str.mk.injEq]; exact Array.toList_inj.mp q)
  rw [this] at e
  exact e
end Mine
end
section
open PySem PySem.W PyProof.Rows PySem.Calls
set_option maxRecDepth 100000
set_option maxHeartbeats 8000000
namespace Mine
section
variable {prog : Program} {w : World} {A : Around} {E : Value → Shared → Prop} {s : Shared} {h₀ : Heap} {L : Addr} {m : Str → Option Value} {news news' : List (Addr × Obj)}
/-- an item of a list of the ledger at a place that is not written -/
theorem itemS {value slice : PySem.Expr} {a : Addr} {l : List Value} {n : Nat} {k : Int} {u : Tok} {x : Value} {Q : Value → Shared → Prop} (N : News h₀ L s.heap news) (hm : (a, listOf l.toArray n) ∈ news) (hx : ∃ j : Nat, k = (j : Int) ∧ j < 2 ^ 62 ∧ l[j]? = some x) (h : Q x s)
    (hs : autoParam (subscripted slice false (.ref a) (.int k u) = operate [.ref a, .int k u] (getItem (.ref a) (.int k u))) tUn) (hg : autoParam (∀ r, letTemporaryGo value (.ref a) r = pure ()) tIUn) :
    wpAny (model prog w) A (subscriptTail value slice (.ref a) (.int k u)) Q E s := by
  obtain ⟨j, rfl, hj, hx⟩ := hx
  exact kim_list N hm rfl rfl (by omega) (by omega) (by simpa using hx) h hs hg
/-- a store at a place that is not written -/
theorem setS {D : Addr} {l l' : List Value} {n : Nat} {k : Int} {t : Tok} {v : Value} {Q : Unit → Shared → Prop} (F : Fr h₀ L s.heap m) (N : News h₀ L s.heap news) (e : ∃ j : Nat, k = (j : Int) ∧ j < l.length ∧ j < 2 ^ 62 ∧ l.set j v = l') (U : Upd D (listOf l.toArray n) (listOf l'.toArray n) news news')
    (h : ∀ h', Fr h₀ L h' m → News h₀ L h' news' → Q () { s with heap := h' }) : wpAny (model prog w) A (setItem (.ref D) (.int k t) v) Q E s := by
  obtain ⟨j, rfl, hj, hj2, rfl⟩ := e
  obtain ⟨pre, post, rfl, rfl, a, b⟩ := U.split
  have z := N (D, listOf l.toArray n) (List.mem_append.mpr (.inr (.head _)))
  refine ki_setAt z.1 (by omega) (by omega) (by simpa using hj) (h _ (F.change (Heap.SameBut.update ..) z.2.1 z.2.2) (ki_turn _ N a b ?_ ?_))
  · show (l.toArray).setIfInBounds ((j : Int)).toNat v = (l.set j v).toArray
    simp
  · simp
end
end Mine
namespace Mine
/-- an item of the heap: a list of a name and a place -/
def IsItem (led : Led) (a : Addr) (x : Str) (i : Int) : Prop := ∃ t u n, (a, listOf #[.str x t, .int i u] n) ∈ led
theorem IsItem.tail {led : Led} {a : Addr} {x : Str} {i : Int} {p : Addr × Obj} (h : IsItem led a x i) : IsItem (p :: led) a x i := by
  obtain ⟨t, u, n, hm⟩ := h
  exact ⟨t, u, n, List.mem_cons_of_mem _ hm⟩
def ltN (nm : Addr → Str) (a b : Addr) : Bool := decide ((nm a).cps.toList < (nm b).cps.toList)
theorem ltS {prog : Program} {w : World} {A : Around} {E : Value → Shared → Prop} {s : Shared} {h₀ : Heap} {L : Addr} {news : Led} {a b : Addr} (nm : Addr → Str) (kk : Addr → Int) {Q : Value → Shared → Prop} (N : News h₀ L s.heap news)
    (ha : IsItem news a (nm a) (kk a)) (hb : IsItem news b (nm b) (kk b)) (hxy : nm a ≠ nm b) (hu : A.units < cLine)
    (h : Q (.bool (ltN nm a b)) s) : wpAny (model prog w) A (compareOp .Lt (.ref a) (.ref b)) Q E s := by
  obtain ⟨t, u, n, ha⟩ := ha
  obtain ⟨t', u', n', hb⟩ := hb
  exact lt_items (N _ ha).1 (N _ hb).1 hxy hu h

def sdown (lt : Nat → Nat → Bool) (x : Nat) : Nat → List Nat → Nat → List Nat
  | 0, l, pos => l.set pos x
  | f + 1, l, pos => if pos = 0 then l.set pos x else
    if lt x (l.getD ((pos - 1) / 2) 0) then sdown lt x f (l.set pos (l.getD ((pos - 1) / 2) 0)) ((pos - 1) / 2) else l.set pos x
end Mine
namespace Mine
/-- a mark at which the walk halts -/
def Halt (P : Prop) : Prop := P
theorem Halt.go {P : Prop} (h : P) : Halt P := h
end Mine
namespace Mine
section
variable {prog : Program} {w : World} {A : Around} {E : Value → Shared → Prop} {Q : Flow → Shared → Prop} {s : Shared} {env : Env} {h₀ : Heap} {L : Addr}
def WAgain (h₀ : Heap) (L : Addr) (s : Shared) (J : Nat → (Str → Option Value) → Led → Prop) (n : Nat) (s₃ : Shared) : Prop :=
  ∃ h' tk m₂ news₂ n', s₃ = { s with heap := h', toks := tk } ∧ Fr h₀ L h' m₂ ∧ News h₀ L h' news₂ ∧ n' < n ∧ J n' m₂ news₂
def WStep (h₀ : Heap) (L : Addr) (s : Shared) (J : Nat → (Str → Option Value) → Led → Prop) (n : Nat) (Q : Flow → Shared → Prop) (f : Flow) (s₃ : Shared) : Prop := match f with
  | .next => WAgain h₀ L s J n s₃
  | .cont => WAgain h₀ L s J n s₃
  | .brk => Q .next s₃
  | .ret v => Q (.ret v) s₃
theorem WAgain.intro {h' : Heap} {s : Shared} {J : Nat → (Str → Option Value) → Led → Prop} {n n' tk : Nat} {m₂ : Str → Option Value} {news₂ : Led}
    (F : Fr h₀ L h' m₂) (N : News h₀ L h' news₂) (hn : n' < n) (hJ : J n' m₂ news₂) : WAgain h₀ L s J n { s with heap := h', toks := tk } :=
  ⟨h', tk, m₂, news₂, n', rfl, F, N, hn, hJ⟩
theorem While_J {test : PySem.Expr} {body orelse : List Stmt} {pos : Pos} {m : Str → Option Value} {news : Led} (J : Nat → (Str → Option Value) → Led → Prop) {n₀ : Nat}
    (F : Fr h₀ L s.heap m) (N : News h₀ L s.heap news) (hJ : J n₀ m news)
    (turn : ∀ n m₁ news₁ h₁ tk₁, Fr h₀ L h₁ m₁ → News h₀ L h₁ news₁ → J n m₁ news₁ →
      wpAny (model prog w) A (isTrue test env (eval test env)) (fun b s₂ =>
        if b = true then wpAny (model prog w) A (execs body env) (WStep h₀ L s J n Q) E s₂ else wpAny (model prog w) A (execs orelse env) Q E s₂) E { s with heap := h₁, toks := tk₁ })
    (hE : PassesOwn (model prog w) A env E := by passes_own) :
    wpAny (model prog w) A (exec (.While test body orelse pos) env) Q E s := by
  have key : ∀ n m₁ news₁ h₁ tk₁, Fr h₀ L h₁ m₁ → News h₀ L h₁ news₁ → J n m₁ news₁ → WhlRest prog w A E env test body orelse Q 0 { s with heap := h₁, toks := tk₁ } := by
    intro n
    induction n using Nat.strongRecOn with
    | ind n ih =>
      intro m₁ news₁ h₁ tk₁ F₁ N₁ J₁
      refine whl_turn (k := 0) hE (wpAny_mono (turn n m₁ news₁ h₁ tk₁ F₁ N₁ J₁) (fun b s₂ h₂ => ?_) fun _ _ e => e)
      cases b with
      | false => exact WhlIf.no rfl (by simpa using h₂)
      | true =>
        refine WhlIf.yes rfl ?_
        simp only [if_true] at h₂
        refine wpAny_mono h₂ (fun f s₃ h₃ => ?_) fun _ _ e => e
        cases f with
        | next => obtain ⟨h', tk, m₂, news₂, n', rfl, F₂, N₂, hn, J₂⟩ := h₃; exact ih n' hn m₂ news₂ h' tk F₂ N₂ J₂
        | cont => obtain ⟨h', tk, m₂, news₂, n', rfl, F₂, N₂, hn, J₂⟩ := h₃; exact ih n' hn m₂ news₂ h' tk F₂ N₂ J₂
        | brk => exact h₃
        | ret v => exact h₃
  exact whl_start 0 (key n₀ m news s.heap s.toks F N hJ)
end
end Mine
namespace Mine
theorem lenS {prog : Program} {w : World} {A : Around} {E : Value → Shared → Prop} {s : Shared} {h₀ : Heap} {L : Addr} {news : Led} {a : Addr} {l : List Value} {n : Nat} {Q : Value → Shared → Prop} (N : News h₀ L s.heap news) (hm : (a, listOf l.toArray n) ∈ news) {k : Nat} (hk : l.length = k) (hfit : k ≤ 1000)
    (h : Q (.int k (s.toks + 1)) { s with toks := s.toks + 1 + 1 }) : wpAny (model prog w) A (call (.builtin "len") [.ref a]) Q E s := by
  subst hk
  exact call_len_list ⟨_, (N _ hm).1, rfl, n, rfl⟩ (by rw [List.size_toArray]; omega) (by rw [List.size_toArray]; exact h)
/-- the length of a list of the ledger, told -/
def LenIs (l : List Value) (k : Nat) : Prop := l.length = k ∧ k ≤ 1000
theorem lenT {prog : Program} {w : World} {A : Around} {E : Value → Shared → Prop} {s : Shared} {h₀ : Heap} {L : Addr} {news : Led} {a : Addr} {l : List Value} {n k : Nat} {Q : Value → Shared → Prop} (N : News h₀ L s.heap news) (hm : (a, listOf l.toArray n) ∈ news) (hk : LenIs l k)
    (h : Q (.int k (s.toks + 1)) { s with toks := s.toks + 1 + 1 }) : wpAny (model prog w) A (call (.builtin "len") [.ref a]) Q E s := lenS N hm hk.1 hk.2 h
end Mine
namespace Mine
section
variable {prog : Program} {w : World} {A : Around} {E : Value → Shared → Prop} {s : Shared} {h₀ : Heap} {L D : Addr} {m : Str → Option Value} {news news' : Led} {l l' : List Value} {n : Nat} {x : Value}
def AppIs (l : List Value) (x : Value) (l' : List Value) : Prop := l ++ [x] = l' ∧ l.length ≤ 1000
theorem appendS {Q : Value → Shared → Prop} (F : Fr h₀ L s.heap m) (N : News h₀ L s.heap news) (e : AppIs l x l') (U : Upd D (listOf l.toArray n) (listOf l'.toArray (n + 1)) news news')
    (h : ∀ h', Fr h₀ L h' m → News h₀ L h' news' → Q .none { s with heap := h' }) : wpAny (model prog w) A (call (.builtin "list.append") [.ref D, x]) Q E s := by
  obtain ⟨rfl, hl⟩ := e
  refine append_K F N (its := l.toArray) (by simpa using U) h ?_
  rw [List.size_toArray, sizeLine_eq]; omega
def PopIs (l p : List Value) (y : Value) : Prop := l = p ++ [y] ∧ l.length ≤ 1000
theorem popS {p : List Value} {y : Value} {Q : Value → Shared → Prop} (F : Fr h₀ L s.heap m) (N : News h₀ L s.heap news) (e : PopIs l p y) (U : Upd D (listOf l.toArray n) (listOf p.toArray (n + 1)) news news')
    (h : ∀ h', Fr h₀ L h' m → News h₀ L h' news' → Q y { s with heap := h' }) : wpAny (model prog w) A (call (.builtin "list.pop") [.ref D]) Q E s := by
  obtain ⟨rfl, hl⟩ := e
  exact kl_pop F N (kpa_last y p) U (by show (p ++ [y]).length ≤ _; rw [sizeLine_eq]; omega) h
def TruthIs (l : List Value) (b : Bool) : Prop := (!l.isEmpty) = b ∧ l.length ≤ 1000
theorem truthyS {b : Bool} {Q : Bool → Shared → Prop} (N : News h₀ L s.heap news) (hm : (D, listOf l.toArray n) ∈ news) (e : TruthIs l b) (h : Q b { s with toks := s.toks + 1 + 1 }) : wpAny (model prog w) A (truthy (.ref D)) Q E s := by
  obtain ⟨rfl, hl⟩ := e
  refine wpAny_truthy_list ⟨_, (N _ hm).1, rfl, n, rfl⟩ (by rw [List.size_toArray]; omega) ?_
  cases l <;> simpa using h
end
end Mine
namespace Mine
theorem mem_head {p : Addr × Obj} {l : Led} : p ∈ p :: l := List.mem_cons_self ..
theorem mem_tail {p r : Addr × Obj} {l : Led} (h : p ∈ l) : p ∈ r :: l := List.mem_cons_of_mem _ h
end Mine
namespace Mine
theorem sub_swap {a b : Addr × Obj} {l : Led} : ∀ p ∈ a :: b :: l, p ∈ b :: a :: l := fun p hp => (List.Perm.swap b a l).mem_iff.mp hp
theorem sub_tail {a : Addr × Obj} {l : Led} : ∀ p ∈ l, p ∈ a :: l := fun _ hp => List.mem_cons_of_mem _ hp
end Mine
end
section
open PySem PySem.W PyProof.Rows PySem.Calls
namespace Mine
abbrev nodeO (dI SU : Addr) (np k : Int) (t1 t2 : Tok) : Obj := ⟨.ref 40, some dI, .plain, #[some (.int k t2), some (.int np t1), some (.ref SU)]⟩
abbrev ent (w : World) (nm : String) (k : Tok) (v : Value) : DictEntry := ⟨PyData.keyHash w.params (Str.ofString nm), .str (Str.ofString nm) k, v⟩
abbrev sortO (w : World) (k1 k2 k3 k4 : Tok) (N : Addr) (R : Value) (P F : Int) (t3 t4 : Tok) : Obj := dictOf [ent w "_node2info" k1 (.ref N), ent w "_ready_nodes" k2 R, ent w "_npassedout" k3 (.int P t3), ent w "_nfinished" k4 (.int F t4)] 4
def SortIs (w : World) (N : Addr) (R : Value) (P F : Int) (o : Obj) : Prop := ∃ k1 k2 k3 k4 t3 t4, o = sortO w k1 k2 k3 k4 N R P F t3 t4
structure SAt (w : World) (led : Led) (S DS N : Addr) (R : Value) (P F : Int) (kvs : List (Int × Value)) : Prop where
  s : (S, instObj 137 DS) ∈ led
  d : ∃ o, (DS, o) ∈ led ∧ SortIs w N R P F o
  n : ∃ o, (N, o) ∈ led ∧ o.IsDictOf (intKind prog w) kvs
  lo : (N == sysModules) = false
end Mine
end
section
open PySem PySem.W PyProof.Rows PySem.Calls
set_option maxRecDepth 100000
set_option maxHeartbeats 8000000
namespace Mine
example : PySem.Challenge.rw_oy0282_01 = PySem.Challenge.rw_oy0282_01 ∧ Mine.Kh = Mine.Kh := by k_fill; exact ⟨rfl, rfl⟩

local macro_rules | `(tactic| k_all) => `(tactic| assumption)
local macro_rules | `(tactic| walk_at "exec While Compare cons nil") => `(tactic| change Halt _)
local macro_rules | `(tactic| walk_at "eval Name") => `(tactic| (k_here; k_dflt (refine' ld ?k1 ?k2 ?_; (case k1 => k_asm); (case k2 => first | exact rfl | assumption); k_whole)))
local macro_rules | `(tactic| k_mem) => `(tactic| first | assumption | exact mem_head | (refine' mem_tail ?_; k_mem))
example : True := by
  k_with "subscriptTail" => ((with_reducible show wpAny _ _ (subscriptTail _ _ (Value.ref _) (Value.int _ _)) _ _ _); k_dflt (refine' itemS ?N ?hm ?hx ?_; (case N => k_asm); (case hx => assumption); (case hm => k_mem)))
  k_with "setItem ref int ref" => (k_dflt (refine' setS ?F ?N ?e ?U ?_; (case F => k_asm); (case N => k_asm); (case e => assumption); (case U => k_upd)); intro h' F' N'; (try dsimp only))
  k_with "compareOp Lt ref ref" => (k_dflt (refine' ltS _ _ ?N ?a ?b ?n ?u ?_; (case N => k_asm); (case a => assumption); (case b => assumption); (case n => assumption); (case u => exact units_lt (by assumption))))
  k_with "call builtin:len" => ((with_reducible show wpAny _ _ (call (Value.builtin "len") [Value.ref _]) _ _ _); k_dflt (refine' lenT ?N ?hm ?hk ?_; (case N => k_asm); (case hm => k_mem); (case hk => assumption)))
  k_with "call ref" => (k_dflt (refine' spec_use ?S ?A ?k ?F ?N ?s ?d ?u ?_; (case A => assumption); (case S => first | assumption | exact hCa _ | exact hCa _ _ | exact hCa _ _ _ | exact hCb _ | exact hCb _ _ | exact hCb _ _ _); (case k => exact rfl); (case F => k_asm); (case N => k_asm); (case s => first | exact fun _ h => h | exact sub_swap | exact sub_tail | assumption); (case d => omega); (case u => omega)); intro r9 l9 h9 tk9 hp9 hF9 hN9; (try k_extra "post"); (try dsimp only))
  k_with "call builtin:list.append" => ((with_reducible show wpAny _ _ (call (Value.builtin _) [Value.ref _, _]) _ _ _); k_dflt (refine' appendS ?F ?N ?e ?U ?_; (case F => k_asm); (case N => k_asm); (case e => assumption); (case U => k_upd)); intro h' F' N'; (try dsimp only))
  k_with "call builtin:list.pop" => ((with_reducible show wpAny _ _ (call (Value.builtin _) [Value.ref _]) _ _ _); k_dflt (refine' popS ?F ?N ?e ?U ?_; (case F => k_asm); (case N => k_asm); (case e => assumption); (case U => k_upd)); intro h' F' N'; (try dsimp only))
  k_with "truthy ref" => (k_dflt (refine' truthyS ?N ?hm ?e ?_; (case N => k_asm); (case e => assumption); (case hm => k_mem)))
  k_with "getMethod ref" => ((with_reducible show wpAny _ _ (getMethod (Value.ref _) (Str.ofString "get") _) _ _ _); k_dflt (refine kdg_method (knd := PySem.intKind _ _) (by k_asm) (by k_mem) (by k_asm) ?_))
  k_with "call builtin:dict.get" => (k_dflt (refine' kdg_get1 (knd := PySem.intKind _ _) ?N ?m ?d ?lo (intKind_is _ _ _ _) _ ?v ?_; (case N => k_asm); (case v => assumption); (case m => k_mem); (case d => k_asm); (case lo => k_asm)); (try dsimp only [Option.getD]))
  k_with "subscriptTail" => ((with_reducible show wpAny _ _ (subscriptTail _ _ (Value.ref _) (Value.int _ _)) _ _ _); k_dflt (refine' kda_item (knd := PySem.intKind _ _) ?N ?m ?d (intKind_is _ _ _ _) ?v ?_; (case N => k_asm); (case m => k_mem); (case d => k_asm); (case v => assumption)))
  k_with "setItem ref int ref" => (k_dflt (refine' kda_set (knd := PySem.intKind _ _) ?F ?N ?U ?d (intKind_is _ _ _ _) ?z ?_; (case F => k_asm); (case N => k_asm); (case U => k_updF); (case d => k_asm); (case z => rw [sizeLine_eq]; omega)); intro h' o' F' N' hd'; (try dsimp only at N'))
  k_with "post" => (obtain ⟨rfl, rfl⟩ := hp9)
  k_with "WStep" => (dsimp only [WStep])
  trivial

theorem nodeinit_spec (w : World) (x dx : Addr) (k : Int) (t : Tok) (rest : Led) (h1 : ∀ p ∈ rest, p.1 < dx) (h2 : dx < x) :
  Spec w 36 1 [.ref x, .int k t] ((x, instObj 40 dx) :: (dx, dictOf [] 0) :: rest) (fun r n' => r = .none ∧ ∃ SU t1, n' = (SU, listOf #[] 0) :: (x, nodeO dx SU 0 k t1 t) :: (dx, dictOf [] 0) :: rest ∧ x < SU ∧ dx < SU ∧ AllLt SU rest) := by
  k_dflt (refine' enter (binds := [(Str.ofString "self", .ref x), (Str.ofString "node", .int k t)]) ?k6 ?k7 ?k9 ?kB ?c2 ?c3 ?c4 ?c5 ?_; (case k6 => k_is); (case k7 => k_is); (case k9 => exact fun _ _ => BindsTo.of_eq rfl); (case c5 => decide); (case kB => exact locs rfl); (case c2 => exact rfl); (case c3 => exact rfl); (case c4 => exact rfl); k_whole; intro q g L s Qf hA hF hN hdp hun hend; (have hX := hA.inK); (obtain ⟨v₀, lo, mean, mg, mb, hT⟩ := hA.top); (try dsimp only))

  have hx1 : ∀ p ∈ rest, p.1 ≠ x := fun p hp => Nat.ne_of_lt (Nat.lt_trans (h1 p hp) h2)
  have h2' : @LT.lt Nat _ dx x := h2
  k_steps
  exact hend.next ⟨rfl, _, _, rfl, by assumption⟩ (by k_asm) (by k_asm)
theorem init_spec (w : World) (x dx : Addr) (rest : Led) (h1 : ∀ p ∈ rest, p.1 < dx) (h2 : dx < x) :
  Spec w 73 1 [.ref x] ((x, instObj 137 dx) :: (dx, dictOf [] 0) :: rest) (fun r n' => r = .none ∧ ∃ N o oN, n' = (N, oN) :: (x, instObj 137 dx) :: (dx, o) :: rest ∧ SortIs w N .none 0 0 o ∧ oN.IsDictOf (intKind prog w) [] ∧ (N == sysModules) = false ∧ x < N ∧ dx < N ∧ AllLt N rest) := by
  k_dflt (refine' enter (binds := [(Str.ofString "self", .ref x), (Str.ofString "graph", .none)]) ?k6 ?k7 ?k9 ?kB ?c2 ?c3 ?c4 ?c5 ?_; (case k6 => k_is); (case k7 => k_is); (case k9 => intro s X; exact binds_K X rfl (by k_is) rfl rfl rfl); (case c5 => decide); (case kB => exact locs rfl); (case c2 => exact rfl); (case c3 => exact rfl); (case c4 => exact rfl); k_whole; intro q g L s Qf hA hF hN hdp hun hend; (have hX := hA.inK); (obtain ⟨v₀, lo, mean, mg, mb, hT⟩ := hA.top); (try dsimp only))

  have h2' : @LT.lt Nat _ dx x := h2
  k_steps
  exact hend.next ⟨rfl, _, _, _, rfl, ⟨_, _, _, _, _, _, rfl⟩, by assumption, by assumption, by assumption⟩ (by k_asm) (by k_asm)
theorem getnode_hit (w : World) (S DS N I : Addr) (k : Int) (t : Tok) (R : Value) (P Fi : Int) (kvs : List (Int × Value)) (led : Led) (hS : SAt w led S DS N R P Fi kvs) (hk : valueAt kvs k = some (.ref I)) :
  Spec w 80 1 [.ref S, .int k t] led (fun r n' => r = .ref I ∧ n' = led) := by
  obtain ⟨hs, ⟨_, hd, k1, k2, k3, k4, t3, t4, rfl⟩, ⟨oN, hn, hdict⟩, hlo⟩ := hS
  k_dflt (refine' enter (binds := [(Str.ofString "self", .ref S), (Str.ofString "node", .int k t)]) ?k6 ?k7 ?k9 ?kB ?c2 ?c3 ?c4 ?c5 ?_; (case k6 => k_is); (case k7 => k_is); (case k9 => exact fun _ _ => BindsTo.of_eq rfl); (case c5 => decide); (case kB => exact locs rfl); (case c2 => exact rfl); (case c3 => exact rfl); (case c4 => exact rfl); k_whole; intro q g L s Qf hA hF hN hdp hun hend; (have hX := hA.inK); (obtain ⟨v₀, lo, mean, mg, mb, hT⟩ := hA.top); (try dsimp only))

  k_steps
  exact hend.ret ⟨rfl, rfl⟩ (by k_asm) (by k_asm)
theorem make_node (w : World) (k : Int) (t : Tok) (led : Led) :
  Spec w 40 3 [.int k t] led (fun r n' => ∃ SU I dI t1, r = .ref I ∧ n' = (SU, listOf #[] 0) :: (I, nodeO dI SU 0 k t1 t) :: (dI, dictOf [] 0) :: led ∧ (∀ p ∈ led, p.1 < dI) ∧ dI < I ∧ I < SU) := by
  k_dflt (refine' makeS ?a ?b ?c ?d; (case a => k_is); (case b => k_is); (case c => k_is))
  intro x dx h1 h2
  refine (nodeinit_spec w x dx k t led h1 h2).mono (Nat.le_refl _) ?_
  rintro v l ⟨rfl, SU, t1, rfl, h3, _⟩
  exact ⟨rfl, SU, x, dx, t1, rfl, rfl, h1, h2, h3⟩
theorem make_sorter (w : World) (led : Led) :
  Spec w 137 3 [] led (fun r n' => ∃ S DS N o oN, r = .ref S ∧ n' = (N, oN) :: (S, instObj 137 DS) :: (DS, o) :: led ∧ SortIs w N .none 0 0 o ∧ oN.IsDictOf (intKind prog w) [] ∧ (N == sysModules) = false ∧ (∀ p ∈ led, p.1 < DS) ∧ DS < S ∧ S < N) := by
  k_dflt (refine' makeS ?a ?b ?c ?d; (case a => k_is); (case b => k_is); (case c => k_is))
  intro x dx h1 h2
  refine (init_spec w x dx led h1 h2).mono (Nat.le_refl _) ?_
  rintro v l ⟨rfl, N, o, oN, rfl, h3, h4, h5, h6, _⟩
  exact ⟨rfl, x, dx, N, o, oN, rfl, rfl, h3, h4, h5, h1, h2, h6⟩
theorem getnode_miss (w : World) (S DS N : Addr) (k : Int) (t : Tok) (R : Value) (P Fi : Int) (kvs : List (Int × Value)) (oS oN : Obj) (rest : Led) (hs : (S, instObj 137 DS) ∈ rest) (hd : (DS, oS) ∈ rest) (hSo : SortIs w N R P Fi oS) (hdict : oN.IsDictOf (intKind prog w) kvs) (hlo : (N == sysModules) = false) (hrest : ∀ p ∈ rest, p.1 ≠ N)
  (hz : kvs.length ≤ 100) (hk : valueAt kvs k = none) :
  Spec w 80 4 [.ref S, .int k t] ((N, oN) :: rest) (fun r n' => ∃ SU I dI t1 oN', r = .ref I ∧ n' = (SU, listOf #[] 0) :: (I, nodeO dI SU 0 k t1 t) :: (dI, dictOf [] 0) :: (N, oN') :: rest ∧ oN'.IsDictOf (intKind prog w) (stored kvs k (.ref I)) ∧ (∀ p ∈ (N, oN) :: rest, p.1 < dI) ∧ dI < I ∧ I < SU) := by
  obtain ⟨k1, k2, k3, k4, t3, t4, rfl⟩ := hSo
  k_dflt (refine' enter (binds := [(Str.ofString "self", .ref S), (Str.ofString "node", .int k t)]) ?k6 ?k7 ?k9 ?kB ?c2 ?c3 ?c4 ?c5 ?_; (case k6 => k_is); (case k7 => k_is); (case k9 => exact fun _ _ => BindsTo.of_eq rfl); (case c5 => decide); (case kB => exact locs rfl); (case c2 => exact rfl); (case c3 => exact rfl); (case c4 => exact rfl); k_whole; intro q g L s Qf hA hF hN hdp hun hend; (have hX := hA.inK); (obtain ⟨v₀, lo, mean, mg, mb, hT⟩ := hA.top); (try dsimp only))

  have hCa := fun t => make_node w k t ((N, oN) :: rest)
  k_with "post" => (obtain ⟨SU, I, dI, t1, rfl, rfl, h1, h2, h3⟩ := hp9; (have h4 := allLt_of h1); (simp only [AllLt] at h4); (have h2' := PySem.W.ltN h2); (have h3' := PySem.W.ltN h3))
  k_steps
  exact hend.ret ⟨_, _, _, _, _, rfl, rfl, by assumption, h1, h2, h3⟩ (by k_asm) (by k_asm)

end Mine
end
section
open PySem PySem.W PyProof.Rows PySem.Calls
namespace Mine
abbrev tupO (vs : List Value) : Obj := { cls := .type "tuple", data := .seq vs.toArray }
end Mine
end
section
open PySem PySem.W PyProof.Rows PySem.Calls
set_option maxRecDepth 100000
set_option maxHeartbeats 8000000
namespace Mine
set_option linter.unusedVariables false
def AreN : List Value → List Nat → Prop
  | [], [] => True
  | v :: vs, k :: ks => (∃ t, v = .int (k : Int) t) ∧ AreN vs ks
  | _, _ => False
theorem AreN.len : ∀ {vs : List Value} {l : List Nat}, AreN vs l → vs.length = l.length
  | [], [], _ => rfl
  | _ :: _, _ :: _, h => by simp [AreN.len h.2]
theorem AreN.get : ∀ {vs : List Value} {l : List Nat} {i : Nat} {v : Value}, AreN vs l → vs[i]? = some v → ∃ k t, l[i]? = some k ∧ v = .int (k : Int) t
  | _ :: _, k :: _, 0, v, h, e => by obtain ⟨⟨t, rfl⟩, _⟩ := h; exact ⟨k, t, rfl, (Option.some.inj e).symm⟩
  | _ :: _, _ :: _, i + 1, v, h, e => AreN.get (i := i) h.2 e
theorem AreN.app : ∀ {vs : List Value} {l : List Nat} (k : Nat) (t : Tok), AreN vs l → AreN (vs ++ [.int (k : Int) t]) (l ++ [k])
  | [], [], k, t, _ => ⟨⟨t, rfl⟩, trivial⟩
  | _ :: _, _ :: _, k, t, h => ⟨h.1, AreN.app k t h.2⟩
structure St where
  n : Nat
  np : Nat → Int
  su : Nat → List Nat
  rd : Option (List Nat)
  P : Int
  F : Int
structure Wires where
  S : Addr
  DS : Addr
  N : Addr
  RD : Addr
  I : Nat → Addr
  dI : Nat → Addr
  SU : Nat → Addr
def upd {α : Type} (f : Nat → α) (k : Nat) (v : α) : Nat → α := fun j => if j = k then v else f j
theorem upd_eq {α : Type} {f : Nat → α} {k : Nat} {v : α} : upd f k v k = v := by simp [upd]
theorem upd_ne {α : Type} {f : Nat → α} {k j : Nat} {v : α} (h : j ≠ k) : upd f k v j = f j := by simp [upd, h]
def kvsOf (n : Nat) (I : Nat → Addr) : List (Int × Value) := (List.range n).map fun (k : Nat) => ((k : Int), Value.ref (I k))
def St.rv (g : St) (z : Wires) : Value := match g.rd with | none => .none | some _ => .ref z.RD
structure Gs (w : World) (g : St) (z : Wires) (led : Led) : Prop where
  s : (z.S, instObj 137 z.DS) ∈ led
  d : ∃ k1 k2 k3 k4 t3 t4, (z.DS, sortO w k1 k2 k3 k4 z.N (g.rv z) g.P g.F t3 t4) ∈ led
  nn : ∃ o, (z.N, o) ∈ led ∧ o.IsDictOf (intKind prog w) (kvsOf g.n z.I)
  lo : (z.N == sysModules) = false
  sn : z.N ≠ z.DS
  node : ∀ k, k < g.n → ∃ t1 t2, (z.I k, nodeO (z.dI k) (z.SU k) (g.np k) k t1 t2) ∈ led
  nd : ∀ k, k < g.n → (z.dI k, dictOf [] 0) ∈ led
  dn : ∀ k, k < g.n → z.dI k ≠ z.N
  su : ∀ k, k < g.n → ∃ vs m, (z.SU k, listOf vs.toArray m) ∈ led ∧ AreN vs (g.su k)
  inj : ∀ j, j < g.n → ∀ k, k < g.n → z.SU j = z.SU k → j = k
  rd : ∀ l, g.rd = some l → (∃ vs m, (z.RD, listOf vs.toArray m) ∈ led ∧ AreN vs l) ∧ ∀ k, k < g.n → z.RD ≠ z.SU k
abbrev Apart (led rest : Led) : Prop := ∀ p ∈ led, ∀ r ∈ rest, p.1 ≠ r.1
def Fun (led : Led) : Prop := ∀ a o o', (a, o) ∈ led → (a, o') ∈ led → o = o'
theorem fun_of {h₀ h : Heap} {L : Addr} {N₀ led : Led} (N : News h₀ L h N₀) (hs : ∀ p ∈ led, p ∈ N₀) : Fun led := fun a o o' h1 h2 =>
  Option.some.inj ((N _ (hs _ h1)).1.symm.trans (N _ (hs _ h2)).1)
def put (led : Led) (a : Addr) (o : Obj) : Led := (a, o) :: led.filter (fun p => decide (p.1 ≠ a))
theorem put_keep {led : Led} {a b : Addr} {o o' ob : Obj} (hf : Fun led) (ha : (a, o) ∈ led) (hb : (b, ob) ∈ led) (hne : ob ≠ o) : (b, ob) ∈ put led a o' := by
  refine List.mem_cons_of_mem _ (List.mem_filter.mpr ⟨hb, decide_eq_true ?_⟩)
  intro e; exact hne (hf a ob o (e ▸ hb) ha)
theorem put_keep' {led : Led} {a b : Addr} {o' ob : Obj} (hb : (b, ob) ∈ led) (hne : b ≠ a) : (b, ob) ∈ put led a o' :=
  List.mem_cons_of_mem _ (List.mem_filter.mpr ⟨hb, decide_eq_true hne⟩)
theorem put_sub {led : Led} {a : Addr} {o : Obj} (ha : (a, o) ∈ led) : ∀ p ∈ put led a o, p ∈ led := fun p hp => by
  rcases List.mem_cons.mp hp with rfl | hp
  · exact ha
  · exact (List.mem_filter.mp hp).1
theorem put_apart {led rest : Led} {a : Addr} {o o' : Obj} (ha : (a, o) ∈ led) (ap : Apart led rest) : Apart (put led a o') rest := fun p hp r hr => by
  rcases List.mem_cons.mp hp with rfl | hp
  · exact ap (a, o) ha r hr
  · exact ap p (List.mem_filter.mp hp).1 r hr
theorem put_upd {led rest : Led} {a : Addr} {o o' : Obj} (ha : (a, o) ∈ led) (ap : Apart led rest) : Upd a o o' (put led a o ++ rest) (put led a o' ++ rest) := by
  refine .head fun p hp => ?_
  rcases List.mem_append.mp hp with hp | hp
  · exact of_decide_eq_true (List.mem_filter.mp hp).2
  · exact fun e => ap (a, o) ha p hp e.symm
theorem put_subR {led rest N₀ : Led} {a : Addr} {o : Obj} (ha : (a, o) ∈ led) (hs : ∀ p ∈ led ++ rest, p ∈ N₀) : ∀ p ∈ put led a o ++ rest, p ∈ N₀ := fun p hp => by
  rcases List.mem_append.mp hp with hp | hp
  · exact hs p (List.mem_append_left _ (put_sub ha p hp))
  · exact hs p (List.mem_append_right _ hp)
theorem dict_ne_plain {w : World} {o : Obj} {kvs : List (Int × Value)} (h : o.IsDictOf (intKind prog w) kvs) {o' : Obj} (h' : o'.data = .plain) : o ≠ o' := fun e => by
  obtain ⟨_, _, _, hd, _⟩ := h
  rw [e, h'] at hd; cases hd
theorem dict_ne_list {w : World} {o : Obj} {kvs : List (Int × Value)} (h : o.IsDictOf (intKind prog w) kvs) {its : Array Value} {m : Nat} : o ≠ listOf its m := fun e => by
  obtain ⟨_, _, _, hd, _⟩ := h
  rw [e] at hd; cases hd
theorem node_ne {d S d' S' : Addr} {np np' k k' : Int} {t1 t2 t1' t2' : Tok} (h : k ≠ k') : nodeO d S np k t1 t2 ≠ nodeO d' S' np' k' t1' t2' := fun e => by
  simp only [nodeO, Obj.mk.injEq, Array.mk.injEq, List.cons.injEq, Option.some.injEq, Value.int.injEq] at e
  exact h e.2.2.2.1.1
theorem dict_ne_lst {es : List DictEntry} {n m : Nat} {its : Array Value} : dictOf es n ≠ listOf its m := fun e => by have := congrArg Obj.data e; cases this
def St.setNp (g : St) (k : Nat) (v : Int) : St := { g with np := upd g.np k v }
theorem Gs.setNp {w : World} {g : St} {z : Wires} {led : Led} (G : Gs w g z led) (hf : Fun led) {k : Nat} (hk : k < g.n) {v : Int} {t1 t2 t1' t2' : Tok} (hm : (z.I k, nodeO (z.dI k) (z.SU k) (g.np k) k t1 t2) ∈ led) :
    Gs w (g.setNp k v) z (put led (z.I k) (nodeO (z.dI k) (z.SU k) v k t1' t2')) where
  s := put_keep hf hm G.s (by intro e; cases e)
  d := by obtain ⟨k1, k2, k3, k4, t3, t4, h⟩ := G.d; exact ⟨k1, k2, k3, k4, t3, t4, put_keep hf hm h (by intro e; cases e)⟩
  nn := by obtain ⟨o, h, ho⟩ := G.nn; exact ⟨o, put_keep hf hm h (dict_ne_plain ho rfl), ho⟩
  lo := G.lo
  sn := G.sn
  node := fun j hj => by
    by_cases e : j = k
    · subst e; exact ⟨t1', t2', by simp only [St.setNp, upd_eq]; exact List.mem_cons_self ..⟩
    · obtain ⟨a, b, h⟩ := G.node j hj
      exact ⟨a, b, by simp only [St.setNp, upd_ne e]; exact put_keep hf hm h (node_ne (by omega))⟩
  nd := fun j hj => put_keep hf hm (G.nd j hj) (by intro e; cases e)
  dn := G.dn
  su := fun j hj => by obtain ⟨vs, m, h, hv⟩ := G.su j hj; exact ⟨vs, m, put_keep hf hm h (by intro e; cases e), hv⟩
  inj := G.inj
  rd := fun l hl => by obtain ⟨⟨vs, m, h, hv⟩, h2⟩ := G.rd l hl; exact ⟨⟨vs, m, put_keep hf hm h (by intro e; cases e), hv⟩, h2⟩
def St.addSu (g : St) (k p : Nat) : St := { g with su := upd g.su k (g.su k ++ [p]) }
theorem list_ne {a b : List Value} {m m' : Nat} {o : Obj} (h : o.cls ≠ .type "list") : o ≠ listOf a.toArray m := fun e => h (by rw [e])
theorem Gs.addSu {w : World} {g : St} {z : Wires} {led : Led} (G : Gs w g z led) (hf : Fun led) {k p : Nat} (hk : k < g.n) {vs : List Value} {m m' : Nat} {t : Tok} (hm : (z.SU k, listOf vs.toArray m) ∈ led) (hv : AreN vs (g.su k)) :
    Gs w (g.addSu k p) z (put led (z.SU k) (listOf (vs ++ [Value.int (p : Int) t]).toArray m')) where
  s := put_keep hf hm G.s (by intro e; cases e)
  d := by obtain ⟨k1, k2, k3, k4, t3, t4, h⟩ := G.d; exact ⟨k1, k2, k3, k4, t3, t4, put_keep hf hm h dict_ne_lst⟩
  nn := by obtain ⟨o, h, ho⟩ := G.nn; exact ⟨o, put_keep hf hm h (dict_ne_list ho), ho⟩
  lo := G.lo
  sn := G.sn
  node := fun j hj => by
    obtain ⟨a, b, h⟩ := G.node j hj
    exact ⟨a, b, put_keep hf hm h (by intro e; cases e)⟩
  nd := fun j hj => put_keep hf hm (G.nd j hj) dict_ne_lst
  dn := G.dn
  su := fun j hj => by
    by_cases e : j = k
    · subst e; exact ⟨_, m', List.mem_cons_self .., by simp only [St.addSu, upd_eq]; exact hv.app p t⟩
    · obtain ⟨vs', m₂, h, hv'⟩ := G.su j hj
      exact ⟨vs', m₂, put_keep' h (fun c => e (G.inj j hj k hk c)), by simp only [St.addSu, upd_ne e]; exact hv'⟩
  inj := G.inj
  rd := fun l hl => by obtain ⟨⟨vs', m₂, h, hv'⟩, h2⟩ := G.rd l hl; exact ⟨⟨vs', m₂, put_keep' h (h2 k hk), hv'⟩, h2⟩
theorem valueAt_kvs {n k : Nat} {I : Nat → Addr} (h : k < n) : valueAt (kvsOf n I) (k : Int) = some (.ref (I k)) := by
  refine valueAt_of_get (i := k) ?_ ?_
  · rw [kvsOf, List.map_map]
    refine List.pairwise_map.mpr (List.nodup_range.imp ?_)
    intro a b e c; exact e (Int.ofNat_inj.mp c)
  · simp [kvsOf, h]
theorem valueAt_kvs_none {n : Nat} {I : Nat → Addr} : valueAt (kvsOf n I) (n : Int) = none := by
  simp only [valueAt, Option.map_eq_none_iff, List.find?_eq_none]
  intro x hx
  simp only [kvsOf, List.mem_map, List.mem_range] at hx
  obtain ⟨j, hj, rfl⟩ := hx
  simp; omega
theorem kvs_length {n : Nat} {I : Nat → Addr} : (kvsOf n I).length = n := by simp [kvsOf]
theorem kvs_grow {n : Nat} {I : Nat → Addr} {x : Addr} : stored (kvsOf n I) (n : Int) (.ref x) = kvsOf (n + 1) (upd I n x) := by
  have h := valueAt_kvs_none (n := n) (I := I)
  have e : kvsOf (n + 1) (upd I n x) = kvsOf n I ++ [((n : Int), .ref x)] := by
    simp only [kvsOf, List.range_succ, List.map_append, List.map_cons, List.map_nil, upd_eq]
    congr 1
    refine List.map_congr_left fun k hk => ?_
    rw [upd_ne (by have := List.mem_range.mp hk; omega)]
  rw [e]
  unfold stored
  rw [if_neg]
  intro c
  obtain ⟨y, hy, hy2⟩ := List.any_eq_true.mp c
  simp only [valueAt, Option.map_eq_none_iff, List.find?_eq_none] at h
  exact h y hy hy2

section
variable {w : World} {A : Around} {E : Value → Shared → Prop} {s : Shared} {h₀ : Heap} {L : Addr} {m : Str → Option Value} {N₀ led rest : Led} {g : St} {z : Wires} {Q : Unit → Shared → Prop} {k : Nat}
theorem setNpS {v : Int} {t : Tok} (F : Fr h₀ L s.heap m) (X : (Kh w.params).In h₀) (N : News h₀ L s.heap N₀) (hs : ∀ p ∈ led ++ rest, p ∈ N₀) (ap : Apart led rest) (G : Gs w g z led) (hk : k < g.n)
    (h : ∀ h' led', Fr h₀ L h' m → News h₀ L h' (led' ++ rest) → Apart led' rest → Gs w (g.setNp k v) z led' → (∀ a o, (a, o) ∈ led → a ≠ z.I k → (a, o) ∈ led') → Q () { s with heap := h', toks := s.toks + 1 }) :
    wpAny (model prog w) A (setAttr (.ref (z.I k)) (Str.ofString "npredecessors") (.int v t)) Q E s := by
  obtain ⟨t1, t2, hm⟩ := G.node k hk
  have hf : Fun led := fun_of N fun p hp => hs p (List.mem_append_left _ hp)
  have I := InstAt.of_news N (hs _ (List.mem_append_left _ hm)) (hs _ (List.mem_append_left _ (G.nd k hk)))
  refine' set_slot (C := 40) F X (News.sub N (put_subR hm hs)) I ?k5 ?k6 ?k7 ?k8 ?k9 ?k10 rfl ?k12 (put_upd hm ap) ?_
  case k5 => k_is
  case k6 => k_is
  case k7 => k_is
  case k8 => k_is
  case k9 => k_is
  case k10 => decide
  case k12 => exact rfl
  intro h' F' N'
  exact h h' (put led (z.I k) (nodeO (z.dI k) (z.SU k) v k t t2)) F' N' (put_apart hm ap) (G.setNp hf hk hm) fun _ _ => put_keep'
theorem addSuS {Q : Value → Shared → Prop} {p : Nat} {t : Tok} (F : Fr h₀ L s.heap m) (N : News h₀ L s.heap N₀) (hs : ∀ p ∈ led ++ rest, p ∈ N₀) (ap : Apart led rest) (G : Gs w g z led) (hk : k < g.n) (hl : (g.su k).length ≤ 100)
    (h : ∀ h' led', Fr h₀ L h' m → News h₀ L h' (led' ++ rest) → Apart led' rest → Gs w (g.addSu k p) z led' → Q .none { s with heap := h' }) :
    wpAny (model prog w) A (call (.builtin "list.append") [.ref (z.SU k), .int (p : Int) t]) Q E s := by
  obtain ⟨vs, mm, hm, hv⟩ := G.su k hk
  have hf : Fun led := fun_of N fun p hp => hs p (List.mem_append_left _ hp)
  refine appendS F (News.sub N (put_subR hm hs)) ⟨rfl, by rw [hv.len]; omega⟩ (put_upd hm ap) fun h' F' N' => ?_
  exact h h' _ F' N' (put_apart hm ap) (G.addSu hf hk hm hv)
end
theorem Spec.sub {w : World} {f : Addr} {dn : Nat} {vs : List Value} {news news₀ : Led} {Post : Value → Led → Prop} (h : Spec w f dn vs news Post) (hs : ∀ p ∈ news, p ∈ news₀) : Spec w f dn vs news₀ Post := by
  intro q cn cs a ccd cl h₀ L m s R hA hcs F N
  exact h q cn cs a ccd cl h₀ L m s R hA hcs F (News.sub N hs)
theorem getnode_S (w : World) (g : St) (z : Wires) (led rest : Led) (k : Nat) (t : Tok) (G : Gs w g z led) (hk : k < g.n) :
    Spec w 80 1 [.ref z.S, .int (k : Int) t] (led ++ rest) (fun r n' => r = .ref (z.I k) ∧ n' = led ++ rest) := by
  obtain ⟨o, hn, ho⟩ := G.nn
  obtain ⟨k1, k2, k3, k4, t3, t4, hd⟩ := G.d
  exact getnode_hit w z.S z.DS z.N (z.I k) k t (g.rv z) g.P g.F (kvsOf g.n z.I) (led ++ rest) ⟨List.mem_append_left _ G.s, ⟨_, List.mem_append_left _ hd, k1, k2, k3, k4, t3, t4, rfl⟩, ⟨o, List.mem_append_left _ hn, ho⟩, G.lo⟩ (valueAt_kvs hk)
/-- a node anew, or none -/
def St.grow (g : St) (k : Nat) : St := if k < g.n then g else { g with n := k + 1, np := upd g.np k 0, su := upd g.su k [] }
def Wires.grow (z : Wires) (k : Nat) (I dI SU : Addr) : Wires := { z with I := upd z.I k I, dI := upd z.dI k dI, SU := upd z.SU k SU }
theorem kvs_upd {n : Nat} {I : Nat → Addr} {x : Addr} : kvsOf n (upd I n x) = kvsOf n I := by
  simp only [kvsOf]
  refine List.map_congr_left fun k hk => ?_
  rw [upd_ne (by have := List.mem_range.mp hk; omega)]
theorem Gs.grow {w : World} {g : St} {z : Wires} {led : Led} (G : Gs w g z led) (hf : Fun led) {oN oN' : Obj} (hn : (z.N, oN) ∈ led) (ho : oN.IsDictOf (intKind prog w) (kvsOf g.n z.I)) {I dI SU : Addr} {t1 t2 : Tok} (hr : g.rd = none)
    (ho' : oN'.IsDictOf (intKind prog w) (stored (kvsOf g.n z.I) (g.n : Int) (.ref I))) (h1 : ∀ p ∈ led, p.1 < dI) (h2 : dI < I) (h3 : I < SU) :
    Gs w (g.grow g.n) (z.grow g.n I dI SU) ((SU, listOf #[] 0) :: (I, nodeO dI SU 0 g.n t1 t2) :: (dI, dictOf [] 0) :: put led z.N oN') := by
  have e : g.grow g.n = { g with n := g.n + 1, np := upd g.np g.n 0, su := upd g.su g.n [] } := by rw [St.grow, if_neg (Nat.lt_irrefl _)]
  rw [e]
  have old : ∀ {p : Addr × Obj}, p ∈ put led z.N oN' → p ∈ (SU, listOf #[] 0) :: (I, nodeO dI SU 0 g.n t1 t2) :: (dI, dictOf [] 0) :: put led z.N oN' := fun hp => List.mem_cons_of_mem _ (List.mem_cons_of_mem _ (List.mem_cons_of_mem _ hp))
  have hlt : ∀ {a o}, (a, o) ∈ led → a < dI := fun h => h1 _ h
  constructor
  · exact old (put_keep hf hn G.s (dict_ne_plain ho rfl).symm)
  · obtain ⟨k1, k2, k3, k4, t3, t4, h⟩ := G.d
    have er : St.rv { g with n := g.n + 1, np := upd g.np g.n 0, su := upd g.su g.n [] } (z.grow g.n I dI SU) = g.rv z := by simp only [St.rv, hr]
    rw [er]
    exact ⟨k1, k2, k3, k4, t3, t4, old (put_keep' h G.sn.symm)⟩
  · refine ⟨oN', old (List.mem_cons_self ..), ?_⟩
    rw [kvs_grow] at ho'; exact ho'
  · exact G.lo
  · exact G.sn
  · intro k hk
    rcases Nat.lt_succ_iff_lt_or_eq.mp hk with hk | rfl
    · obtain ⟨a, b, h⟩ := G.node k hk
      refine ⟨a, b, ?_⟩
      simp only [Wires.grow, upd_ne (Nat.ne_of_lt hk)]
      exact old (put_keep hf hn h (dict_ne_plain ho rfl).symm)
    · refine ⟨t1, t2, ?_⟩
      simp only [Wires.grow, upd_eq]
      exact List.mem_cons_of_mem _ (List.mem_cons_self ..)
  · intro k hk
    rcases Nat.lt_succ_iff_lt_or_eq.mp hk with hk | rfl
    · simp only [Wires.grow, upd_ne (Nat.ne_of_lt hk)]
      exact old (put_keep' (G.nd k hk) (G.dn k hk))
    · simp only [Wires.grow, upd_eq]
      exact List.mem_cons_of_mem _ (List.mem_cons_of_mem _ (List.mem_cons_self ..))
  · intro k hk
    rcases Nat.lt_succ_iff_lt_or_eq.mp hk with hk | rfl
    · simp only [Wires.grow, upd_ne (Nat.ne_of_lt hk)]
      exact G.dn k hk
    · simp only [Wires.grow, upd_eq]
      exact Nat.ne_of_gt (hlt hn)
  · intro k hk
    rcases Nat.lt_succ_iff_lt_or_eq.mp hk with hk | rfl
    · obtain ⟨vs, mm, h, hv⟩ := G.su k hk
      refine ⟨vs, mm, ?_⟩
      simp only [Wires.grow, upd_ne (Nat.ne_of_lt hk)]
      exact ⟨old (put_keep hf hn h (dict_ne_list ho).symm), hv⟩
    · refine ⟨[], 0, ?_⟩
      simp only [Wires.grow, upd_eq]
      exact ⟨List.mem_cons_self .., trivial⟩
  · intro j hj k hk
    have hsu : ∀ i, i < g.n → z.SU i < SU := fun i hi => by obtain ⟨vs, mm, h, _⟩ := G.su i hi; exact Nat.lt_trans (hlt h) (Nat.lt_trans h2 h3)
    rcases Nat.lt_succ_iff_lt_or_eq.mp hk with hk | rfl <;> rcases Nat.lt_succ_iff_lt_or_eq.mp hj with hj | rfl
    · simp only [Wires.grow, upd_ne (Nat.ne_of_lt hk), upd_ne (Nat.ne_of_lt hj)]
      exact G.inj j hj k hk
    · simp only [Wires.grow, upd_ne (Nat.ne_of_lt hk), upd_eq]
      intro e; exact absurd (hsu k hk) (by rw [e]; exact Nat.lt_irrefl _)
    · simp only [Wires.grow, upd_ne (Nat.ne_of_lt hj), upd_eq]
      intro e; exact absurd (hsu j hj) (by rw [e]; exact Nat.lt_irrefl _)
    · intro _; rfl
  · intro l hl
    rw [show St.rd { g with n := g.n + 1, np := upd g.np g.n 0, su := upd g.su g.n [] } = g.rd from rfl, hr] at hl
    cases hl
def Turned (w : World) (g : St) (z : Wires) (rest : Led) (n' : Led) : Prop := ∃ led', n' = led' ++ rest ∧ Apart led' rest ∧ Gs w g z led'
theorem getnode_G (w : World) (g : St) (z : Wires) (led rest : Led) (k : Nat) (t : Tok) (G : Gs w g z led) (hf : Fun led) (ap : Apart led rest) (hr : g.rd = none) (hk : k ≤ g.n) (hn : g.n ≤ 100) :
    Spec w 80 4 [.ref z.S, .int (k : Int) t] (led ++ rest) (fun r n' => ∃ z', z'.S = z.S ∧ r = .ref (z'.I k) ∧ Turned w (g.grow k) z' rest n') := by
  rcases Nat.lt_or_eq_of_le hk with hk | rfl
  · refine (getnode_S w g z led rest k t G hk).mono (by omega) ?_
    rintro v l ⟨rfl, rfl⟩
    exact ⟨z, rfl, rfl, led, rfl, ap, by rw [St.grow, if_pos hk]; exact G⟩
  · obtain ⟨o, hn', ho⟩ := G.nn
    obtain ⟨k1, k2, k3, k4, t3, t4, hd⟩ := G.d
    have hm : ∀ p ∈ put led z.N o ++ rest, p ∈ led ++ rest := put_subR hn' fun _ h => h
    have hin : ∀ {p : Addr × Obj}, p ∈ led → p.1 ≠ z.N → p ∈ led.filter (fun p => decide (p.1 ≠ z.N)) ++ rest := fun hp hne => List.mem_append_left _ (List.mem_filter.mpr ⟨hp, decide_eq_true hne⟩)
    have hSN : z.S ≠ z.N := fun e => dict_ne_plain ho rfl (hf z.N o _ hn' (e ▸ G.s))
    have er : g.rv z = .none := by simp only [St.rv, hr]
    refine ((getnode_miss w z.S z.DS z.N g.n t .none g.P g.F (kvsOf g.n z.I) _ o (led.filter (fun p => decide (p.1 ≠ z.N)) ++ rest) (hin G.s hSN) (hin hd (fun e => G.sn e.symm)) ⟨k1, k2, k3, k4, t3, t4, by rw [er]⟩ ho G.lo ?_ (by rw [kvs_length]; exact hn) valueAt_kvs_none).mono (Nat.le_refl _) ?_).sub hm
    · intro p hp
      rcases List.mem_append.mp hp with hp | hp
      · exact of_decide_eq_true (List.mem_filter.mp hp).2
      · exact fun e => ap _ hn' p hp e.symm
    · rintro v l ⟨SU, I, dI, t1, oN', rfl, rfl, hd', h1, h2, h3⟩
      have hall : ∀ p ∈ led ++ rest, p.1 < dI := fun p hp => by
        by_cases e : p.1 = z.N
        · rw [e]; exact h1 _ (List.mem_cons_self ..)
        · refine h1 p (List.mem_cons_of_mem _ ?_)
          rcases List.mem_append.mp hp with hp | hp
          · exact hin hp e
          · exact List.mem_append_right _ hp
      refine ⟨z.grow g.n I dI SU, rfl, by simp only [Wires.grow, upd_eq], _, rfl, ?_, G.grow hf hn' ho hr hd' (fun p hp => hall p (List.mem_append_left _ hp)) h2 h3⟩
      intro p hp r hr'
      have hlt := hall r (List.mem_append_right _ hr')
      have hI := Nat.lt_trans hlt h2
      rcases List.mem_cons.mp hp with rfl | hp
      · exact Nat.ne_of_gt (Nat.lt_trans hI h3)
      rcases List.mem_cons.mp hp with rfl | hp
      · exact Nat.ne_of_gt hI
      rcases List.mem_cons.mp hp with rfl | hp
      · exact Nat.ne_of_gt hlt
      exact put_apart hn' ap p hp r hr'

end Mine
end
section
open PySem PySem.W PyProof.Rows PySem.Calls
set_option maxRecDepth 100000
set_option maxHeartbeats 8000000
set_option linter.unusedVariables false
namespace Mine
abbrev Map := Str → Option Value
structure Bs (w : World) (dn : Nat) where
  q : Pk
  L : Addr
  G : Heap → Prop
  amb : ∀ g, G g → Amb w q g
  hdp : q.dp + dn < recursionLimit
  hun : q.un + 8 * dn < cLine
/-- the frame over one of the grounds that may stand here -/
structure FrB {w : World} {dn : Nat} (b : Bs w dn) (h : Heap) (m : Map) where
  g : Heap
  G : b.G g
  fr : Fr g b.L h m
structure Cd where
  qual : Str
  scope : Scope
  f : Addr
  cdv : Value
  fn : scope.kind = .function
  cl : Addr → List (Str × Addr)
abbrev Cd.env (k : Cd) (L : Addr) : Env := envX k.qual k.scope L k.f k.cdv (k.cl L)
abbrev Bs.A {w : World} {dn : Nat} (b : Bs w dn) (k : Cd) : Around := topC k.qual k.scope k.f k.cdv (k.cl b.L) b.q b.L
section
variable {w : World} {dn : Nat} {b : Bs w dn} {h h' : Heap} {m m' : Map}
abbrev FrB.of (F : FrB b h m) (F' : Fr F.g b.L h' m') : FrB b h' m' := ⟨F.g, F.G, F'⟩
theorem FrB.amb (F : FrB b h m) : Amb w b.q F.g := b.amb _ F.G
theorem FrB.ns (F : FrB b h m) : h.Ns b.L m := F.fr.ns
theorem FrB.keep (F : FrB b h m) : ∀ a o, F.g.get? a = some o → h.get? a = some o := F.fr.keep
end
def setv (m : Map) (x : Str) (v : Value) : Map := fun y => if y = x then some v else m y
section
variable {w : World} {dn : Nat} (b : Bs w dn) (k : Cd) {en : Env}
def Rd (m : Map) (N : Led) {α : Type} (p : Sem α) (P : α → Prop) : Prop :=
  ∀ (s : Shared) (Q : α → Shared → Prop) (F : FrB b s.heap m), News F.g b.L s.heap N → (∀ v tk, P v → Q v { s with toks := tk }) → wpAny (model prog w) (b.A k) p Q (fun _ _ => False) s
def Wx (m : Map) (N : Led) {α : Type} (p : Sem α) (C : α → Map → Led → Prop) : Prop :=
  ∀ (s : Shared) (Q : α → Shared → Prop) (F : FrB b s.heap m), News F.g b.L s.heap N → (∀ v m' N' h' tk, C v m' N' → ∀ F' : FrB b h' m', News F'.g b.L h' N' → Q v { s with heap := h', toks := tk }) → wpAny (model prog w) (b.A k) p Q (fun _ _ => False) s
abbrev XE (en : Env) (m : Map) (N : Led) (e : Expr) (P : Value → Prop) : Prop := Rd b k m N (eval e en) P
abbrev TE (en : Env) (m : Map) (N : Led) (e : Expr) (c : Bool) : Prop := Rd b k m N (isTrue e en (eval e en)) (fun v => v = c)
abbrev WXE (en : Env) (m : Map) (N : Led) (e : Expr) (C : Value → Map → Led → Prop) : Prop := Wx b k m N (eval e en) C
abbrev Ex (m : Map) (N : Led) (e : Expr) (P : Value → Prop) : Prop := XE b k (k.env b.L) m N e P
abbrev Tst (m : Map) (N : Led) (e : Expr) (c : Bool) : Prop := TE b k (k.env b.L) m N e c
abbrev WE (m : Map) (N : Led) (e : Expr) (C : Value → Map → Led → Prop) : Prop := WXE b k (k.env b.L) m N e C
abbrev SX (m : Map) (N : Led) (body : List Stmt) (C : Flow → Map → Led → Prop) : Prop := Wx b k m N (execs body (k.env b.L)) C
def IsI (i : Int) (v : Value) : Prop := ∃ t, v = .int i t
def IsV (x : Value) (v : Value) : Prop := v = x
/-- on with the rows behind -/
def Cn (rest : List Stmt) (C : Flow → Map → Led → Prop) (f : Flow) (m : Map) (N : Led) : Prop := match f with
  | .next => SX b k m N rest C
  | f => C f m N
end
section
variable {w : World} {dn : Nat} {b : Bs w dn} {k : Cd} {m : Map} {N : Led} {C : Flow → Map → Led → Prop} {rest : List Stmt} {α : Type} {en : Env}
theorem Rd.mono {p : Sem α} {P P' : α → Prop} (h : Rd b k m N p P) (hp : ∀ v, P v → P' v) : Rd b k m N p P' := fun s Q F N hQ => h s Q F N fun v tk p => hQ v tk (hp v p)
theorem Rd.wx {p : Sem α} {P : α → Prop} {C : α → Map → Led → Prop} (h : Rd b k m N p P) (hC : ∀ v, P v → C v m N) : Wx b k m N p C := fun s Q F N hQ => h s Q F N fun v tk p => hQ v m _ s.heap tk (hC v p) F N
theorem Wx.mono {p : Sem α} {C C' : α → Map → Led → Prop} (h : Wx b k m N p C) (hc : ∀ v m' N', C v m' N' → C' v m' N') : Wx b k m N p C' := fun s Q F N hQ => h s Q F N fun v m' N' h' tk c => hQ v m' N' h' tk (hc v m' N' c)
theorem Wx.sub {p : Sem α} {C : α → Map → Led → Prop} {N' : Led} (h : Wx b k m N' p C) (hs : ∀ p ∈ N', p ∈ N) : Wx b k m N p C := fun s Q F N hQ => h s Q F (News.sub N hs) hQ
-- expressions
theorem Ex.name {x : Str} {pos : Pos} {v : Value} (hv : m x = some v) (hl : autoParam ((k.env b.L).kindOf x = some .local) tRfl) (hd : autoParam ((x == ("__debug__" : Str)) = false) tDec) : Ex b k m N (.Name x pos) (IsV v) :=
  fun s Q F N hQ => nameX_L F.fr hv (hQ v s.toks rfl) k.fn hl hd
theorem Ex.nameI {x : Str} {pos : Pos} {i : Int} {t : Tok} (hv : m x = some (.int i t)) (hl : autoParam ((k.env b.L).kindOf x = some .local) tRfl) (hd : autoParam ((x == ("__debug__" : Str)) = false) tDec) : Ex b k m N (.Name x pos) (IsI i) :=
  fun s Q F N hQ => nameX_L F.fr hv (hQ _ s.toks ⟨t, rfl⟩) k.fn hl hd
theorem Ex.lit {i : Int} {u : Nat} {pos : Pos} : XE b k en m N (.Constant (.int i) u pos) (IsI i) := fun s Q F N hQ => wpAny_Constant_int (hQ _ _ ⟨_, rfl⟩)
theorem Ex.noneE {u : Nat} {pos : Pos} : XE b k en m N (.Constant .none u pos) (IsV .none) := fun s Q F N hQ => wpAny_Constant_none (hQ _ s.toks rfl)
theorem Ex.boolE {u : Nat} {pos : Pos} {c : Bool} : XE b k en m N (.Constant (.bool c) u pos) (IsV (.bool c)) := fun s Q F N hQ => wpAny_Constant_bool (hQ _ s.toks rfl)
theorem Ex.binop {x y : Expr} {op : Operator} {pos : Pos} {P P1 P2 : Value → Prop} (ha : XE b k en m N x P1) (hb : XE b k en m N y P2) (ho : ∀ va vb, P1 va → P2 vb → Rd b k m N (binaryOp op va vb) P) : XE b k en m N (.BinOp x op y pos) P :=
  fun s Q F N hQ => wpAny_BinOp (ha s _ F N fun va tk pa => hb _ _ F N fun vb tk2 pb => ho va vb pa pb _ Q F N fun v tk3 p => hQ v tk3 p)
theorem Ex.cmp {x y : Expr} {op : CmpOp} {pos : Pos} {P P1 P2 : Value → Prop} (ha : XE b k en m N x P1) (hb : XE b k en m N y P2) (ho : ∀ va vb, P1 va → P2 vb → Rd b k m N (compareOp op va vb) P) (hm : autoParam (behindInMarks op y = false) tUn) : XE b k en m N (.Compare x [op] [y] pos) P :=
  fun s Q F N hQ => wpAny_Compare1 (ha s _ F N fun va tk pa => hb _ _ F N fun vb tk2 pb => ho va vb pa pb _ Q F N fun v tk3 p => hQ v tk3 p) hm
theorem Tst.cmp {x y : Expr} {op : CmpOp} {pos : Pos} {P1 P2 : Value → Prop} {c : Bool} (ha : XE b k en m N x P1) (hb : XE b k en m N y P2) (ho : ∀ va vb, P1 va → P2 vb → Rd b k m N (compareOp op va vb) (IsV (.bool c))) (hm : autoParam (behindInMarks op y = false) tUn) : TE b k en m N (.Compare x [op] [y] pos) c :=
  fun s Q F N hQ => wpAny_isTrue_Compare1 (ha s _ F N fun va tk pa => hb _ _ F N fun vb tk2 pb => ho va vb pa pb _ _ F N fun v tk3 p => by cases p; exact wpAny_truthy_bool (hQ c tk3 rfl)) hm
theorem Ex.add {x y : Expr} {pos : Pos} {i j : Int} (ha : XE b k en m N x (IsI i)) (hb : XE b k en m N y (IsI j)) : XE b k en m N (.BinOp x .Add y pos) (IsI (i + j)) := Ex.binop ha hb fun _ _ ⟨_, e1⟩ ⟨_, e2⟩ s Q F N hQ => by subst e1 e2; exact add_int (hQ _ _ ⟨_, rfl⟩)
theorem Ex.sub {x y : Expr} {pos : Pos} {i j : Int} (ha : XE b k en m N x (IsI i)) (hb : XE b k en m N y (IsI j)) : XE b k en m N (.BinOp x .Sub y pos) (IsI (i - j)) := Ex.binop ha hb fun _ _ ⟨_, e1⟩ ⟨_, e2⟩ s Q F N hQ => by subst e1 e2; exact sub_int (hQ _ _ ⟨_, rfl⟩)
theorem Tst.ltI {x y : Expr} {pos : Pos} {i j : Int} (ha : XE b k en m N x (IsI i)) (hb : XE b k en m N y (IsI j)) (hm : autoParam (behindInMarks .Lt y = false) tUn) : TE b k en m N (.Compare x [.Lt] [y] pos) (decide (i < j)) := Tst.cmp (hm := hm) ha hb fun _ _ ⟨_, e1⟩ ⟨_, e2⟩ s Q F N hQ => by subst e1 e2; exact lt_int (hQ _ s.toks rfl)
theorem Ex.ltI {x y : Expr} {pos : Pos} {i j : Int} (ha : XE b k en m N x (IsI i)) (hb : XE b k en m N y (IsI j)) (hm : autoParam (behindInMarks .Lt y = false) tUn) : XE b k en m N (.Compare x [.Lt] [y] pos) (IsV (.bool (decide (i < j)))) := Ex.cmp (hm := hm) ha hb fun _ _ ⟨_, e1⟩ ⟨_, e2⟩ s Q F N hQ => by subst e1 e2; exact lt_int (hQ _ s.toks rfl)
theorem Tst.geI {x y : Expr} {pos : Pos} {i j : Int} (ha : XE b k en m N x (IsI i)) (hb : XE b k en m N y (IsI j)) (hm : autoParam (behindInMarks .GtE y = false) tUn) : TE b k en m N (.Compare x [.GtE] [y] pos) (decide (i ≥ j)) := Tst.cmp (hm := hm) ha hb fun _ _ ⟨_, e1⟩ ⟨_, e2⟩ s Q F N hQ => by subst e1 e2; exact ge_int (hQ _ s.toks rfl)
theorem Tst.eqI {x y : Expr} {pos : Pos} {i j : Int} (ha : XE b k en m N x (IsI i)) (hb : XE b k en m N y (IsI j)) (hm : autoParam (behindInMarks .Eq y = false) tUn) : TE b k en m N (.Compare x [.Eq] [y] pos) (i == j) := Tst.cmp (hm := hm) ha hb fun _ _ ⟨_, e1⟩ ⟨_, e2⟩ s Q F N hQ => by subst e1 e2; exact eq_int (hQ _ s.toks rfl)
theorem Tst.neI {x y : Expr} {pos : Pos} {i j : Int} (ha : XE b k en m N x (IsI i)) (hb : XE b k en m N y (IsI j)) (hm : autoParam (behindInMarks .NotEq y = false) tUn) : TE b k en m N (.Compare x [.NotEq] [y] pos) (i != j) := Tst.cmp (hm := hm) ha hb fun _ _ ⟨_, e1⟩ ⟨_, e2⟩ s Q F N hQ => by subst e1 e2; exact ne_int (hQ _ s.toks rfl)
theorem Tst.isNone {x y : Expr} {pos : Pos} {v : Value} (ha : XE b k en m N x (IsV v)) (hb : XE b k en m N y (IsV .none)) (hm : autoParam (behindInMarks .Is y = false) tUn) : TE b k en m N (.Compare x [.Is] [y] pos) (v == .none) := Tst.cmp (hm := hm) ha hb fun _ _ e1 e2 s Q F N hQ => by cases e1; cases e2; exact is_none (hQ _ s.toks rfl)
theorem Tst.isNotNone {x y : Expr} {pos : Pos} {v : Value} (ha : XE b k en m N x (IsV v)) (hb : XE b k en m N y (IsV .none)) (hm : autoParam (behindInMarks .IsNot y = false) tUn) : TE b k en m N (.Compare x [.IsNot] [y] pos) (!(v == .none)) := Tst.cmp (hm := hm) ha hb fun _ _ e1 e2 s Q F N hQ => by cases e1; cases e2; exact isNot_none (hQ _ s.toks rfl)
theorem Tst.val {e : Expr} {P : Value → Prop} {c : Bool} (h : XE b k en m N e P) (ht : ∀ v, P v → Rd b k m N (truthy v) (fun v => v = c)) (he : autoParam (isTrue e en (eval e en) = (do let v ← eval e en; standAt e.pos; holding [v] (truthy v))) tRfl) : TE b k en m N e c :=
  fun s Q F N hQ => isTrue_plain (h s _ F N fun v tk p => ht v p _ Q F N fun v' tk' p' => hQ v' tk' p') he
theorem Tst.nt {x : Expr} {pos : Pos} {c : Bool} (h : TE b k en m N x c) : TE b k en m N (.UnaryOp .Not x pos) (!c) := fun s Q F N hQ => isTrue_not (h s _ F N fun v tk p => by cases p; exact hQ _ tk rfl)
theorem Ex.attr {x : Expr} {name : Str} {pos : Pos} {P P1 : Value → Prop} (h : XE b k en m N x P1) (hg : ∀ v, P1 v → Rd b k m N (getAttr v name true) P) (he : autoParam (eval (.Attribute x name pos) en = (do
      let o ← eval x en
      standAt pos.atName
      let r ← holding [o] (getAttr o name true)
      letTemporaryGo x o r
      pure r)) tUn) (hl : autoParam (∀ o r, letTemporaryGo x o r = pure ()) tIIUn) : XE b k en m N (.Attribute x name pos) P :=
  fun s Q F N hQ => by
    rw [he]
    refine wpAny_bind (h s _ F N fun o tk p => wpAny_bind (wpAny_standAt (wpAny_bind (wpAny_holding (hg o p _ _ F N fun r tk2 p2 => ?_)))))
    rw [hl]
    exact wpAny_bind (wpAny_pure (wpAny_pure (hQ r tk2 p2)))
-- rows
theorem SX.nil (h : C .next m N) : SX b k m N [] C := fun s Q F N hQ => wpAny_execs_nil (hQ _ m _ s.heap s.toks h F N)
theorem SX.cons {st : Stmt} {C' : Flow → Map → Led → Prop} (h : Wx b k m N (exec st (k.env b.L)) (Cn b k rest C)) : SX b k m N (st :: rest) C := fun s Q F N hQ =>
  wpAny_execs_cons (h s _ F N fun f m' N' h' tk c F' N'' => by
    cases f with
    | next => exact c _ Q F' N'' fun f m2 N2 h2 tk2 c2 F2 N2' => hQ f m2 N2 h2 tk2 c2 F2 N2'
    | brk => exact hQ _ m' N' h' tk c F' N''
    | cont => exact hQ _ m' N' h' tk c F' N''
    | ret v => exact hQ _ m' N' h' tk c F' N'')
theorem Wx.store {x : Str} {v : Value} {C : Flow → Map → Led → Prop} {s : Shared} {Q : Flow → Shared → Prop} (F : FrB b s.heap m) (N' : News F.g b.L s.heap N) (hc : C .next (setv m x v) N) (hl : (k.env b.L).kindOf x = some .local)
    (hQ : ∀ f m' N' h' tk, C f m' N' → ∀ F' : FrB b h' m', News F'.g b.L h' N' → Q f { s with heap := h', toks := tk }) : wpAny (model prog w) (b.A k) (storeName (k.env b.L) x v) (fun _ => Q .next) (fun _ _ => False) s :=
  wpAny_storeName_local hl F.ns (fun h' hn hs => hQ .next _ N h' _ hc (F.of (F.fr.set hn hs)) (N'.set hs)) (by show (k.scope.kind == .class || (k.scope.kind == .module && b.L != mainGlobals)) = false; rw [k.fn]; rfl)
theorem SX.assign {x : Str} {xp pos : Pos} {e : Expr} {P : Value → Prop} (he : Ex b k m N e P) (hk : ∀ v, P v → SX b k (setv m x v) N rest C) (hl : autoParam ((k.env b.L).kindOf x = some .local) tRfl) (hs : autoParam (swapsWith e (some (.Name x xp)) pos.line (k.env b.L) = pure false) tRfl) :
    SX b k m N (.Assign [.Name x xp] e pos :: rest) C :=
  SX.cons (C' := C) fun s Q F N hQ => wpAny_Assign_Name (he s _ F N fun v tk p => Wx.store (C := Cn b k rest C) F N (hk v p) hl hQ) hs
theorem SX.assignI {x : Str} {xp pos : Pos} {e : Expr} {i : Int} (he : Ex b k m N e (IsI i)) (hk : ∀ t, SX b k (setv m x (.int i t)) N rest C) (hl : autoParam ((k.env b.L).kindOf x = some .local) tRfl) (hs : autoParam (swapsWith e (some (.Name x xp)) pos.line (k.env b.L) = pure false) tRfl) :
    SX b k m N (.Assign [.Name x xp] e pos :: rest) C := SX.assign he (fun _ ⟨t, e⟩ => by subst e; exact hk t) hl hs
theorem SX.assignV {x : Str} {xp pos : Pos} {e : Expr} {v : Value} (he : Ex b k m N e (IsV v)) (hk : SX b k (setv m x v) N rest C) (hl : autoParam ((k.env b.L).kindOf x = some .local) tRfl) (hs : autoParam (swapsWith e (some (.Name x xp)) pos.line (k.env b.L) = pure false) tRfl) :
    SX b k m N (.Assign [.Name x xp] e pos :: rest) C := SX.assign he (fun _ e => by cases e; exact hk) hl hs
theorem SX.assignW {x : Str} {xp pos : Pos} {e : Expr} (he : WE b k m N e (fun v m' N' => SX b k (setv m' x v) N' rest C)) (hl : autoParam ((k.env b.L).kindOf x = some .local) tRfl) (hs : autoParam (swapsWith e (some (.Name x xp)) pos.line (k.env b.L) = pure false) tRfl) :
    SX b k m N (.Assign [.Name x xp] e pos :: rest) C :=
  SX.cons (C' := C) fun s Q F N hQ => wpAny_Assign_Name (he s _ F N fun v m' N' h' tk c F' N'' => Wx.store (C := Cn b k rest C) (s := { s with heap := h', toks := tk }) F' N'' c hl hQ) hs
theorem SX.ret {e : Expr} {pos : Pos} (h : WE b k m N e (fun v => C (.ret v))) : SX b k m N (.Return (some e) pos :: rest) C :=
  SX.cons (C' := C) fun s Q F N hQ => wpAny_Return_some (h s _ F N fun v m' N' h' tk c F' N'' => hQ _ m' N' h' tk c F' N'')
theorem SX.if_ {e : Expr} {body orelse : List Stmt} {pos : Pos} {c : Bool} (ht : Tst b k m N e c) (h1 : c = true → SX b k m N body (Cn b k rest C)) (h2 : c = false → SX b k m N orelse (Cn b k rest C)) : SX b k m N (.If e body orelse pos :: rest) C :=
  SX.cons (C' := C) fun s Q F N hQ => wpAny_If (ht s _ F N fun v tk p => by
    subst p
    cases v with
    | true => exact h1 rfl _ Q F N fun f m' N' h' tk c F' N'' => hQ f m' N' h' tk c F' N''
    | false => exact h2 rfl _ Q F N fun f m' N' h' tk c F' N'' => hQ f m' N' h' tk c F' N'')
theorem SX.expr {e : Expr} {pos : Pos} (h : WE b k m N e (fun v m' N' => v = .none ∧ SX b k m' N' rest C)) (hi : autoParam (interactive (k.env b.L) = false) tRfl) (hs : autoParam (swapsWith e .none pos.line (k.env b.L) = pure false) tRfl) : SX b k m N (.Expr e pos :: rest) C :=
  SX.cons (C' := C) fun s Q F N hQ => wpAny_Expr (h s _ F N fun v m' N' h' tk c F' N'' => by obtain ⟨rfl, c⟩ := c; exact hQ _ m' N' h' tk c F' N'') hi hs
theorem SX.setA {o e : Expr} {name : Str} {op pos : Pos} {P1 P2 : Value → Prop} (he : Ex b k m N e P1) (ho : Ex b k m N o P2) (hk : ∀ v ov, P1 v → P2 ov → Wx b k m N (setAttr ov name v) (fun _ m' N' => SX b k m' N' rest C)) (hs : autoParam (swapsWith e (some (.Attribute o name op)) pos.line (k.env b.L) = pure false) tRfl) :
    SX b k m N (.Assign [.Attribute o name op] e pos :: rest) C :=
  SX.cons (C' := C) fun s Q F N hQ => plainObj_wpAny_Assign_Attribute (he s _ F N fun v tk p => ho _ _ F N fun ov tk2 p2 => hk v ov p p2 _ _ F N fun _ m' N' h' tk c F' N'' => hQ .next m' N' h' tk c F' N'') hs
theorem SX.augAttr {o e : Expr} {name : Str} {op : Operator} {tp pos : Pos} {P1 P2 P3 P4 : Value → Prop} (ho : Ex b k m N o P1) (hg : ∀ v, P1 v → Rd b k m N (getAttr v name true) P2) (he : Ex b k m N e P3) (hop : ∀ v v', P2 v → P3 v' → Rd b k m N (inplaceOp op v v') P4)
    (hk : ∀ v ov, P4 v → P1 ov → Wx b k m N (setAttr ov name v) (fun _ m' N' => SX b k m' N' rest C)) : SX b k m N (.AugAssign (.Attribute o name tp) op e pos :: rest) C :=
  SX.cons (C' := C) fun s Q F N hQ => wpAny_AugAssign_AttributeAny (ho s _ F N fun ov tk p => hg ov p _ _ F N fun old tk2 p2 => he _ _ F N fun v tk3 p3 => hop old v p2 p3 _ _ F N fun r tk4 p4 => hk r ov p4 p _ _ F N fun _ m' N' h' tk c F' N'' => hQ .next m' N' h' tk c F' N'')
theorem Rd.iadd {i j : Int} {v v' : Value} (h1 : IsI i v) (h2 : IsI j v') : Rd b k m N (inplaceOp .Add v v') (IsI (i + j)) := fun s Q F N hQ => by obtain ⟨_, rfl⟩ := h1; obtain ⟨_, rfl⟩ := h2; exact iadd_int (hQ _ _ ⟨_, rfl⟩)
theorem Rd.isub {i j : Int} {v v' : Value} (h1 : IsI i v) (h2 : IsI j v') : Rd b k m N (inplaceOp .Sub v v') (IsI (i - j)) := fun s Q F N hQ => by obtain ⟨_, rfl⟩ := h1; obtain ⟨_, rfl⟩ := h2; exact isub_int (hQ _ _ ⟨_, rfl⟩)
theorem SX.abs {body : List Stmt} (h : ∀ C' : Flow → Map → Led → Prop, (∀ f m' N', C f m' N' → C' f m' N') → SX b k m N body C') : SX b k m N body C := h C fun _ _ _ h => h
theorem SX.brk {pos : Pos} (h : C .brk m N) : SX b k m N (.Break pos :: rest) C := SX.cons (C' := C) fun s Q F N hQ => wpAny_Break (hQ _ m _ s.heap s.toks h F N)
theorem SX.cont {pos : Pos} (h : C .cont m N) : SX b k m N (.Continue pos :: rest) C := SX.cons (C' := C) fun s Q F N hQ => wpAny_Continue (hQ _ m _ s.heap s.toks h F N)
end
end Mine
end
section
open PySem PySem.W PyProof.Rows PySem.Calls
set_option maxRecDepth 100000
set_option maxHeartbeats 8000000
namespace Mine
set_option linter.unusedVariables false
section
variable {w : World} {dn : Nat} {b : Bs w dn} {k : Cd} {m : Map} {N : Led} {C : Flow → Map → Led → Prop} {rest : List Stmt} {α : Type} {en : Env}
/-- a body, walked -/
def EndsC (Post : Value → Led → Prop) (f : Flow) (m : Map) (N : Led) : Prop := match f with
  | .ret v => Post v N
  | .next => Post .none N
  | _ => False
theorem BodyOk.ofSX {qual : Str} {scope : Scope} {f : Addr} {cdv : Value} (fn : scope.kind = .function) {binds : List (Str × Value)} {news : Led} {Post : Value → Led → Prop} {body : List Stmt} (h : ∀ b : Bs w dn, SX b ⟨qual, scope, f, cdv, fn, fun _ => []⟩ (fun y => binds.reverse.lookup y) news body (EndsC Post)) : BodyOk w dn qual body scope f cdv binds news Post := by
  intro q g L s Qf hA F N hdp hun hend
  refine h ⟨q, L, (· = g), fun _ e => e ▸ hA, hdp, hun⟩ s Qf ⟨g, rfl, F⟩ N fun f m' N' h' tk c F' N'' => ?_
  obtain ⟨g', G', F'⟩ := F'
  cases G'
  cases f with
  | ret v => exact (hend v N' h' tk m' c F' N'').1
  | next => exact (hend .none N' h' tk m' c F' N'').2 rfl
  | brk => exact c.elim
  | cont => exact c.elim
theorem Ex.glob {x : Str} {pos : Pos} {v : Value} (e : nsIn (Kh w.params) mainGlobals x = some (some v)) (hx : autoParam (en.kindOf x = some .globalImplicit) tRfl) (hd : autoParam ((x == ("__debug__" : Str)) = false) tDec) (hg : autoParam (en.globals = mainGlobals) tRfl) (hk : autoParam (en.scope.kind = .function) tRfl) : XE b k en m N (.Name x pos) (IsV v) := fun s Q F N hQ => by
  obtain ⟨v₀, lo, mean, mg, mb, T⟩ := F.amb.top
  exact nameG_K F.fr F.amb.inK (topRead_of T) e (hQ v s.toks rfl) hg hk hx hd
theorem Ex.blt {x : Str} {pos : Pos} {v : Value} (e : nsIn (Kh w.params) mainGlobals x = some none) (hv : bootBuiltins x = some v) (hn : autoParam (x ≠ "__name__") tDec) (hx : autoParam (en.kindOf x = some .globalImplicit) tRfl) (hd : autoParam ((x == ("__debug__" : Str)) = false) tDec) (hg : autoParam (en.globals = mainGlobals) tRfl) (hb : autoParam (en.builtins = builtinsNs) tRfl) (hk : autoParam (en.scope.kind = .function) tRfl) : XE b k en m N (.Name x pos) (IsV v) := fun s Q F N hQ => by
  obtain ⟨v₀, lo, mean, mg, mb, T⟩ := F.amb.top
  have T := topRead_of T
  exact Name_function_global hk hx (loadGlobal_builtin (env := en) (by rw [hg]; exact T.g.keeps F.keep) (mg_none_of F.amb.inK T.g e) (by rw [hb]; exact T.b.keeps F.keep) ((T.builtins x hn).trans hv) (hQ v s.toks rfl)) hd
/-- arguments -/
def Ars (b : Bs w dn) (k : Cd) (en : Env) (m : Map) (N : Led) (es : List Expr) (P : List Value → Prop) : Prop := ∀ pos : Pos, Rd b k m N (spliced (backTo pos (starEach es en))) P
theorem Ars.nil : Ars b k en m N [] (fun vs => vs = []) := fun pos s Q F N hQ => args_nil (hQ _ s.toks rfl)
theorem Ars.cons {e : Expr} {es : List Expr} {P : Value → Prop} {Ps : List Value → Prop} (he : XE b k en m N e P) (hs : Ars b k en m N es Ps) (hp : autoParam (starEach (e :: es) en = (false, eval e en) :: starEach es en) tRfl) :
    Ars b k en m N (e :: es) (fun vs => ∃ v us, vs = v :: us ∧ P v ∧ Ps us) := fun pos s Q F N hQ => args_cons (he s _ F N fun v tk p => hs pos _ _ F N fun us tk2 p2 => hQ _ _ ⟨v, us, rfl, p, p2⟩) hp
theorem Ars.one {e : Expr} {P : Value → Prop} (he : XE b k en m N e P) (hp : autoParam (starEach [e] en = (false, eval e en) :: starEach [] en) tRfl) :
    Ars b k en m N [e] (fun vs => ∃ v, vs = [v] ∧ P v) := fun pos s Q F N hQ => args_cons (he s _ F N fun v tk p => args_nil (hQ _ tk ⟨v, rfl, p⟩)) hp
theorem Wx.spec {f : Addr} {dn' : Nat} {vs : List Value} {news : Led} {Post : Value → Led → Prop} {C : Value → Map → Led → Prop} (S : Spec w f dn' vs news Post) (hC : ∀ r N', Post r N' → C r m N') (hs : ∀ p ∈ news, p ∈ N := by exact fun _ h => h) (hd : autoParam (dn' ≤ dn) tDec) : Wx b k m N (call (.ref f) vs) C :=
  fun s Q F N hQ => spec_use S F.amb k.fn F.fr N hs (by have := b.hdp; omega) (by have := b.hun; omega) fun r n' h' tk p F' N' => hQ r m n' h' tk (hC r n' p) (F.of F') N'
/-- a call of something by its name -/
theorem WE.fn {f : Expr} {e : Expr} {es : List Expr} {pos : Pos} {a : Addr} {P : List Value → Prop} {C : Value → Map → Led → Prop} (hf : XE b k en m N f (IsV (.ref a))) (hk : keepIn (Kh w.params) (.ref a) = true) (ha : Ars b k en m N (e :: es) P) (hc : ∀ vs, P vs → Wx b k m N (call (.ref a) vs) C)
    (h1 : autoParam (eval (.Call f (e :: es) [] pos) en = (do callWith pos (← eval f en) [] (backTo pos (starEach (e :: es) en)) (backToKw pos (keywordEach [] en)))) tRfl)
    (he : autoParam (starEach (e :: es) en = (false, eval e en) :: starEach es en) tRfl) (hplain : autoParam ((backTo pos (starEach es en)).any (·.1) = false) tRfl) : WXE b k en m N (.Call f (e :: es) [] pos) C :=
  fun s Q F N hQ => Call_ (hf s _ F N fun fv tk p => by cases p; exact callWith_K F.amb.inK hk (ha pos _ _ F N fun vs tk2 p2 => ⟨F.amb.inK.keeps F.keep, hc vs p2 _ Q F N hQ⟩) he hplain) h1
theorem WE.fn0 {f : Expr} {pos : Pos} {a : Addr} {C : Value → Map → Led → Prop} (hf : XE b k en m N f (IsV (.ref a))) (hk : keepIn (Kh w.params) (.ref a) = true) (hc : Wx b k m N (call (.ref a) []) C)
    (h1 : autoParam (eval (.Call f [] [] pos) en = (do callWith pos (← eval f en) [] (backTo pos (starEach [] en)) (backToKw pos (keywordEach [] en)))) tRfl) : WXE b k en m N (.Call f [] [] pos) C :=
  fun s Q F N hQ => Call_ (hf s _ F N fun fv tk p => by cases p; exact callWith_K0 (F.amb.inK.keeps F.keep) hk (hc _ Q F N hQ)) h1
/-- a builtin called by its name on one thing -/
theorem Ex.call1 {f e : Expr} {pos : Pos} {id : String} {P P1 : Value → Prop} (hf : XE b k en m N f (IsV (.builtin id))) (ha : XE b k en m N e P1) (hc : ∀ v, P1 v → Rd b k m N (call (.builtin id) [v]) P)
    (h1 : autoParam (eval (.Call f [e] [] pos) en = (do callWith pos (← eval f en) [] (backTo pos (starEach [e] en)) (backToKw pos (keywordEach [] en)))) tRfl)
    (he : autoParam (starEach [e] en = (false, eval e en) :: starEach [] en) tRfl) : XE b k en m N (.Call f [e] [] pos) P :=
  fun s Q F N hQ => Call_ (hf s _ F N fun fv tk p => by cases p; exact callWith_builtin1 (Ars.one ha he pos _ _ F N fun vs tk2 p2 => by obtain ⟨v, rfl, p3⟩ := p2; exact hc v p3 _ Q F N fun v tk pv => hQ v tk pv) he rfl) h1
/-- a method of an instance -/
theorem WE.meth {o e : Expr} {name : Str} {ap pos : Pos} {es : List Expr} {S DS C₀ f : Addr} {n : Nat} {xs : List DictEntry} {P : List Value → Prop} {C : Value → Map → Led → Prop} (ho : XE b k en m N o (IsV (.ref S))) (hS : (S, instObj C₀ DS) ∈ N) (hD : (DS, dictOf xs n) ∈ N)
    (hg : plainGet (Kh w.params) C₀ name = true) (hf : findIn (Kh w.params) (.ref C₀) name = some (some (.ref f))) (ht : isFn (Kh w.params) (.ref f) = true) (hl : getL name xs = some none) (hk : keepIn (Kh w.params) (.ref f) = true)
    (ha : Ars b k en m N (e :: es) P) (hc : ∀ vs, P vs → Wx b k m N (call (.ref f) (.ref S :: vs)) C) 
    (h1 : ∃ pl, eval (.Call (.Attribute o name ap) (e :: es) [] pos) en = (do
      let ov ← eval o en
      standAt ap.atName
      let (f, first) ← holding [ov] (getMethod ov name pl)
      callWith pos f first (backTo pos (starEach (e :: es) en)) []) := by exact ⟨_, rfl⟩)
    (he : autoParam (starEach (e :: es) en = (false, eval e en) :: starEach es en) tRfl) (hplain : autoParam ((backTo pos (starEach es en)).any (·.1) = false) tRfl) : WXE b k en m N (.Call (.Attribute o name ap) (e :: es) [] pos) C :=
  fun s Q F N hQ => by
    obtain ⟨pl, h1⟩ := h1
    exact MethodCall_ (pl := pl) (ho s _ F N fun ov tk p => by
      cases p
      exact method_inst F.fr F.amb.inK (InstAt.of_news N hS hD) hg hf ht hl (callWith_K F.amb.inK hk (ha pos _ _ F N fun vs tk2 p2 => ⟨F.amb.inK.keeps F.keep, hc vs p2 _ Q F N hQ⟩) he hplain)) h1
theorem WE.meth0 {o : Expr} {name : Str} {ap pos : Pos} {S DS C₀ f : Addr} {n : Nat} {xs : List DictEntry} {C : Value → Map → Led → Prop} (ho : XE b k en m N o (IsV (.ref S))) (hS : (S, instObj C₀ DS) ∈ N) (hD : (DS, dictOf xs n) ∈ N)
    (hg : plainGet (Kh w.params) C₀ name = true) (hf : findIn (Kh w.params) (.ref C₀) name = some (some (.ref f))) (ht : isFn (Kh w.params) (.ref f) = true) (hl : getL name xs = some none) (hk : keepIn (Kh w.params) (.ref f) = true)
    (hc : Wx b k m N (call (.ref f) [.ref S]) C) 
    (h1 : ∃ pl, eval (.Call (.Attribute o name ap) [] [] pos) en = (do
      let ov ← eval o en
      standAt ap.atName
      let (f, first) ← holding [ov] (getMethod ov name pl)
      callWith pos f first (backTo pos (starEach [] en)) []) := by exact ⟨_, rfl⟩) : WXE b k en m N (.Call (.Attribute o name ap) [] [] pos) C :=
  fun s Q F N hQ => by
    obtain ⟨pl, h1⟩ := h1
    exact MethodCall_ (pl := pl) (ho s _ F N fun ov tk p => by
      cases p
      exact method_inst F.fr F.amb.inK (InstAt.of_news N hS hD) hg hf ht hl (callWith_K0 (F.amb.inK.keeps F.keep) hk (hc _ Q F N hQ))) h1
/-- a builtin method called on one thing -/
theorem WE.bmeth {o e : Expr} {name : Str} {ap pos : Pos} {id : String} {x : Value} {P1 : Value → Prop} {C : Value → Map → Led → Prop} (ho : XE b k en m N o (IsV x)) (hm : ∀ pl, Rd b k m N (getMethod x name pl) (fun fx => fx = (.builtin id, [x]))) (ha : XE b k en m N e P1) (hc : ∀ v, P1 v → Wx b k m N (call (.builtin id) [x, v]) C)
    (h1 : ∃ pl, eval (.Call (.Attribute o name ap) [e] [] pos) en = (do
      let ov ← eval o en
      standAt ap.atName
      let (f, first) ← holding [ov] (getMethod ov name pl)
      callWith pos f first (backTo pos (starEach [e] en)) []) := by exact ⟨_, rfl⟩)
    (he : autoParam (starEach [e] en = (false, eval e en) :: starEach [] en) tRfl) : WXE b k en m N (.Call (.Attribute o name ap) [e] [] pos) C :=
  fun s Q F N hQ => by
    obtain ⟨pl, h1⟩ := h1
    exact MethodCall_ (pl := pl) (ho s _ F N fun ov tk p => by
      cases p
      exact hm pl _ _ F N fun fx tk2 p2 => by
        subst p2
        refine callWith_builtin (by rw [he]; rfl) ?_
        have h2 := Ars.one (b := b) (k := k) (en := en) ha he pos { s with toks := tk2 } (fun vs s' => wpAny (model prog w) (b.A k) (call (.builtin id) ([x] ++ vs) []) Q (fun _ _ => False) s') F N fun vs tk3 p3 => by
          obtain ⟨v, rfl, p4⟩ := p3
          exact hc v p4 _ Q F N hQ
        rw [he] at h2 ⊢
        exact evalArgs_plain h2) h1
theorem Rd.append {l : Addr} {vs : List Value} {n : Nat} (hm : (l, listOf vs.toArray n) ∈ N) (pl : Sem Bool) : Rd b k m N (getMethod (.ref l) (Str.ofString "append") pl) (fun fx => fx = (.builtin "list.append", [.ref l])) :=
  fun s Q F N hQ => getMethod_list_append (N _ hm).1 rfl rfl (hQ _ s.toks rfl)
theorem Rd.lenT {l : Addr} {vs : List Value} (hm : (l, tupO vs) ∈ N) (hz : vs.length ≤ 1000) : Rd b k m N (call (.builtin "len") [.ref l]) (IsI vs.length) :=
  fun s Q F N hQ => PyProof.Rows.len_tuple ⟨_, (N _ hm).1, rfl, _, rfl⟩ (by rw [List.size_toArray]; omega) (by rw [List.size_toArray]; exact hQ _ _ ⟨_, rfl⟩)
end
section
variable {w : World} {dn : Nat} (b : Bs w dn) (k : Cd)
/-- what iterating v over a ledger makes -/
def Srcs (N : Led) (v : Value) (n : Nat) (P : Nat → Value → Prop) (objs : Led) : Prop := (∀ p ∈ objs, p ∈ N) ∧
  ∀ (m : Map) (s : Shared) (Q : Value → Shared → Prop) (F : FrB b s.heap m), News F.g b.L s.heap N →
    (∀ oI St fp, Walks prog w (b.A k) s.heap.objs.size fp [s.heap.objs.size] n P St → (∀ a ∈ fp, a = s.heap.objs.size ∨ ∃ o, (a, o) ∈ objs) → (∀ i h, St i h → ∃ o, h.get? s.heap.objs.size = some o) → oI.isFreed = false → St 0 (s.heap.push oI) → Q (.ref s.heap.objs.size) { s with heap := s.heap.push oI }) →
    wpAny (model prog w) (b.A k) (pyIter v) Q (fun _ _ => False) s
end
section
variable {w : World} {dn : Nat} {b : Bs w dn} {k : Cd} {m : Map} {N : Led} {C : Flow → Map → Led → Prop} {rest : List Stmt} {en : Env}
theorem Srcs.list {l : Addr} {vs : List Value} {nl : Nat} (hm : (l, listOf vs.toArray nl) ∈ N) : Srcs b k N (.ref l) vs.length (fun i v => vs[i]? = some v) [(l, listOf vs.toArray nl)] :=
  ⟨fun p hp => by rw [List.mem_singleton.mp hp]; exact hm, fun m s Q F N' hQ => by
    have hin := N' _ hm
    have hls : s.heap.IsList l vs.toArray := ⟨_, hin.1, rfl, nl, rfl⟩
    have W := Walks.list (prog := prog) (w := w) (A := b.A k) rfl s.heap.objs.size l (Nat.ne_of_lt (Heap.lt_size hin.1)) vs.toArray
    refine wpAny_pyIter_list hls (hQ _ (fun i h => h.IsListIter s.heap.objs.size l i ∧ h.IsList l vs.toArray) [s.heap.objs.size, l] { sub := W.sub, frame := W.frame, item := fun i s Q E hi st h => W.item i s Q E (by simpa using hi) st fun v h' tk hv => h v h' tk (by simpa using hv), done := fun s Q E st h => W.done s Q E (by simpa using st) h, self := W.self } (fun a ha => ?_) (fun i h st => by obtain ⟨o, ho, _⟩ := st.1; exact ⟨o, ho⟩) rfl ⟨⟨_, Heap.get?_push_size _ rfl, rfl, rfl⟩, hls.push _⟩)
    rcases List.mem_cons.mp ha with rfl | ha
    · exact .inl rfl
    · rw [List.mem_singleton.mp ha]; exact .inr ⟨_, List.mem_singleton.mpr rfl⟩⟩
theorem Srcs.tuple {l : Addr} {vs : List Value} (hm : (l, tupO vs) ∈ N) : Srcs b k N (.ref l) vs.length (fun i v => vs[i]? = some v) [(l, tupO vs)] :=
  ⟨fun p hp => by rw [List.mem_singleton.mp hp]; exact hm, fun m s Q F N' hQ => by
    have hin := N' _ hm
    have hls : s.heap.IsTuple l vs.toArray := ⟨_, hin.1, rfl, _, rfl⟩
    have W := Walks.tuple (prog := prog) (w := w) (A := b.A k) rfl s.heap.objs.size l (Nat.ne_of_lt (Heap.lt_size hin.1)) vs.toArray
    refine wpAny_pyIter_tuple hls (hQ _ (fun i h => h.IsTupleIter s.heap.objs.size l i ∧ h.IsTuple l vs.toArray) [s.heap.objs.size, l] { sub := W.sub, frame := W.frame, item := fun i s Q E hi st h => W.item i s Q E (by simpa using hi) st fun v h' tk hv => h v h' tk (by simpa using hv), done := fun s Q E st h => W.done s Q E (by simpa using st) h, self := W.self } (fun a ha => ?_) (fun i h st => by obtain ⟨o, ho, _⟩ := st.1; exact ⟨o, ho⟩) rfl ⟨⟨_, Heap.get?_push_size _ rfl, rfl, rfl⟩, hls.at fun o e => Heap.get?_push_of_some _ e⟩)
    rcases List.mem_cons.mp ha with rfl | ha
    · exact .inl rfl
    · rw [List.mem_singleton.mp ha]; exact .inr ⟨_, List.mem_singleton.mpr rfl⟩⟩
theorem fr_but' {h₀ h h' : Heap} {L I : Addr} {m : Str → Option Value} (F : Fr h₀ L h m) (hk : ∀ b o, b ∉ [I] → h.get? b = some o → h'.get? b = some o) (hL : L ≠ I) (hI : h₀.get? I = none) : Fr h₀ L h' m :=
  ⟨F.ns.at' fun o e => hk L o (by simpa using hL) e, fun b o e => hk b o (fun hm => by rw [List.mem_singleton.mp hm, hI] at e; cases e) (F.keep b o e), F.above⟩
theorem W_start {I : Addr} {oI : Obj} {fp : List Addr} {n : Nat} {P : Nat → Value → Prop} {St : Nat → Heap → Prop} {s : Shared} {A : Around} {objs N₀ : Led} {g : Heap} {L : Addr} (W : Walks prog w A I fp [I] n P St) (hI : I = s.heap.objs.size) (hfp : ∀ a ∈ fp, a = I ∨ ∃ o, (a, o) ∈ objs) (hfr : oI.isFreed = false) (st : St 0 (s.heap.push oI))
    (NN : News g L s.heap N₀) (ho : ∀ p ∈ objs, p ∈ N₀) : ∀ h, (h.get? I = some oI) → (∀ p ∈ objs, h.get? p.1 = some p.2) → St 0 h := fun h hi hp => W.frame 0 _ _ st fun a ha o e => by
  subst hI
  rcases hfp a ha with rfl | ⟨o', hm⟩
  · rw [Heap.get?_push_size _ hfr] at e; cases e; exact hi
  · have e1 := Heap.get?_push_of_some oI (NN _ (ho _ hm)).1
    rw [e1] at e; cases e
    exact hp _ hm
/-- a for over anything that can be walked -/
theorem SX.forS {x : Str} {px pos : Pos} {e : Expr} {body : List Stmt} {n : Nat} {P : Nat → Value → Prop} {objs : Led} (J : Nat → Map → Led → Prop) (he : WE b k m N e (fun v m' N' => Srcs b k N' v n P objs ∧ J 0 m' N')) (hJ : ∀ i m₁ N₁, J i m₁ N₁ → ∀ p ∈ objs, p ∈ N₁)
    (turn : ∀ i v m₁ N₁ It oI, i < n → P i v → J i m₁ N₁ → (∀ p ∈ N₁, p.1 ≠ It) → SX b k (setv m₁ x v) ((It, oI) :: N₁) body (fun f m' N' => match f with
      | .ret v => C (.ret v) m' N'
      | .brk => SX b k m' N' rest C
      | _ => ∃ N₂, (∀ p ∈ (It, oI) :: N₂, p ∈ N') ∧ (∀ p ∈ N₂, p.1 ≠ It) ∧ J (i + 1) m' N₂))
    (done : ∀ m₁ N₁, J n m₁ N₁ → SX b k m₁ N₁ rest C) (hx : autoParam ((k.env b.L).kindOf x = some .local) tRfl) (hs : autoParam (∀ x, foldedSetIterable e (k.env b.L) x = pure x) tIRfl) : SX b k m N (.For (.Name x px) e body [] pos :: rest) C := by
  refine SX.cons (C' := C) fun s Q F N hQ => ?_
  refine wpAny_For (he s _ F N fun v m₀ N₀ h₁ tk₁ c F₁ NN₁ => ?_) hs
  obtain ⟨⟨hsub, hit⟩, hj⟩ := c
  refine hit m₀ _ _ F₁ NN₁ fun oI St fp W hfp hlive hfr st => ?_
  have hst := W_start (s := { s with heap := h₁, toks := tk₁ }) W rfl hfp hfr st NN₁ hsub
  have up : ∀ a o, h₁.get? a = some o → (h₁.push oI).get? a = some o := fun a o e => Heap.get?_push_of_some _ e
  show codeAny _ _ (.forLoop (.Name x px) (.ref h₁.objs.size) body [] (k.env b.L)) _ _
  generalize hI : h₁.objs.size = I at *
  have F₂ : Fr F₁.g b.L (h₁.push oI) m₀ := F₁.fr.keeps up
  have N₂ : News F₁.g b.L (h₁.push oI) ((I, oI) :: N₀) := fun p hp => by
    rcases List.mem_cons.mp hp with rfl | hp
    · subst hI; exact ⟨Heap.get?_push_size _ hfr, Nat.ne_of_gt F₁.ns.lt, next_is_new F₁.fr⟩
    · exact ⟨up _ _ (NN₁ p hp).1, (NN₁ p hp).2⟩
  refine codeAny_forLoop (fun kk s' => ∃ h' tk i m₁ N₁ oI, ∃ F : FrB b h' m₁, s' = { s with heap := h', toks := tk } ∧ i ≤ n ∧ kk = n + 1 - i ∧ St i h' ∧ News F.g b.L h' ((I, oI) :: N₁) ∧ (∀ p ∈ N₁, p.1 ≠ I) ∧ J i m₁ N₁) (fun kk s' hI' => ?_) (n + 1)
    ⟨_, tk₁, 0, m₀, N₀, oI, F₁.of F₂, rfl, Nat.zero_le _, rfl, st, N₂, fun p hp => by subst hI; exact Nat.ne_of_lt (Heap.lt_size (NN₁ p hp).1), hj⟩
  obtain ⟨h', tk, i, m₁, N₁, oI, F', rfl, hi, rfl, hst', NN, off', hJ1⟩ := hI'
  have eI := NN (I, oI) (List.mem_cons_self ..)
  by_cases hlt : i < n
  · refine W.item i _ _ _ hlt hst' fun v h₂ tk₂ hPv hst₂ hk₂ => ?_
    have F₂' : Fr F'.g b.L h₂ m₁ := fr_but' F'.fr hk₂ (Ne.symm eI.2.1) eI.2.2
    obtain ⟨oI', heI⟩ := hlive _ _ hst₂
    have NN₂ : News F'.g b.L h₂ ((I, oI') :: N₁) := fun p hp => by
      rcases List.mem_cons.mp hp with rfl | hp
      · exact ⟨heI, eI.2⟩
      · have z := NN p (List.mem_cons_of_mem _ hp)
        exact ⟨hk₂ _ _ (by simpa using off' p hp) z.1, z.2⟩
    refine wpAny_assign_Name (wpAny_storeName_local hx F₂'.ns (fun h₃ hn₃ hs₃ => ?_) (by show (k.scope.kind == .class || (k.scope.kind == .module && b.L != mainGlobals)) = false; rw [k.fn]; rfl))
    have F₃ := F₂'.set hn₃ hs₃
    have NN₃ := NN₂.set hs₃
    have hst₃ : St (i + 1) h₃ := W.frame _ _ _ hst₂ fun a ha o e => by
      rcases hfp a ha with rfl | ⟨o', ho'⟩
      · rw [heI] at e; cases e; exact (NN₃ _ (List.mem_cons_self ..)).1
      · have hm := List.mem_cons_of_mem (I, oI') (hJ i m₁ N₁ hJ1 _ ho')
        rw [(NN₂ _ hm).1] at e; cases e
        exact (NN₃ _ hm).1
    have fin : ∀ m' N'' h₄ tk₄ (F₄ : FrB b h₄ m'), News F₄.g b.L h₄ N'' → (∃ N₂, (∀ p ∈ (I, oI') :: N₂, p ∈ N'') ∧ (∀ p ∈ N₂, p.1 ≠ I) ∧ J (i + 1) m' N₂) → ∃ kk', kk' < n + 1 - i ∧ ∃ h'' tk' i' m₃ N₂ oI₂, ∃ F : FrB b h'' m₃, ({ s with heap := h₄, toks := tk₄ } : Shared) = { s with heap := h'', toks := tk' } ∧ i' ≤ n ∧ kk' = n + 1 - i' ∧ St i' h'' ∧ News F.g b.L h'' ((I, oI₂) :: N₂) ∧ (∀ p ∈ N₂, p.1 ≠ I) ∧ J i' m₃ N₂ := by
      rintro m' N'' h₄ tk₄ F₄ N₄ ⟨N₂, sub₂, off₂, j₂⟩
      have N₄' := News.sub N₄ sub₂
      refine ⟨n + 1 - (i + 1), by omega, h₄, tk₄, i + 1, m', N₂, oI', F₄, rfl, hlt, rfl, ?_, N₄', off₂, j₂⟩
      refine W.frame _ _ _ hst₃ fun a ha o e => ?_
      rcases hfp a ha with rfl | ⟨o', ho'⟩
      · rw [(NN₃ _ (List.mem_cons_self ..)).1] at e
        cases e
        exact (N₄' _ (List.mem_cons_self ..)).1
      · rw [(NN₃ _ (List.mem_cons_of_mem _ (hJ i m₁ N₁ hJ1 _ ho'))).1] at e
        cases e
        exact (N₄' _ (List.mem_cons_of_mem _ (hJ (i + 1) m' N₂ j₂ _ ho'))).1
    refine wpAny_mono (turn i v m₁ N₁ I oI' hlt hPv hJ1 off' { s with heap := h₃, toks := _ } (fun f s₃ => match f with
      | .ret v => Q (.ret v) s₃
      | .brk => Q .next s₃
      | _ => ∃ kk', kk' < n + 1 - i ∧ ∃ h'' tk' i' m₃ N₂ oI₂, ∃ F : FrB b h'' m₃, s₃ = { s with heap := h'', toks := tk' } ∧ i' ≤ n ∧ kk' = n + 1 - i' ∧ St i' h'' ∧ News F.g b.L h'' ((I, oI₂) :: N₂) ∧ (∀ p ∈ N₂, p.1 ≠ I) ∧ J i' m₃ N₂) (F'.of F₃) NN₃ (fun f m' N'' h₄ tk₄ c F₄ N₄ => ?_)) (fun f s₃ h₃' => ?_) fun _ _ e => e.elim
    · cases f with
      | ret v => exact hQ (.ret v) m' N'' h₄ tk₄ c F₄ N₄
      | brk => exact hQ .next m' N'' h₄ tk₄ c F₄ N₄
      | next => exact fin m' N'' h₄ tk₄ F₄ N₄ c
      | cont => exact fin m' N'' h₄ tk₄ F₄ N₄ c
    · cases f with
      | ret v => exact h₃'
      | brk => exact h₃'
      | next => exact h₃'
      | cont => exact h₃'
  · obtain rfl : i = n := Nat.le_antisymm hi (Nat.not_lt.mp hlt)
    refine W.done _ _ _ hst' fun h₂ tk₂ hk₂ => wpAny_execs_nil ?_
    exact hQ .next m₁ N₁ h₂ tk₂ (done m₁ N₁ hJ1) (F'.of (fr_but' F'.fr hk₂ (Ne.symm eI.2.1) eI.2.2)) fun p hp => by
      have z := NN p (List.mem_cons_of_mem _ hp)
      exact ⟨hk₂ _ _ (by simpa using off' p hp) z.1, z.2⟩
theorem SX.for_ {x : Str} {px pos : Pos} {e : Expr} {body : List Stmt} {l : Addr} {vs : List Value} (J : Nat → Map → Led → Prop) (he : Ex b k m N e (IsV (.ref l))) (hj : J 0 m N) (hm : (∀ i m N, J i m N → (l, tupO vs) ∈ N) ∨ ∃ nl, ∀ i m N, J i m N → (l, listOf vs.toArray nl) ∈ N)
    (turn : ∀ i v m₁ N₁ It oI, vs[i]? = some v → J i m₁ N₁ → (∀ p ∈ N₁, p.1 ≠ It) → SX b k (setv m₁ x v) ((It, oI) :: N₁) body (fun f m' N' => match f with
      | .ret v => C (.ret v) m' N'
      | .brk => SX b k m' N' rest C
      | _ => ∃ N₂, (∀ p ∈ (It, oI) :: N₂, p ∈ N') ∧ (∀ p ∈ N₂, p.1 ≠ It) ∧ J (i + 1) m' N₂))
    (done : ∀ m₁ N₁, J vs.length m₁ N₁ → SX b k m₁ N₁ rest C) (hx : autoParam ((k.env b.L).kindOf x = some .local) tRfl) (hs : autoParam (∀ x, foldedSetIterable e (k.env b.L) x = pure x) tIRfl) : SX b k m N (.For (.Name x px) e body [] pos :: rest) C := by
  rcases hm with hm | ⟨nl, hm⟩
  · exact SX.forS J (he.wx fun v hv => by cases hv; exact ⟨Srcs.tuple (hm 0 m N hj), hj⟩) (fun i m₁ N₁ h p hp => by rw [List.mem_singleton.mp hp]; exact hm i m₁ N₁ h) (fun i v m₁ N₁ It oI _ => turn i v m₁ N₁ It oI) done hx hs
  · exact SX.forS J (he.wx fun v hv => by cases hv; exact ⟨Srcs.list (hm 0 m N hj), hj⟩) (fun i m₁ N₁ h p hp => by rw [List.mem_singleton.mp hp]; exact hm i m₁ N₁ h) (fun i v m₁ N₁ It oI _ => turn i v m₁ N₁ It oI) done hx hs
end

end Mine
end
section
open PySem PySem.W PyProof.Rows PySem.Calls
set_option maxRecDepth 100000
set_option maxHeartbeats 8000000
set_option linter.unusedVariables false
namespace Mine
def fsOf (q : Pk) : List Addr := q.outer.filterMap (·.frame)
/-- what a walk knows that may let frames' slots be written -/
def AmbT (w : World) (q : Pk) (h₀ : Heap) : Prop :=
  ∃ A₀ base, Below A₀ base q.outer h₀ ∧ (Kh w.params).In base ∧ ∃ v lo mean mg mb, Top v lo mean mg mb base
theorem AmbT.amb {w : World} {q : Pk} {h₀ : Heap} (x : AmbT w q h₀) : Amb w q h₀ := by
  obtain ⟨A₀, base, B, X, v, lo, mean, mg, mb, T⟩ := x
  exact ⟨⟨A₀, base, B⟩, X.keeps B.stays, ⟨v, lo, mean, mg, mb, T.keeps B.stays⟩⟩
theorem below_turn {A₀ : Around} {base g g' : Heap} {outer : List Env} (K : Below A₀ base outer g) (T : KtsTurn (outer.filterMap (·.frame)) g g') : Below A₀ base outer g' :=
  ⟨K.stack, fun b o e => T.other b o (K.stays b o e) (fun hm => by rw [(K.frames.mem hm).1] at e; cases e), K.frames.of_keeps fun b o e _ => by
    obtain ⟨sl, hs⟩ := T.up e
    exact ⟨_, hs, rfl⟩⟩
theorem AmbT.turn {w : World} {q : Pk} {g g' : Heap} (x : AmbT w q g) (T : KtsTurn (fsOf q) g g') : AmbT w q g' := by
  obtain ⟨A₀, base, B, X, r⟩ := x
  exact ⟨A₀, base, below_turn B T, X, r⟩
/-- a contract of a def that may let frames' slots be written -/
def SpecT (w : World) (f : Addr) (dn : Nat) (vs : List Value) (news : Led) (Post : Value → Led → Prop) : Prop :=
  ∀ (q : Pk) (cn : Str) (cs : Scope) (a : Addr) (ccd : Value) (cl : List (Str × Addr)) (h₀ : Heap) (L : Addr) (m : Str → Option Value) (s : Shared) (R : Result → Shared → Prop),
    AmbT w q h₀ → cs.kind = .function → Fr h₀ L s.heap m → News h₀ L s.heap news → q.dp + dn < recursionLimit → q.un + 8 * dn < cLine →
    (∀ r news' h₀' h' tk', Post r news' → KtsTurn (fsOf q) h₀ h₀' → Fr h₀' L h' m → News h₀' L h' news' → R (.ok (.ret r)) { s with heap := h', toks := tk' }) →
    codeAny (model prog w) (topC cn cs a ccd cl q L) (.call (.ref f) ⟨vs, []⟩) R s
theorem turn_back {A₀ : Around} {base h₀ g g' h' : Heap} {outer : List Env} {L L' : Addr} {m m' : Map} {news' : Led} (B : Below A₀ base outer h₀) (FG : Fr h₀ L g m) (T : KtsTurn (L :: outer.filterMap (·.frame)) g g') (F' : Fr g' L' h' m') (N' : News g' L' h' news') :
    ∃ h₀', KtsTurn (outer.filterMap (·.frame)) h₀ h₀' ∧ Fr h₀' L h' m ∧ News h₀' L h' news' := by
  have hL₀ : h₀.get? L = none := kts_self FG
  obtain ⟨oL, es, ep, hL, hLd, hLk, hLf⟩ := FG.ns
  obtain ⟨sl, hL'⟩ := T.frame L oL hL (List.mem_cons_self ..)
  obtain ⟨T', S⟩ := kts_turn_at (h := h') (fs := outer.filterMap (·.frame)) (g := h₀)
    (fun b hb => by obtain ⟨_, o, ho, _⟩ := B.frames.mem hb; exact ⟨o, ho⟩)
    (fun b o e nm => F'.keep _ _ (T.other b o (FG.keep b o e) fun hm => by
      rcases List.mem_cons.mp hm with rfl | hm
      · rw [hL₀] at e; cases e
      · exact nm hm))
    (fun b o e hm => by
      obtain ⟨sl, hs⟩ := T.frame b o (FG.keep b o e) (List.mem_cons_of_mem _ hm)
      exact ⟨sl, F'.keep _ _ hs⟩)
  have up : ∀ b o, h₀.get? b = some o → ∃ o', g'.get? b = some o' := fun b o e => by
    obtain ⟨sl, hs⟩ := T.up (FG.keep b o e)
    exact ⟨_, hs⟩
  refine ⟨_, T', ⟨⟨{ oL with slots := sl }, es, ep, F'.keep _ _ hL', hLd, hLk, hLf⟩, S, by rw [T'.size]; exact FG.above⟩, fun p hp => ⟨(N' p hp).1, fun e => ?_, ?_⟩⟩
  · have := (N' p hp).2.2; rw [e, hL'] at this; cases this
  · refine T'.none_ _ ?_
    cases q : h₀.get? p.1 with
    | none => rfl
    | some o =>
      obtain ⟨o', ho'⟩ := up _ _ q
      rw [(N' p hp).2.2] at ho'; cases ho'
theorem Spec.turn {w : World} {f : Addr} {dn : Nat} {vs : List Value} {news : Led} {Post : Value → Led → Prop} (S : Spec w f dn vs news Post) : SpecT w f dn vs news Post := by
  intro q cn cs a ccd cl h₀ L m s R hA hcs F N hd hu hret
  exact S q cn cs a ccd cl h₀ L m s R hA.amb hcs F N hd hu fun r n' h' tk' p F' N' => hret r n' h₀ h' tk' p KtsTurn.refl F' N'
/-- grounds may turn here -/
def Bs.Tu {w : World} {dn : Nat} (b : Bs w dn) : Prop := (∀ g, b.G g → AmbT w b.q g) ∧ ∀ g g', b.G g → KtsTurn (fsOf b.q) g g' → b.G g'
theorem Wx.specT {w : World} {dn : Nat} {b : Bs w dn} {k : Cd} {m : Map} {N : Led} {f : Addr} {dn' : Nat} {vs : List Value} {news : Led} {Post : Value → Led → Prop} {C : Value → Map → Led → Prop} (Tu : b.Tu) (S : SpecT w f dn' vs news Post) (hC : ∀ r N', Post r N' → C r m N') (hs : ∀ p ∈ news, p ∈ N := by exact fun _ h => h) (hd : autoParam (dn' ≤ dn) tDec) : Wx b k m N (PySem.call (.ref f) vs) C :=
  fun s Q F N' hQ => wpAny_call (S b.q k.qual k.scope k.f k.cdv (k.cl b.L) F.g b.L m s (fun r s' => match r with | .ok (.ret v) => Q v s' | .ok _ => False | .error e => False) (Tu.1 _ F.G) k.fn F.fr (News.sub N' hs) (by have := b.hdp; omega) (by have := b.hun; omega)
    fun r n' h₀' h' tk p T F' N'' => hQ r m n' h' tk (hC r n' p) ⟨h₀', Tu.2 _ _ F.G T, F'⟩ N'')
section
variable {w : World} {f : Addr} {dn : Nat} {vs : List Value} {news : Led} {Post : Value → Led → Prop} {name qual : Str} {params : Arguments} {body : List Stmt} {scope : Scope} {dV kV doc pm cdv ct oc : Value} {an od : Option Addr} {osl : Array (Option Value)}
theorem enterT {binds : List (Str × Value)} (ho : (Kh w.params).lookup f = some ⟨oc, od, .func (fnOf name qual params body scope dV kV doc pm an cdv ct), osl⟩) (hcd : codeIn (Kh w.params) cdv qual = true)
    (hbind : ∀ s : Shared, (Kh w.params).In s.heap → BindsTo s (fnOf name qual params body scope dV kV doc pm an cdv ct) ⟨vs, []⟩ binds) (hloc : ∀ y ∈ binds, scope.names.lookup y.1 = some .local)
    (hco : scope.isCoroutine = false) (hgen : scope.isGenerator = false) (hk : scope.kind = .function) (hcell : ∀ x ∈ scope.names, x.2 ≠ .cell)
    (h : ∀ b : Bs w dn, b.Tu → SX b ⟨qual, scope, f, cdv, hk, fun _ => []⟩ (fun y => binds.reverse.lookup y) news body (EndsC Post)) : SpecT w f (dn + 1) vs news Post := by
  intro q cn cs a ccd cl h₀ L m s R hA hcs F N hd hu hret
  obtain ⟨A₀, base, B, X, v, lo, mean, mg, mb, T⟩ := hA
  have X₀ := X.keeps B.stays
  have T₀ := T.keeps B.stays
  obtain ⟨FG, BG, st, _⟩ := groundX (R := R) (A := topC cn cs a ccd cl q L) (env := envX cn cs L a ccd cl) B F N rfl rfl hcs
  refine codeAny_call_def (fd := fnX name qual params body scope [] dV kV doc pm an cdv ct) (body := body) (binds := binds) (by show q.dp < recursionLimit; omega) ((X₀.keeps F.keep) _ _ ho) rfl (T₀.nolimit.keeps F.keep) (codeRec_of (X₀.keeps F.keep) hcd) rfl (hbind _ (X₀.keeps F.keep)) hcell hloc (fun h₁ hns hk₁ => ?_) hco hgen hk
  generalize hg : hideAll s.heap (news.map (·.1)) = g at FG BG st
  have F₁ : Fr g s.heap.objs.size h₁ (fun y => binds.reverse.lookup y) := ⟨hns, fun b o e => hk₁ b o (of_hideAll _ (hg ▸ e)), by subst hg; exact Nat.le_of_eq (hideAll_size _ _)⟩
  have N₁ : News g s.heap.objs.size h₁ news := fun p hp => ⟨hk₁ _ _ (N p hp).1, Nat.ne_of_lt (Heap.lt_size (N p hp).1), by subst hg; exact hideAll_none _ (List.mem_map_of_mem hp)⟩
  have hAT : AmbT w ⟨q.dp + 1, q.un + 3, q.gd, envX cn cs L a ccd cl :: q.outer⟩ g := ⟨_, base, BG, X, v, lo, mean, mg, mb, T⟩
  have hb := h ⟨⟨q.dp + 1, q.un + 3, q.gd, envX cn cs L a ccd cl :: q.outer⟩, s.heap.objs.size, fun g' => KtsTurn (L :: fsOf q) g g', fun g' t => (hAT.turn t).amb, by show q.dp + 1 + dn < recursionLimit; omega, by show q.un + 3 + 8 * dn < cLine; omega⟩
    ⟨fun g' t => hAT.turn t, fun g₁ g₂ t t' => t.trans t'⟩ { s with heap := h₁, toks := s.toks + binds.length } (fun fl s' => R (.ok (.ret (match fl with | .ret v => v | _ => .none))) s') ⟨g, KtsTurn.refl, F₁⟩ N₁ (fun fl m' N' h' tk c F' N'' => ?_)
  · exact wpAny_mono hb (fun _ _ x => x) fun _ _ x => x.elim
  obtain ⟨g', t, F'⟩ := F'
  obtain ⟨h₀', T', F₂, N₂⟩ := turn_back B FG t F' N''
  cases fl with
  | ret v => exact hret v N' h₀' h' tk c T' F₂ N₂
  | next => exact hret .none N' h₀' h' tk c T' F₂ N₂
  | brk => exact c.elim
  | cont => exact c.elim
end
end Mine
end
section
open PySem PySem.W PyProof.Rows PySem.Calls
set_option maxRecDepth 100000
set_option maxHeartbeats 8000000
set_option linter.unusedVariables false
namespace Mine
section
variable {w : World} {dn : Nat} (b : Bs w dn) (k : Cd)
/-- an exception lies before its handlers -/
def Lies (e : Addr) (cls : Value) (m : Map) (N : Led) (h : Heap) : Prop :=
  ∃ G B a0, ∃ F : FrB b G m, (∀ a o, G.get? a = some o → a ∉ b.L :: fsOf b.q → B.get? a = some o) ∧ (∀ q ∈ N, B.get? q.1 = some q.2 ∧ F.g.get? q.1 = none) ∧ Heap.FlyingW B (k.env b.L :: b.q.outer) e cls a0 h ∧ G.UpToSlots h ∧ B.get? b.L = none
end
section
variable {w : World} {dn : Nat} {b : Bs w dn} {k : Cd} {m : Map} {N : Led} {s : Shared} {e : Addr} {E : Value → Shared → Prop}
theorem fresh_lies {M : Model} {h : Heap} {X : String} {Q : Unit → Shared → Prop} (Tu : b.Tu) (F : FrB b h m) (NN : News F.g b.L h N) (hx : Heap.NewExc h s.heap e X) (hQ : ∀ h', Lies b k e (.type X) m N h' → Q () { s with heap := h' }) :
    wpAny M (b.A k) (noteFrame (.ref e) (k.env b.L)) (fun _ s₂ => wpAny M (b.A k) (setFlight (.ref e) none) Q E s₂) E s := by
  obtain ⟨A₀, base, K, _⟩ := Tu.1 _ F.G
  have K' := pushX (env := k.env b.L) K F.fr rfl k.fn
  have efs : (k.env b.L :: b.q.outer).filterMap (·.frame) = b.L :: fsOf b.q := rfl
  have hin : ∀ env ∈ (k.env b.L :: b.q.outer), ∀ a, env.frame = some a → a ∈ b.L :: fsOf b.q := fun env he a ha => List.mem_filterMap.mpr ⟨env, he, ha⟩
  have hL₀ : F.g.get? b.L = none := kts_self F.fr
  have sg : ∀ a o, h.get? a = some o → a ∉ b.L :: fsOf b.q → (hideAll h (b.L :: fsOf b.q)).get? a = some o := fun a o q nm => hideAll_get _ q nm
  have hl : ∀ q ∈ N, (hideAll h (b.L :: fsOf b.q)).get? q.1 = some q.2 ∧ F.g.get? q.1 = none := fun q hq => by
    refine ⟨hideAll_get _ (NN q hq).1 fun hm => ?_, (NN q hq).2.2⟩
    rcases List.mem_cons.mp hm with hm | hm
    · exact (NN q hq).2.1 hm
    · obtain ⟨o, ho, _⟩ := (K.frames.mem hm).2
      rw [(NN q hq).2.2] at ho; cases ho
  obtain ⟨ob, tp, he, hcls, hd⟩ := hx.there
  have hen : (hideAll h (b.L :: fsOf b.q)).get? e = none := by
    cases q : (hideAll h (b.L :: fsOf b.q)).get? e with
    | none => rfl
    | some o => have := of_hideAll _ q; rw [hx.new] at this; cases this
  have hff : s.heap.FunFrames (hideAll h (b.L :: fsOf b.q)) (k.env b.L :: b.q.outer) := (funFrames_hide K'.frames hin).of_keeps fun a o hb _ => ⟨o, hx.keeps a o hb, rfl⟩
  unfold noteFrame
  simp only [show (k.env b.L).frame = some b.L from rfl]
  refine wpAny_bind (wpAny_field he hd (x := .none) rfl ?_)
  rw [if_neg (by decide)]
  refine wpAny_entryW (a0 := tp) rfl hff rfl he (fun a o eb => hx.keeps a o (of_hideAll _ eb)) hen hd (by show 1 < 6; decide) rfl fun h₄ hN => ?_
  obtain ⟨k1, k2, k3, k4⟩ := hN
  rw [hcls] at k3
  refine wpAny_landsW (cls := .type X) (a0 := tp) (L := b.L) ⟨k1, hen, k2, k3⟩ fun h₅ hfl hsm => ?_
  exact hQ h₅ ⟨h, _, tp, F, sg, hl, hfl, ((Heap.UpToSlots.of_keeps hx.keeps).trans k4).trans hsm, hideAll_none _ (List.mem_cons_self ..)⟩
theorem lies_ground {cls : Value} {h : Heap} (Tu : b.Tu) (H : Lies b k e cls m N h) : ∃ F : FrB b h m, News F.g b.L h N := by
  obtain ⟨G, B, a0, F, hBG, hl, hfl, hsm, hL⟩ := H
  obtain ⟨A₀, base, K, _⟩ := Tu.1 _ F.G
  obtain ⟨g', T, F', _⟩ := kts_ground (name := k.qual) (scope := k.scope) (a := k.f) (cd := k.cdv) K F.fr hBG hfl.1 hsm
  exact ⟨⟨g', Tu.2 _ _ F.G T, F'⟩, fun q hq => ⟨hfl.1 _ _ (hl q hq).1, (fun z => by have := (hl q hq).1; rw [z, hL] at this; cases this), T.none_ _ (hl q hq).2⟩⟩
theorem Lies.up {cls : Value} {h h' : Heap} (H : Lies b k e cls m N h) (kp : ∀ a o, h.get? a = some o → h'.get? a = some o) : Lies b k e cls m N h' := by
  obtain ⟨G, B, a0, F, hBG, hl, hfl, hsm, hL⟩ := H
  exact ⟨G, B, a0, F, hBG, hl, flying_keeps hfl kp, hsm.trans (Heap.UpToSlots.of_keeps kp), hL⟩
theorem Lies.again {M : Model} {A : Around} {cls : Value} {Q : Unit → Shared → Prop} (H : Lies b k e cls m N s.heap) (hQ : ∀ h', Lies b k e cls m N h' → Q () { s with heap := h' }) : wpAny M A (setFlight (.ref e) none) Q E s := by
  obtain ⟨G, B, a0, F, hBG, hl, hfl, hsm, hL⟩ := H
  exact lands_againW hfl fun h' hfl' hsm' => hQ h' ⟨G, B, a0, F, hBG, hl, hfl', hsm.trans hsm', hL⟩
theorem Lies.ty {M : Model} {cls : Value} {h : Heap} (H : Lies b k e cls m N h) : Looks M h (typeOf (.ref e)) cls := by
  obtain ⟨G, B, a0, F, hBG, hl, hfl, hsm, hL⟩ := H
  obtain ⟨ob, hob, hc⟩ := hfl.there
  subst hc
  exact (Looks.ld hob).andThen .now
end
section
variable {w : World} {dn : Nat} {b : Bs w dn} {m : Map} {N : Led} {qual : Str} {scope : Scope} {f : Addr} {cdv : Value} {fn : scope.kind = .function} {s : Shared} {e : Addr}
/-- a handler without a name that takes it -/
theorem lies_hit {cls : Value} {t : Expr} {b₀ : Stmt} {suite : List Stmt} {pos : Pos} {rest : List ExceptHandler} {Q : Flow → Shared → Prop} (Tu : b.Tu) (H : Lies b ⟨qual, scope, f, cdv, fn, fun _ => []⟩ e cls m N s.heap)
    (T : ∀ p loose mg mb, KtsTest prog w (Kh w.params) p loose mg mb qual scope b.L f cdv cls t true)
    (kk : ∀ h' (F' : FrB b h' m), News F'.g b.L h' N → wpAny (model prog w) ((b.A ⟨qual, scope, f, cdv, fn, fun _ => []⟩).mark (some (.ref e))) (execs (b₀ :: suite) (Cd.env ⟨qual, scope, f, cdv, fn, fun _ => []⟩ b.L)) Q (fun _ _ => False) { s with heap := h' }) :
    wpAny (model prog w) (b.A ⟨qual, scope, f, cdv, fn, fun _ => []⟩) (handleBy (.ref e) (Cd.env ⟨qual, scope, f, cdv, fn, fun _ => []⟩ b.L) (.ExceptHandler (some t) none (b₀ :: suite) pos :: rest)) Q (fun _ _ => False) s := by
  obtain ⟨F, NN⟩ := lies_ground Tu H
  obtain ⟨v₀, lo, mean, mg, mb, TT⟩ := F.amb.top
  refine wpAny_handleBy_cons (codeAny_handlers_test ?_) (by intro q; cases q)
  refine T v₀ lo mg mb _ _ _ s F.g e m F.fr F.amb.inK (topRead_of TT) H.ty fun h' kp => ?_
  refine codeAny_handlers_suite ((H.up kp).again fun h₆ H₆ => ?_)
  obtain ⟨F₆, N₆⟩ := lies_ground Tu H₆
  exact wpAny_mono (kk h₆ F₆ N₆) (fun _ _ x => x) fun _ _ x => x.elim
end
end Mine
end
section
open PySem PySem.W PyProof.Rows PySem.Calls
set_option maxRecDepth 100000
set_option maxHeartbeats 8000000
namespace Mine
set_option linter.unusedVariables false
section
variable {w : World} {dn : Nat} {b : Bs w dn} {k : Cd} {m : Map} {N : Led} {C : Flow → Map → Led → Prop} {rest : List Stmt} {g : St} {z : Wires} {led rl : Led} {en : Env}
theorem Rd.sReady (G : Gs w g z led) (hs : ∀ p ∈ led, p ∈ N) : Rd b k m N (getAttr (.ref z.S) (Str.ofString "_ready_nodes") true) (IsV (g.rv z)) := fun s Q F N' hQ => by
  obtain ⟨k1, k2, k3, k4, t3, t4, hd⟩ := G.d
  refine' get_own (C := 137) F.fr F.amb.inK (InstAt.of_news N' (hs _ G.s) (hs _ hd)) ?k5 ?k6 ?k7 ?k8 ?k9 ?k10 ?_
  case k5 => k_is
  case k6 => k_is
  case k7 => k_is
  case k8 => k_is
  case k9 => exact rfl
  case k10 => unfold St.rv; cases g.rd <;> rfl
  exact hQ _ _ rfl
theorem Ex.sReady {o : Expr} {pos : Pos} (G : Gs w g z led) (ho : XE b k en m N o (IsV (.ref z.S))) (hs : ∀ p ∈ led, p ∈ N) (he : autoParam (eval (.Attribute o (Str.ofString "_ready_nodes") pos) en = (do
      let ov ← eval o en
      standAt pos.atName
      let r ← holding [ov] (getAttr ov (Str.ofString "_ready_nodes") true)
      letTemporaryGo o ov r
      pure r)) tUn) (hl : autoParam (∀ ov r, letTemporaryGo o ov r = pure ()) tIIUn) : XE b k en m N (.Attribute o (Str.ofString "_ready_nodes") pos) (IsV (g.rv z)) := Ex.attr ho (fun _ e => by cases e; exact Rd.sReady G hs) he hl
theorem Rd.sInfo (G : Gs w g z led) (hs : ∀ p ∈ led, p ∈ N) : Rd b k m N (getAttr (.ref z.S) (Str.ofString "_node2info") true) (IsV (.ref z.N)) := fun s Q F N' hQ => by
  obtain ⟨k1, k2, k3, k4, t3, t4, hd⟩ := G.d
  refine' get_own (C := 137) F.fr F.amb.inK (InstAt.of_news N' (hs _ G.s) (hs _ hd)) ?k5 ?k6 ?k7 ?k8 ?k9 ?k10 ?_
  case k5 => k_is
  case k6 => k_is
  case k7 => k_is
  case k8 => k_is
  case k9 => exact rfl
  case k10 => rfl
  exact hQ _ _ rfl
theorem Ex.sInfo {o : Expr} {pos : Pos} (G : Gs w g z led) (ho : XE b k en m N o (IsV (.ref z.S))) (hs : ∀ p ∈ led, p ∈ N) (he : autoParam (eval (.Attribute o (Str.ofString "_node2info") pos) en = (do
      let ov ← eval o en
      standAt pos.atName
      let r ← holding [ov] (getAttr ov (Str.ofString "_node2info") true)
      letTemporaryGo o ov r
      pure r)) tUn) (hl : autoParam (∀ ov r, letTemporaryGo o ov r = pure ()) tIIUn) : XE b k en m N (.Attribute o (Str.ofString "_node2info") pos) (IsV (.ref z.N)) := Ex.attr ho (fun _ e => by cases e; exact Rd.sInfo G hs) he hl
theorem Rd.sPass (G : Gs w g z led) (hs : ∀ p ∈ led, p ∈ N) : Rd b k m N (getAttr (.ref z.S) (Str.ofString "_npassedout") true) (IsI g.P) := fun s Q F N' hQ => by
  obtain ⟨k1, k2, k3, k4, t3, t4, hd⟩ := G.d
  refine' get_own (C := 137) F.fr F.amb.inK (InstAt.of_news N' (hs _ G.s) (hs _ hd)) ?k5 ?k6 ?k7 ?k8 ?k9 ?k10 ?_
  case k5 => k_is
  case k6 => k_is
  case k7 => k_is
  case k8 => k_is
  case k9 => exact rfl
  case k10 => rfl
  exact hQ _ _ ⟨_, rfl⟩
theorem Ex.sPass {o : Expr} {pos : Pos} (G : Gs w g z led) (ho : XE b k en m N o (IsV (.ref z.S))) (hs : ∀ p ∈ led, p ∈ N) (he : autoParam (eval (.Attribute o (Str.ofString "_npassedout") pos) en = (do
      let ov ← eval o en
      standAt pos.atName
      let r ← holding [ov] (getAttr ov (Str.ofString "_npassedout") true)
      letTemporaryGo o ov r
      pure r)) tUn) (hl : autoParam (∀ ov r, letTemporaryGo o ov r = pure ()) tIIUn) : XE b k en m N (.Attribute o (Str.ofString "_npassedout") pos) (IsI g.P) := Ex.attr ho (fun _ e => by cases e; exact Rd.sPass G hs) he hl
theorem Rd.sFin (G : Gs w g z led) (hs : ∀ p ∈ led, p ∈ N) : Rd b k m N (getAttr (.ref z.S) (Str.ofString "_nfinished") true) (IsI g.F) := fun s Q F N' hQ => by
  obtain ⟨k1, k2, k3, k4, t3, t4, hd⟩ := G.d
  refine' get_own (C := 137) F.fr F.amb.inK (InstAt.of_news N' (hs _ G.s) (hs _ hd)) ?k5 ?k6 ?k7 ?k8 ?k9 ?k10 ?_
  case k5 => k_is
  case k6 => k_is
  case k7 => k_is
  case k8 => k_is
  case k9 => exact rfl
  case k10 => rfl
  exact hQ _ _ ⟨_, rfl⟩
theorem Ex.sFin {o : Expr} {pos : Pos} (G : Gs w g z led) (ho : XE b k en m N o (IsV (.ref z.S))) (hs : ∀ p ∈ led, p ∈ N) (he : autoParam (eval (.Attribute o (Str.ofString "_nfinished") pos) en = (do
      let ov ← eval o en
      standAt pos.atName
      let r ← holding [ov] (getAttr ov (Str.ofString "_nfinished") true)
      letTemporaryGo o ov r
      pure r)) tUn) (hl : autoParam (∀ ov r, letTemporaryGo o ov r = pure ()) tIIUn) : XE b k en m N (.Attribute o (Str.ofString "_nfinished") pos) (IsI g.F) := Ex.attr ho (fun _ e => by cases e; exact Rd.sFin G hs) he hl
theorem Rd.nNp (G : Gs w g z led) {i : Nat} (hi : i < g.n) (hs : ∀ p ∈ led, p ∈ N) : Rd b k m N (getAttr (.ref (z.I i)) (Str.ofString "npredecessors") true) (IsI (g.np i)) := fun s Q F N' hQ => by
  obtain ⟨t1, t2, hm⟩ := G.node i hi
  refine' get_slot (C := 40) F.fr F.amb.inK (InstAt.of_news N' (hs _ hm) (hs _ (G.nd i hi))) ?k5 ?k6 ?k7 ?k8 ?k9 ?k10 ?k11 ?k12 ?_
  case k5 => k_is
  case k6 => k_is
  case k7 => k_is
  case k8 => k_is
  case k9 => k_is
  case k10 => k_is
  case k11 => exact rfl
  case k12 => exact rfl
  exact hQ _ _ ⟨_, rfl⟩
theorem Ex.nNp {o : Expr} {pos : Pos} (G : Gs w g z led) {i : Nat} (hi : i < g.n) (ho : XE b k en m N o (IsV (.ref (z.I i)))) (hs : ∀ p ∈ led, p ∈ N) (he : autoParam (eval (.Attribute o (Str.ofString "npredecessors") pos) en = (do
      let ov ← eval o en
      standAt pos.atName
      let r ← holding [ov] (getAttr ov (Str.ofString "npredecessors") true)
      letTemporaryGo o ov r
      pure r)) tUn) (hl : autoParam (∀ ov r, letTemporaryGo o ov r = pure ()) tIIUn) : XE b k en m N (.Attribute o (Str.ofString "npredecessors") pos) (IsI (g.np i)) := Ex.attr ho (fun _ e => by cases e; exact Rd.nNp G hi hs) he hl
theorem Rd.nSu (G : Gs w g z led) {i : Nat} (hi : i < g.n) (hs : ∀ p ∈ led, p ∈ N) : Rd b k m N (getAttr (.ref (z.I i)) (Str.ofString "successors") true) (IsV (.ref (z.SU i))) := fun s Q F N' hQ => by
  obtain ⟨t1, t2, hm⟩ := G.node i hi
  refine' get_slot (C := 40) F.fr F.amb.inK (InstAt.of_news N' (hs _ hm) (hs _ (G.nd i hi))) ?k5 ?k6 ?k7 ?k8 ?k9 ?k10 ?k11 ?k12 ?_
  case k5 => k_is
  case k6 => k_is
  case k7 => k_is
  case k8 => k_is
  case k9 => k_is
  case k10 => k_is
  case k11 => exact rfl
  case k12 => exact rfl
  exact hQ _ _ rfl
theorem Ex.nSu {o : Expr} {pos : Pos} (G : Gs w g z led) {i : Nat} (hi : i < g.n) (ho : XE b k en m N o (IsV (.ref (z.I i)))) (hs : ∀ p ∈ led, p ∈ N) (he : autoParam (eval (.Attribute o (Str.ofString "successors") pos) en = (do
      let ov ← eval o en
      standAt pos.atName
      let r ← holding [ov] (getAttr ov (Str.ofString "successors") true)
      letTemporaryGo o ov r
      pure r)) tUn) (hl : autoParam (∀ ov r, letTemporaryGo o ov r = pure ()) tIIUn) : XE b k en m N (.Attribute o (Str.ofString "successors") pos) (IsV (.ref (z.SU i))) := Ex.attr ho (fun _ e => by cases e; exact Rd.nSu G hi hs) he hl
theorem Rd.nNode (G : Gs w g z led) {i : Nat} (hi : i < g.n) (hs : ∀ p ∈ led, p ∈ N) : Rd b k m N (getAttr (.ref (z.I i)) (Str.ofString "node") true) (IsI (i : Int)) := fun s Q F N' hQ => by
  obtain ⟨t1, t2, hm⟩ := G.node i hi
  refine' get_slot (C := 40) F.fr F.amb.inK (InstAt.of_news N' (hs _ hm) (hs _ (G.nd i hi))) ?k5 ?k6 ?k7 ?k8 ?k9 ?k10 ?k11 ?k12 ?_
  case k5 => k_is
  case k6 => k_is
  case k7 => k_is
  case k8 => k_is
  case k9 => k_is
  case k10 => k_is
  case k11 => exact rfl
  case k12 => exact rfl
  exact hQ _ _ ⟨_, rfl⟩
theorem Ex.nNode {o : Expr} {pos : Pos} (G : Gs w g z led) {i : Nat} (hi : i < g.n) (ho : XE b k en m N o (IsV (.ref (z.I i)))) (hs : ∀ p ∈ led, p ∈ N) (he : autoParam (eval (.Attribute o (Str.ofString "node") pos) en = (do
      let ov ← eval o en
      standAt pos.atName
      let r ← holding [ov] (getAttr ov (Str.ofString "node") true)
      letTemporaryGo o ov r
      pure r)) tUn) (hl : autoParam (∀ ov r, letTemporaryGo o ov r = pure ()) tIIUn) : XE b k en m N (.Attribute o (Str.ofString "node") pos) (IsI (i : Int)) := Ex.attr ho (fun _ e => by cases e; exact Rd.nNode G hi hs) he hl

theorem Wx.setNp {i : Nat} {j : Int} {v : Value} {C : Unit → Map → Led → Prop} (hv : IsI j v) (G : Gs w g z led) (ap : Apart led rl) (hi : i < g.n) (hs : ∀ p ∈ led ++ rl, p ∈ N) (h : ∀ led', Apart led' rl → Gs w (g.setNp i j) z led' → (∀ a o, (a, o) ∈ led → a ≠ z.I i → (a, o) ∈ led') → C () m (led' ++ rl)) :
    Wx b k m N (setAttr (.ref (z.I i)) (Str.ofString "npredecessors") v) C := fun s Q F N' hQ => by
  obtain ⟨t, rfl⟩ := hv
  exact setNpS F.fr F.amb.inK N' hs ap G hi fun h' led' F' N'' ap' G' kp => hQ () m _ h' _ (h led' ap' G' kp) (F.of F') N''
theorem Wx.addSu {i p : Nat} {v : Value} {C : Value → Map → Led → Prop} (hv : IsI (p : Int) v) (G : Gs w g z led) (ap : Apart led rl) (hi : i < g.n) (hl : (g.su i).length ≤ 100) (hs : ∀ p ∈ led ++ rl, p ∈ N) (h : ∀ led', Apart led' rl → Gs w (g.addSu i p) z led' → C .none m (led' ++ rl)) :
    Wx b k m N (call (.builtin "list.append") [.ref (z.SU i), v]) C := fun s Q F N' hQ => by
  obtain ⟨t, rfl⟩ := hv
  exact addSuS F.fr N' hs ap G hi hl fun h' led' F' N'' ap' G' => hQ .none m _ h' _ (h led' ap' G') (F.of F') N''
end

end Mine
end
section
open PySem PySem.W PyProof.Rows PySem.Calls
set_option maxRecDepth 100000
set_option maxHeartbeats 8000000
namespace Mine
set_option linter.unusedVariables false
theorem enterR2 {w : World} {f : Addr} {dn : Nat} {vs : List Value} {news : Led} {Post : List Value → Value → Led → Prop} {name qual : Str} {params : Arguments} {body : List Stmt} {scope : Scope} {dV kV doc pm cdv ct oc : Value} {an od : Option Addr} {osl : Array (Option Value)}
    {g₀ : Addr → Option (List (Str × Value))} {g₁ : Value → Addr → Option (List (Str × Value))} {binds : Addr → List (Str × Value)} (ho : (Kh w.params).lookup f = some ⟨oc, od, .func (fnOf name qual params body scope dV kV doc pm an cdv ct), osl⟩) (hcd : codeIn (Kh w.params) cdv qual = true)
    (hv0 : vs.drop (params.posonlyargs.length + params.args.length) = []) (hv1 : ∀ x, (vs ++ [x]).drop (params.posonlyargs.length + params.args.length) = [x])
    (hp : peek1 (Kh w.params) ⟨prog, w.params⟩ (bindArgs (fnOf name qual params body scope dV kV doc pm an cdv ct) ⟨vs, []⟩) = some (({ cls := .type "tuple", data := .seq ([] : List Value).toArray } : Obj), g₀)) (hg : ∀ D, g₀ D = some (binds D))
    (hp1 : ∀ x, peek1 (Kh w.params) ⟨prog, w.params⟩ (bindArgs (fnOf name qual params body scope dV kV doc pm an cdv ct) ⟨vs ++ [x], []⟩) = some (({ cls := .type "tuple", data := .seq [x].toArray } : Obj), g₁ x)) (hg1 : ∀ x D, g₁ x D = some (binds D))
    (hloc : ∀ D, ∀ y ∈ binds D, scope.names.lookup y.1 = some .local)
    (hco : scope.isCoroutine = false) (hgen : scope.isGenerator = false) (hk : scope.kind = .function) (hcell : ∀ x ∈ scope.names, x.2 ≠ .cell)
    {Pu : List Value → Prop} (h : ∀ us, us.length ≤ 1 → Pu us → ∀ D, (∀ p ∈ news, p.1 < D) → BodyOk w dn qual body scope f cdv (binds D) ((D, tupO us) :: news) (Post us)) : ∀ us, us.length ≤ 1 → Pu us → Spec w f (dn + 1) (vs ++ us) news (Post us)
  | [], _, hP => by
    have := enterR (Post := Post []) ho hcd hv0 hp hg hloc hco hgen hk hcell (h [] (by simp) hP)
    rw [List.append_nil]; exact this
  | [x], _, hP => enterR (Post := Post [x]) ho hcd (hv1 x) (hp1 x) (hg1 x) hloc hco hgen hk hcell (h [x] (by simp) hP)
  | _ :: _ :: _, hl, _ => by simp at hl
def St.addAll (g : St) (k : Nat) (ps : List Nat) : St := ps.foldl (fun g p => g.addSu p k) ((g.grow k).setNp k ((g.grow k).np k + ps.length))
theorem sub_mid {x : Addr × Obj} {a c : Led} : ∀ p ∈ a ++ x :: c, p ∈ x :: (a ++ c) := fun p hp => by
  rcases List.mem_append.mp hp with h | h
  · exact List.mem_cons_of_mem _ (List.mem_append_left _ h)
  · rcases List.mem_cons.mp h with rfl | h
    · exact List.mem_cons_self ..
    · exact List.mem_cons_of_mem _ (List.mem_append_right _ h)
theorem sub_mid' {x : Addr × Obj} {a c : Led} : ∀ p ∈ x :: (a ++ c), p ∈ a ++ x :: c := fun p hp => by
  rcases List.mem_cons.mp hp with rfl | h
  · exact List.mem_append_right _ (List.mem_cons_self ..)
  · rcases List.mem_append.mp h with h | h
    · exact List.mem_append_left _ h
    · exact List.mem_append_right _ (List.mem_cons_of_mem _ h)
theorem apart_cons {led rl : Led} {D : Addr} {o : Obj} (ap : Apart led rl) (h : ∀ p ∈ led, p.1 ≠ D) : Apart led ((D, o) :: rl) := fun p hp r hr => by
  rcases List.mem_cons.mp hr with rfl | hr
  · exact h p hp
  · exact ap p hp r hr
theorem apart_tail {led rl : Led} {x : Addr × Obj} (ap : Apart led (x :: rl)) : Apart led rl := fun p hp r hr => ap p hp r (List.mem_cons_of_mem _ hr)
theorem St.grow_lt {g : St} {i : Nat} (h : i ≤ g.n) : i < (g.grow i).n ∧ g.n ≤ (g.grow i).n ∧ (g.grow i).n ≤ g.n + 1 ∧ (g.grow i).rd = g.rd := by
  unfold St.grow
  split
  · exact ⟨by assumption, by omega, by omega, rfl⟩
  · exact ⟨Nat.lt_succ_self _, by show g.n ≤ i + 1; omega, by show i + 1 ≤ g.n + 1; omega, rfl⟩
theorem St.grow_su {g : St} {i : Nat} (hs : ∀ j, (g.su j).length ≤ 50) : ∀ j, ((g.grow i).su j).length ≤ 50 := fun j => by
  unfold St.grow
  split
  · exact hs j
  · simp only [upd]; split <;> simp [hs j]
def AddJ (w : World) (g2 : St) (z1 : Wires) (ps : List Nat) (i : Nat) (t : Tok) (D : Addr) (us : List Value) (rl : Led) (j : Nat) (m : Map) (N : Led) : Prop :=
  ∃ led, N = led ++ (D, tupO us) :: rl ∧ Apart led ((D, tupO us) :: rl) ∧ Gs w ((ps.take j).foldl (fun g p => g.addSu p i) g2) z1 led ∧ m (Str.ofString "self") = some (.ref z1.S) ∧ m (Str.ofString "node") = some (.int (i : Int) t)
theorem addSu_keeps (ps : List Nat) (i : Nat) : ∀ g : St, (ps.foldl (fun g p => g.addSu p i) g).n = g.n ∧ (ps.foldl (fun g p => g.addSu p i) g).rd = g.rd ∧ ∀ j, ((ps.foldl (fun g p => g.addSu p i) g).su j).length ≤ (g.su j).length + ps.length := by
  induction ps with
  | nil => intro g; exact ⟨rfl, rfl, fun j => Nat.le_refl _⟩
  | cons p ps ih =>
    intro g
    obtain ⟨a, b, c⟩ := ih (g.addSu p i)
    refine ⟨a, b, fun j => ?_⟩
    have h1 := c j
    have h2 : ((g.addSu p i).su j).length ≤ (g.su j).length + 1 := by
      simp only [St.addSu, upd]
      split
      · next e => subst e; simp
      · omega
    simp only [List.foldl_cons, List.length_cons]
    omega
theorem add_spec (w : World) (g : St) (z : Wires) (led rl : Led) (i : Nat) (t : Tok) (ps : List Nat) (G : Gs w g z led) (hf : Fun led) (ap : Apart led rl) (hr : g.rd = none) (hi : i ≤ g.n) (hn : g.n ≤ 50) (hs : ∀ j, (g.su j).length ≤ 50) (hp : ∀ p ∈ ps, p < g.n) : ∀ us, us.length ≤ 1 → AreN us ps →
  Spec w 87 6 ([.ref z.S, .int (i : Int) t] ++ us) (led ++ rl) (fun r n' => r = .none ∧ ∃ z', z'.S = z.S ∧ Turned w (g.addAll i ps) z' rl n') := by
  k_dflt (refine' enterR2 (binds := fun D => [(Str.ofString "self", .ref z.S), (Str.ofString "node", .int (i : Int) t), (Str.ofString "predecessors", .ref D)]) ?k6 ?k7 ?kv ?kw ?kp ?kg ?kq ?kh ?kB ?c2 ?c3 ?c4 ?c5 ?_; (case k6 => k_is); (case k7 => k_is); (case kv => exact rfl); (case kw => exact fun _ => rfl); (case kp => exact rfl); (case kg => exact fun _ => rfl); (case kq => exact fun _ => rfl); (case kh => exact fun _ _ => rfl); (case c5 => decide); (case kB => exact fun _ => locs rfl); (case c2 => exact rfl); (case c3 => exact rfl); (case c4 => exact rfl); k_whole)
  intro us hus hu D hD
  refine BodyOk.ofSX rfl ?_
  intro b

  have ap' : Apart led ((D, tupO us) :: rl) := apart_cons ap fun p hp => Nat.ne_of_lt (hD p (List.mem_append_left _ hp))
  have hled : ∀ p ∈ led, p ∈ (D, tupO us) :: (led ++ rl) := fun p hp => List.mem_cons_of_mem _ (List.mem_append_left _ hp)
  obtain ⟨k1, k2, k3, k4, t3, t4, hd⟩ := G.d
  refine SX.if_ (Tst.isNotNone (Ex.sReady G (Ex.name rfl) hled) Ex.noneE) (fun h => ?_) (fun _ => SX.nil ?_)
  · simp only [St.rv, hr] at h; cases h
  refine SX.assignW (WE.meth (Ex.name rfl) (hled _ G.s) (hled _ hd) (by k_is) (by k_is) (by k_is) rfl (by k_is) (Ars.one (Ex.name rfl)) fun vs hvs => ?_)
  obtain ⟨v, rfl, hv⟩ := hvs; cases hv
  refine Wx.spec (getnode_G w g z led ((D, tupO us) :: rl) i t G hf ap' hr hi (by omega)) ?_ (hs := sub_mid)
  rintro r N' ⟨z1, hz1, rfl, led1, rfl, ap1, G1⟩
  obtain ⟨hi1, hn1, hn2, hr1⟩ := St.grow_lt hi
  have hsu1 := St.grow_su (i := i) hs
  have hlen := hu.len
  refine SX.augAttr (Ex.name rfl) (fun v hv => by cases hv; exact Rd.nNp G1 hi1 (fun p hp => List.mem_append_left _ hp)) (Ex.call1 (Ex.blt (by k_is) (by boot_by_name)) (Ex.name rfl) (fun v hv => by cases hv; exact Rd.lenT (vs := us) (List.mem_append_right _ (List.mem_cons_self ..)) (by omega))) (fun _ _ => Rd.iadd) fun v ov hv hov => ?_
  cases hov
  refine Wx.setNp hv G1 ap1 hi1 (fun _ h => h) fun led2 ap2 G2 _ => ?_
  rw [hlen] at G2
  have q1 : ((g.grow i).setNp i ((g.grow i).np i + (ps.length : Nat))).n = (g.grow i).n := rfl
  have q2 : ((g.grow i).setNp i ((g.grow i).np i + (ps.length : Nat))).su = (g.grow i).su := rfl
  have q3 : g.addAll i ps = ps.foldl (fun g p => g.addSu p i) ((g.grow i).setNp i ((g.grow i).np i + (ps.length : Nat))) := rfl
  rw [q3]
  clear q3
  generalize (g.grow i).setNp i ((g.grow i).np i + (ps.length : Nat)) = g2 at *
  refine SX.for_ (l := D) (vs := us) (AddJ w g2 z1 ps i t D us rl) (Ex.name rfl) ⟨led2, rfl, ap2, G2, by rw [hz1]; exact rfl, rfl⟩ (Or.inl fun j m N ⟨led3, e, _⟩ => by rw [e]; exact List.mem_append_right _ (List.mem_cons_self ..)) ?_ ?_
  · rintro j v m₁ N₁ It oI hj ⟨led3, rfl, ap3, G3, e1, e2⟩ ho
    obtain ⟨p, tp, hjp, rfl⟩ := hu.get hj
    have hpl : p < g.n := hp p (List.mem_of_getElem? hjp)
    obtain ⟨a1, a2, a3⟩ := addSu_keeps (ps.take j) i g2
    have hpg : p < ((ps.take j).foldl (fun g p => g.addSu p i) g2).n := by rw [a1, q1]; omega
    have hsz : (((ps.take j).foldl (fun g p => g.addSu p i) g2).su p).length ≤ 100 := by
      have b1 := a3 p
      have b2 := hsu1 p
      rw [q2] at b1
      have b3 : (ps.take j).length ≤ ps.length := by rw [List.length_take]; omega
      omega
    have hsub : ∀ p ∈ led3, p ∈ (It, oI) :: (led3 ++ (D, tupO us) :: rl) := fun p hp => List.mem_cons_of_mem _ (List.mem_append_left _ hp)
    have ap4 : Apart led3 ((It, oI) :: (D, tupO us) :: rl) := apart_cons ap3 fun p hp => ho p (List.mem_append_left _ hp)
    obtain ⟨k1, k2, k3, k4, t3, t4, hd⟩ := G3.d
    have hnext : (ps.take (j + 1)).foldl (fun g p => g.addSu p i) g2 = ((ps.take j).foldl (fun g p => g.addSu p i) g2).addSu p i := by
      rw [List.take_add_one, hjp, List.foldl_append]; rfl
    generalize (ps.take j).foldl (fun g p => g.addSu p i) g2 = g3 at *
    refine SX.assignW (WE.meth (Ex.name e1) (hsub _ G3.s) (hsub _ hd) (by k_is) (by k_is) (by k_is) rfl (by k_is) (Ars.one (Ex.name rfl)) fun vs hvs => ?_)
    obtain ⟨v, rfl, hv⟩ := hvs; cases hv
    refine Wx.spec (getnode_S w g3 z1 led3 ((It, oI) :: (D, tupO us) :: rl) p tp G3 hpg) ?_ (hs := sub_mid)
    rintro r N' ⟨rfl, rfl⟩
    refine SX.expr (WE.bmeth (id := "list.append") (Ex.nSu G3 hpg (Ex.name rfl) (fun p hp => List.mem_append_left _ hp)) (fun pl => ?_) (Ex.nameI e2) fun v hv => ?_)
    · obtain ⟨vs, mm, hm, _⟩ := G3.su p hpg
      exact Rd.append (List.mem_append_left _ hm) pl
    · refine Wx.addSu hv G3 ap4 hpg hsz (fun _ h => h) fun led4 ap5 G5 => ⟨rfl, SX.nil ⟨led4 ++ (D, tupO us) :: rl, sub_mid', ?_, led4, rfl, apart_tail ap5, by rw [hnext]; exact G5, e1, e2⟩⟩
      intro p hp
      rcases List.mem_append.mp hp with hp | hp
      · exact ap5 p hp _ (List.mem_cons_self ..)
      · exact ho p (List.mem_append_right _ hp)
  · rintro m₁ N₁ ⟨led3, rfl, ap3, G3, e1, e2⟩
    rw [hlen, List.take_length] at G3
    exact Wx.sub (N' := led3 ++ rl) (SX.nil ⟨rfl, z1, hz1, led3, rfl, apart_tail ap3, G3⟩) fun p hp => by
      rcases List.mem_append.mp hp with h | h
      · exact List.mem_append_left _ h
      · exact List.mem_append_right _ (List.mem_cons_of_mem _ h)

end Mine
end
section
open PySem PySem.W PyProof.Rows PySem.Calls
set_option maxRecDepth 100000
set_option maxHeartbeats 8000000
namespace Mine
set_option linter.unusedVariables false
theorem sort_ne {w : World} {k1 k2 k3 k4 : Tok} {N : Addr} {R : Value} {P F : Int} {t3 t4 : Tok} : dictOf [] 0 ≠ sortO w k1 k2 k3 k4 N R P F t3 t4 := fun e => by
  have := congrArg Obj.data e
  cases this
theorem Gs.setD {w : World} {g g' : St} {z : Wires} {led : Led} (G : Gs w g z led) (hf : Fun led) {k1 k2 k3 k4 t3 t4 k1' k2' k3' k4' t3' t4' : Tok} (hm : (z.DS, sortO w k1 k2 k3 k4 z.N (g.rv z) g.P g.F t3 t4) ∈ led) (e1 : g'.n = g.n) (e2 : g'.np = g.np) (e3 : g'.su = g.su) (e4 : g'.rd = g.rd) :
    Gs w g' z (put led z.DS (sortO w k1' k2' k3' k4' z.N (g.rv z) g'.P g'.F t3' t4')) where
  s := put_keep hf hm G.s (by intro e; cases e)
  d := ⟨k1', k2', k3', k4', t3', t4', by have : g'.rv z = g.rv z := by simp only [St.rv, e4]
                                         rw [this]; exact List.mem_cons_self ..⟩
  nn := by obtain ⟨o, h, ho⟩ := G.nn; exact ⟨o, put_keep' h G.sn, by rw [e1]; exact ho⟩
  lo := G.lo
  sn := G.sn
  node := fun j hj => by rw [e1] at hj; obtain ⟨a, b, h⟩ := G.node j hj; exact ⟨a, b, by rw [e2]; exact put_keep hf hm h (by intro e; cases e)⟩
  nd := fun j hj => put_keep hf hm (G.nd j (e1 ▸ hj)) sort_ne
  dn := fun j hj => G.dn j (e1 ▸ hj)
  su := fun j hj => by rw [e1] at hj; obtain ⟨vs, m, h, hv⟩ := G.su j hj; exact ⟨vs, m, put_keep hf hm h dict_ne_lst.symm, by rw [e3]; exact hv⟩
  inj := fun j hj i hi => G.inj j (e1 ▸ hj) i (e1 ▸ hi)
  rd := fun l hl => by rw [e4] at hl; obtain ⟨⟨vs, m, h, hv⟩, h2⟩ := G.rd l hl; exact ⟨⟨vs, m, put_keep hf hm h dict_ne_lst.symm, hv⟩, fun j hj => h2 j (e1 ▸ hj)⟩
def St.setRd (g : St) (l : List Nat) : St := { g with rd := some l }
theorem Gs.setL {w : World} {g : St} {z : Wires} {led : Led} (G : Gs w g z led) (hf : Fun led) {l l' : List Nat} {vs vs' : List Value} {m m' : Nat} (hl : g.rd = some l) (hm : (z.RD, listOf vs.toArray m) ∈ led) (hv : AreN vs' l') :
    Gs w (g.setRd l') z (put led z.RD (listOf vs'.toArray m')) where
  s := put_keep hf hm G.s (by intro e; cases e)
  d := by
    obtain ⟨k1, k2, k3, k4, t3, t4, h⟩ := G.d
    have : (g.setRd l').rv z = g.rv z := by simp only [St.rv, St.setRd, hl]
    rw [this]
    exact ⟨k1, k2, k3, k4, t3, t4, put_keep hf hm h dict_ne_lst⟩
  nn := by obtain ⟨o, h, ho⟩ := G.nn; exact ⟨o, put_keep hf hm h (dict_ne_list ho), ho⟩
  lo := G.lo
  sn := G.sn
  node := fun j hj => by obtain ⟨a, b, h⟩ := G.node j hj; exact ⟨a, b, put_keep hf hm h (by intro e; cases e)⟩
  nd := fun j hj => put_keep hf hm (G.nd j hj) dict_ne_lst
  dn := G.dn
  su := fun j hj => by obtain ⟨vs, m, h, hv⟩ := G.su j hj; exact ⟨vs, m, put_keep' h (fun e => (G.rd l hl).2 j hj e.symm), hv⟩
  inj := G.inj
  rd := fun l₂ hl₂ => by
    cases hl₂
    exact ⟨⟨vs', m', List.mem_cons_self .., hv⟩, (G.rd l hl).2⟩
section
variable {w : World} {dn : Nat} {b : Bs w dn} {k : Cd} {m : Map} {N : Led} {C : Flow → Map → Led → Prop} {rest : List Stmt} {g : St} {z : Wires} {led rl : Led} {en : Env}
theorem Wx.setP {v : Value} {j : Int} {C : Unit → Map → Led → Prop} (hv : IsI j v) (G : Gs w g z led) (ap : Apart led rl) (hs : ∀ p ∈ led ++ rl, p ∈ N) (h : ∀ led', Apart led' rl → Gs w { g with P := j } z led' → C () m (led' ++ rl)) :
    Wx b k m N (setAttr (.ref z.S) (Str.ofString "_npassedout") v) C := fun s Q F N' hQ => by
  obtain ⟨t, rfl⟩ := hv
  obtain ⟨k1, k2, k3, k4, t3, t4, hm⟩ := G.d
  have hf : Fun led := fun_of N' fun p hp => hs p (List.mem_append_left _ hp)
  have I := InstAt.of_news N' (hs _ (List.mem_append_left _ G.s)) (hs _ (List.mem_append_left _ hm))
  refine' set_dict (C := 137) F.fr F.amb.inK (News.sub N' (put_subR hm hs)) I rfl ?k6 ?k7 ?k8 ?k9 ?k10 ?k11 (put_upd hm ap) ?k13 ?_
  case k6 => k_is
  case k7 => k_is
  case k8 => k_is
  case k9 => k_is
  case k10 => exact rfl
  case k11 => exact rfl
  case k13 => exact Nat.le_of_ble_eq_true rfl
  intro h' F' N''
  exact hQ () m _ h' _ (h _ (put_apart hm ap) (G.setD hf hm rfl rfl rfl rfl)) (F.of F') N''

theorem Wx.setF {v : Value} {j : Int} {C : Unit → Map → Led → Prop} (hv : IsI j v) (G : Gs w g z led) (ap : Apart led rl) (hs : ∀ p ∈ led ++ rl, p ∈ N) (h : ∀ led', Apart led' rl → Gs w { g with F := j } z led' → C () m (led' ++ rl)) :
    Wx b k m N (setAttr (.ref z.S) (Str.ofString "_nfinished") v) C := fun s Q F N' hQ => by
  obtain ⟨t, rfl⟩ := hv
  obtain ⟨k1, k2, k3, k4, t3, t4, hm⟩ := G.d
  have hf : Fun led := fun_of N' fun p hp => hs p (List.mem_append_left _ hp)
  have I := InstAt.of_news N' (hs _ (List.mem_append_left _ G.s)) (hs _ (List.mem_append_left _ hm))
  refine' set_dict (C := 137) F.fr F.amb.inK (News.sub N' (put_subR hm hs)) I rfl ?k6 ?k7 ?k8 ?k9 ?k10 ?k11 (put_upd hm ap) ?k13 ?_
  case k6 => k_is
  case k7 => k_is
  case k8 => k_is
  case k9 => k_is
  case k10 => exact rfl
  case k11 => exact rfl
  case k13 => exact Nat.le_of_ble_eq_true rfl
  intro h' F' N''
  exact hQ () m _ h' _ (h _ (put_apart hm ap) (G.setD hf hm rfl rfl rfl rfl)) (F.of F') N''

theorem Wx.addRd {l : List Nat} {p : Nat} {v : Value} {C : Value → Map → Led → Prop} (hv : IsI (p : Int) v) (G : Gs w g z led) (ap : Apart led rl) (hl : g.rd = some l) (hz : l.length ≤ 100) (hs : ∀ p ∈ led ++ rl, p ∈ N) (h : ∀ led', Apart led' rl → Gs w (g.setRd (l ++ [p])) z led' → (∀ a o, (a, o) ∈ led → a ≠ z.RD → (a, o) ∈ led') → C .none m (led' ++ rl)) :
    Wx b k m N (call (.builtin "list.append") [.ref z.RD, v]) C := fun s Q F N' hQ => by
  obtain ⟨t, rfl⟩ := hv
  obtain ⟨⟨vs, mm, hm, hv⟩, _⟩ := G.rd l hl
  have hf : Fun led := fun_of N' fun p hp => hs p (List.mem_append_left _ hp)
  refine appendS F.fr (News.sub N' (put_subR hm hs)) ⟨rfl, by rw [hv.len]; omega⟩ (put_upd hm ap) fun h' F' N'' => ?_
  exact hQ .none m _ h' _ (h _ (put_apart hm ap) (G.setL hf hl hm (hv.app p t)) fun _ _ => put_keep') (F.of F') N''
theorem WE.clrRd {o : Expr} {ap' pos : Pos} {l : List Nat} {C : Value → Map → Led → Prop} (ho : XE b k en m N o (IsV (.ref z.RD))) (G : Gs w g z led) (ap : Apart led rl) (hl : g.rd = some l) (hz : l.length ≤ 100) (hs : ∀ p ∈ led ++ rl, p ∈ N) (h : ∀ led', Apart led' rl → Gs w (g.setRd []) z led' → C .none m (led' ++ rl))
    (h1 : ∃ pl, eval (.Call (.Attribute o (Str.ofString "clear") ap') [] [] pos) en = (do
      let ov ← eval o en
      standAt ap'.atName
      let (f, first) ← holding [ov] (getMethod ov (Str.ofString "clear") pl)
      callWith pos f first (backTo pos (starEach [] en)) []) := by exact ⟨_, rfl⟩) : WXE b k en m N (.Call (.Attribute o (Str.ofString "clear") ap') [] [] pos) C := fun s Q F N' hQ => by
  obtain ⟨pl, h1⟩ := h1
  obtain ⟨⟨vs, mm, hm, hv⟩, _⟩ := G.rd l hl
  have hf : Fun led := fun_of N' fun p hp => hs p (List.mem_append_left _ hp)
  refine MethodCall_ (pl := pl) (ho s _ F N' fun ov tk p => ?_) h1
  cases p
  have hin := N' _ (hs _ (List.mem_append_left _ hm))
  refine getMethod_list_of PySem.F.slot_list_clear PySem.F.type_list_clear ⟨_, hin.1, rfl, _, rfl⟩ ⟨_, hin.1, rfl⟩ ?_
  refine P.clear_list (items := vs.toArray) (n := mm) hin.1 ?_ (by rw [List.size_toArray, hv.len, sizeLine_eq]; omega)
  refine hQ .none m _ _ _ (h (put led z.RD (listOf ([] : List Value).toArray (if (#[] : Array Value).size == vs.toArray.size then mm else mm + 1))) (put_apart hm ap) (G.setL hf hl hm trivial)) (F.of (F.fr.change (Heap.SameBut.update ..) hin.2.1 hin.2.2)) ?_
  exact ki_turn (pre := []) (fun _ => #[]) (News.sub N' (put_subR hm hs)) (fun _ h => (nomatch h)) (fun p hp => by
    rcases List.mem_append.mp hp with hp | hp
    · exact of_decide_eq_true (List.mem_filter.mp hp).2
    · exact fun e => ap _ hm p hp e.symm) rfl rfl
/-- tuple(ready) -/
theorem WE.tupRd {f o : Expr} {pos : Pos} {l : List Nat} {C : Value → Map → Led → Prop} (hf : XE b k en m N f (IsV (.type "tuple"))) (ho : XE b k en m N o (IsV (.ref z.RD))) (G : Gs w g z led) (hl : g.rd = some l) (hz : l.length ≤ 100) (hs : ∀ p ∈ led, p ∈ N) (h : ∀ T vs, (∀ p ∈ N, p.1 < T) → AreN vs l → C (.ref T) m ((T, tupO vs) :: N))
    (h1 : autoParam (eval (.Call f [o] [] pos) en = (do callWith pos (← eval f en) [] (backTo pos (starEach [o] en)) (backToKw pos (keywordEach [] en)))) tRfl)
    (he : autoParam (starEach [o] en = (false, eval o en) :: starEach [] en) tRfl) : WXE b k en m N (.Call f [o] [] pos) C := fun s Q F N' hQ => by
  obtain ⟨⟨vs, mm, hm, hv⟩, _⟩ := G.rd l hl
  refine Call_ (hf s _ F N' fun fv tk p => ?_) h1
  cases p
  refine PyProof.Rows.callWith_type1 (Ars.one ho he pos _ _ F N' fun us tk2 p2 => ?_) he rfl
  obtain ⟨v, rfl, p3⟩ := p2
  cases p3
  have hin := N' _ (hs _ hm)
  refine call_tuple_list ⟨_, hin.1, rfl, mm, rfl⟩ (fun h' hk => ?_) (by rw [List.size_toArray, hv.len, sizeLine_eq]; omega)
  have F1 := Fr.grownK F.fr hk
  have N1 := News.grown N' hk
  exact hQ _ m _ _ _ (h _ vs (fun p hp => Heap.lt_size (N1 p hp).1) hv) (F.of (F1.push _)) (fun p hp => by
    rcases List.mem_cons.mp hp with rfl | hp
    · exact ⟨Heap.get?_push_size _ rfl, Nat.ne_of_gt F1.ns.lt, next_is_new F1⟩
    · exact ⟨Heap.get?_push_of_some _ (N1 p hp).1, (N1 p hp).2⟩)
end

end Mine
end
section
open PySem PySem.W PyProof.Rows PySem.Calls
set_option maxRecDepth 100000
set_option maxHeartbeats 8000000
namespace Mine
set_option linter.unusedVariables false
section
variable {w : World} {dn : Nat} {b : Bs w dn} {k : Cd} {m : Map} {N : Led} {C : Flow → Map → Led → Prop} {rest : List Stmt} {g : St} {z : Wires} {led rl : Led} {en : Env}
theorem SX.ifWal {x : Str} {xp np cp pos : Pos} {e y : Expr} {body orelse : List Stmt} {v : Value} (he : Ex b k m N e (IsV v)) (hy : Ex b k (setv m x v) N y (IsV .none)) (hv : (v == .none) = false) (hk : SX b k (setv m x v) N orelse (Cn b k rest C)) (hl : autoParam ((k.env b.L).kindOf x = some .local) tRfl) (hm : autoParam (behindInMarks .Is y = false) tUn) :
    SX b k m N (.If (.Compare (.NamedExpr (.Name x xp) e np) [.Is] [y] cp) body orelse pos :: rest) C :=
  SX.cons (C' := C) fun s Q F N' hQ => wpAny_If (wpAny_isTrue_Compare1 (wpAny_NamedExpr (he s _ F N' fun v' tk p => by
    cases p
    refine assign_Name (wpAny_storeName_local hl F.fr.ns (fun h' hn hs => ?_) (by show (k.scope.kind == .class || (k.scope.kind == .module && b.L != mainGlobals)) = false; rw [k.fn]; rfl))
    refine hy _ _ (F.of (F.fr.set hn hs)) (N'.set hs) fun vb tk2 p2 => ?_
    cases p2
    refine is_none (wpAny_truthy_bool ?_)
    rw [hv]
    exact hk _ Q (F.of (F.fr.set hn hs)) (N'.set hs) fun f m' N2 h2 tk3 c F2 N2' => hQ f m' N2 h2 tk3 c F2 N2')) hm)
theorem Ex.bmeth {o e : Expr} {name : Str} {ap pos : Pos} {id : String} {x : Value} {P P1 : Value → Prop} (ho : XE b k en m N o (IsV x)) (hm : ∀ pl, Rd b k m N (getMethod x name pl) (fun fx => fx = (.builtin id, [x]))) (ha : XE b k en m N e P1) (hc : ∀ v, P1 v → Rd b k m N (call (.builtin id) [x, v]) P)
    (h1 : ∃ pl, eval (.Call (.Attribute o name ap) [e] [] pos) en = (do
      let ov ← eval o en
      standAt ap.atName
      let (f, first) ← holding [ov] (getMethod ov name pl)
      callWith pos f first (backTo pos (starEach [e] en)) []) := by exact ⟨_, rfl⟩)
    (he : autoParam (starEach [e] en = (false, eval e en) :: starEach [] en) tRfl) : XE b k en m N (.Call (.Attribute o name ap) [e] [] pos) P :=
  fun s Q F N hQ => by
    obtain ⟨pl, h1⟩ := h1
    exact MethodCall_ (pl := pl) (ho s _ F N fun ov tk p => by
      cases p
      exact hm pl _ _ F N fun fx tk2 p2 => by
        subst p2
        refine callWith_builtin (by rw [he]; rfl) ?_
        have h2 := Ars.one (b := b) (k := k) (en := en) ha he pos { s with toks := tk2 } (fun vs s' => wpAny (model prog w) (b.A k) (call (.builtin id) ([x] ++ vs) []) Q (fun _ _ => False) s') F N fun vs tk3 p3 => by
          obtain ⟨v, rfl, p4⟩ := p3
          exact hc v p4 _ Q F N fun v tk pv => hQ v tk pv
        rw [he] at h2 ⊢
        exact evalArgs_plain h2) h1
theorem Ex.dget {o e : Expr} {ap pos : Pos} {i : Nat} (G : Gs w g z led) (hi : i < g.n) (hs : ∀ p ∈ led, p ∈ N) (ho : XE b k en m N o (IsV (.ref z.N))) (ha : XE b k en m N e (IsI (i : Int)))
    (h1 : ∃ pl, eval (.Call (.Attribute o (Str.ofString "get") ap) [e] [] pos) en = (do
      let ov ← eval o en
      standAt ap.atName
      let (f, first) ← holding [ov] (getMethod ov (Str.ofString "get") pl)
      callWith pos f first (backTo pos (starEach [e] en)) []) := by exact ⟨_, rfl⟩)
    (he : autoParam (starEach [e] en = (false, eval e en) :: starEach [] en) tRfl) : XE b k en m N (.Call (.Attribute o (Str.ofString "get") ap) [e] [] pos) (IsV (.ref (z.I i))) := by
  obtain ⟨oN, hn, hd⟩ := G.nn
  refine Ex.bmeth (id := "dict.get") ho (fun pl s Q F N' hQ => kdg_method N' (hs _ hn) hd (hQ _ s.toks rfl)) ha (fun v hv s Q F N' hQ => ?_) h1 he
  obtain ⟨t, rfl⟩ := hv
  exact kdg_get1 (knd := PySem.intKind _ _) N' (hs _ hn) hd G.lo (intKind_is _ _ _ _) _ (valueAt_kvs hi) (hQ _ _ rfl)
theorem Ex.ditem {o e : Expr} {pos : Pos} {i : Nat} (G : Gs w g z led) (hi : i < g.n) (hs : ∀ p ∈ led, p ∈ N) (ho : XE b k en m N o (IsV (.ref z.N))) (ha : XE b k en m N e (IsI (i : Int)))
    (hsu : autoParam (∀ d key, subscripted e false (.ref d) key = operate [.ref d, key] (getItem (.ref d) key)) tIIUn) (hg : autoParam (∀ d r, letTemporaryGo o (.ref d) r = pure ()) tIIUn) : XE b k en m N (.Subscript o e pos) (IsV (.ref (z.I i))) := fun s Q F N' hQ => by
  obtain ⟨oN, hn, hd⟩ := G.nn
  exact Subscript_ (ho s _ F N' fun v tk p => by
    cases p
    exact ha _ _ F N' fun v tk2 p2 => by
      obtain ⟨t, rfl⟩ := p2
      exact kda_item (knd := PySem.intKind _ _) N' (hs _ hn) hd (intKind_is _ _ _ _) (valueAt_kvs hi) (hQ _ _ rfl) (hsu _ _) (hg _))
theorem Ex.globI {x : Str} {pos : Pos} {i : Int} {t : Tok} (e : nsIn (Kh w.params) mainGlobals x = some (some (.int i t))) (hx : autoParam (en.kindOf x = some .globalImplicit) tRfl) (hd : autoParam ((x == ("__debug__" : Str)) = false) tDec) (hg : autoParam (en.globals = mainGlobals) tRfl) (hk : autoParam (en.scope.kind = .function) tRfl) : XE b k en m N (.Name x pos) (IsI i) := (Ex.glob e hx hd hg hk).mono fun v h => ⟨t, h⟩
theorem Ex.sReadyR {o : Expr} {pos : Pos} {l : List Nat} (G : Gs w g z led) (hr : g.rd = some l) (ho : XE b k en m N o (IsV (.ref z.S))) (hs : ∀ p ∈ led, p ∈ N) (he : autoParam (eval (.Attribute o (Str.ofString "_ready_nodes") pos) en = (do
      let ov ← eval o en
      standAt pos.atName
      let r ← holding [ov] (getAttr ov (Str.ofString "_ready_nodes") true)
      letTemporaryGo o ov r
      pure r)) tUn) (hl : autoParam (∀ ov r, letTemporaryGo o ov r = pure ()) tIIUn) : XE b k en m N (.Attribute o (Str.ofString "_ready_nodes") pos) (IsV (.ref z.RD)) :=
  (Ex.sReady G ho hs he hl).mono fun v h => by
    simp only [IsV, St.rv, hr] at h
    exact h
theorem SX.funs {body : List Stmt} (h : Fun N → SX b k m N body C) : SX b k m N body C := fun s Q F N' hQ => h (fun_of N' fun _ h => h) s Q F N' hQ
theorem su_ne_I (G : Gs w g z led) (hf : Fun led) {i j : Nat} (hi : i < g.n) (hj : j < g.n) : z.SU i ≠ z.I j := fun e => by
  obtain ⟨vs, m, h, _⟩ := G.su i hi
  obtain ⟨t1, t2, h2⟩ := G.node j hj
  have := hf _ _ _ h (e ▸ h2)
  cases this
end
/-- one behind is done with one need -/
def St.stepS (g : St) (s : Nat) : St := if g.np s - 1 = 0 then { g.setNp s (g.np s - 1) with rd := g.rd.map (· ++ [s]) } else g.setNp s (g.np s - 1)
def St.doneS (g : St) (k : Nat) : St := { (g.su k).foldl St.stepS (g.setNp k (-2)) with F := ((g.su k).foldl St.stepS (g.setNp k (-2))).F + 1 }
theorem stepS_keeps (ss : List Nat) : ∀ g : St, (ss.foldl St.stepS g).n = g.n ∧ (ss.foldl St.stepS g).su = g.su ∧ (ss.foldl St.stepS g).F = g.F ∧ (ss.foldl St.stepS g).P = g.P ∧ ∀ l, g.rd = some l → ∃ l', (ss.foldl St.stepS g).rd = some l' ∧ l'.length ≤ l.length + ss.length := by
  induction ss with
  | nil => intro g; exact ⟨rfl, rfl, rfl, rfl, fun l hl => ⟨l, hl, Nat.le_refl _⟩⟩
  | cons s ss ih =>
    intro g
    obtain ⟨a1, a2, a3, a4, a5⟩ := ih (g.stepS s)
    have e : (g.stepS s).n = g.n ∧ (g.stepS s).su = g.su ∧ (g.stepS s).F = g.F ∧ (g.stepS s).P = g.P ∧ ∀ l, g.rd = some l → ∃ l', (g.stepS s).rd = some l' ∧ l'.length ≤ l.length + 1 := by
      unfold St.stepS
      split
      · exact ⟨rfl, rfl, rfl, rfl, fun l hl => ⟨l ++ [s], by rw [hl]; rfl, by simp⟩⟩
      · exact ⟨rfl, rfl, rfl, rfl, fun l hl => ⟨l, hl, by omega⟩⟩
    obtain ⟨b1, b2, b3, b4, b5⟩ := e
    refine ⟨a1.trans b1, a2.trans b2, a3.trans b3, a4.trans b4, fun l hl => ?_⟩
    obtain ⟨l', h1, h2⟩ := b5 l hl
    obtain ⟨l'', h3, h4⟩ := a5 l' h1
    exact ⟨l'', h3, by simp only [List.length_cons]; omega⟩
def DoneJ (w : World) (g : St) (z : Wires) (k : Nat) (t : Tok) (x : Addr × Obj) (rl : Led) (j : Nat) (m : Map) (N : Led) : Prop :=
  ∃ led, N = led ++ x :: rl ∧ Apart led (x :: rl) ∧ Gs w (if j = 0 then g else g.doneS k) z led ∧ m (Str.ofString "self") = some (.ref z.S) ∧ m (Str.ofString "n2i") = some (.ref z.N)
def DoneI (w : World) (g : St) (z : Wires) (ss : List Nat) (L : Addr × Obj) (rl : Led) (j : Nat) (m : Map) (N : Led) : Prop :=
  ∃ led, N = led ++ rl ∧ Apart led rl ∧ L ∈ led ∧ Gs w ((ss.take j).foldl St.stepS g) z led ∧ m (Str.ofString "self") = some (.ref z.S) ∧ m (Str.ofString "n2i") = some (.ref z.N)
theorem done_spec (w : World) (g : St) (z : Wires) (led rl : Led) (i : Nat) (G : Gs w g z led) (hf : Fun led) (ap : Apart led rl) (l : List Nat) (hr : g.rd = some l) (hl : l.length ≤ 50) (hi : i < g.n) (hnp : g.np i = -1) (hs : ∀ j, j < g.n → (g.su j).length ≤ 50 ∧ ∀ p ∈ g.su j, p < g.n) : ∀ us, us.length ≤ 1 → AreN us [i] →
  Spec w 120 3 ([.ref z.S] ++ us) (led ++ rl) (fun r n' => r = .none ∧ Turned w (g.doneS i) z rl n') := by
  k_dflt (refine' enterR2 (binds := fun D => [(Str.ofString "self", .ref z.S), (Str.ofString "nodes", .ref D)]) ?k6 ?k7 ?kv ?kw ?kp ?kg ?kq ?kh ?kB ?c2 ?c3 ?c4 ?c5 ?_; (case k6 => k_is); (case k7 => k_is); (case kv => exact rfl); (case kw => exact fun _ => rfl); (case kp => exact rfl); (case kg => exact fun _ => rfl); (case kq => exact fun _ => rfl); (case kh => exact fun _ _ => rfl); (case c5 => decide); (case kB => exact fun _ => locs rfl); (case c2 => exact rfl); (case c3 => exact rfl); (case c4 => exact rfl); k_whole)
  intro us hus hu D hD
  refine BodyOk.ofSX rfl ?_
  intro b

  have ap' : Apart led ((D, tupO us) :: rl) := apart_cons ap fun p hp => Nat.ne_of_lt (hD p (List.mem_append_left _ hp))
  have hled : ∀ p ∈ led, p ∈ (D, tupO us) :: (led ++ rl) := fun p hp => List.mem_cons_of_mem _ (List.mem_append_left _ hp)
  refine SX.if_ (Tst.isNone (Ex.sReady G (Ex.name rfl) hled) Ex.noneE) (fun h => ?_) (fun _ => SX.nil ?_)
  · simp only [St.rv, hr] at h; cases h
  refine SX.assignV (Ex.sInfo G (Ex.name rfl) hled) ?_
  refine Wx.sub (N' := led ++ (D, tupO us) :: rl) (SX.for_ (l := D) (vs := us) (DoneJ w g z i 0 (D, tupO us) rl) (Ex.name rfl) ⟨led, rfl, ap', G, rfl, rfl⟩ (Or.inl fun j m N ⟨led3, e, _⟩ => by rw [e]; exact List.mem_append_right _ (List.mem_cons_self ..)) ?_ ?_) sub_mid
  · rintro j v m₁ N₁ It oI hj ⟨led1, rfl, ap1, G1, e1, e2⟩ ho
    obtain ⟨p, tp, hjp, rfl⟩ := hu.get hj
    have hj0 : j = 0 := by
      rcases Nat.eq_zero_or_pos j with h | h
      · exact h
      · have := (List.getElem?_eq_some_iff.mp hjp).1; simp at this; omega
    subst hj0
    cases hjp
    rw [if_pos rfl] at G1
    refine SX.funs fun hf1 => ?_
    have hsub : ∀ p ∈ led1, p ∈ (It, oI) :: (led1 ++ (D, tupO us) :: rl) := fun p hp => List.mem_cons_of_mem _ (List.mem_append_left _ hp)
    have ap4 : Apart led1 ((It, oI) :: (D, tupO us) :: rl) := apart_cons ap1 fun p hp => ho p (List.mem_append_left _ hp)
    have hfl : Fun led1 := fun a o o' h h' => hf1 a o o' (hsub _ h) (hsub _ h')
    obtain ⟨vs, mm, hSU, hv⟩ := G1.su i hi
    have hne := su_ne_I G1 hfl hi hi
    obtain ⟨hz, hsp⟩ := hs i hi
    refine SX.ifWal (Ex.dget G1 hi hsub (Ex.name e2) (Ex.nameI rfl)) Ex.noneE rfl (SX.nil ?_)
    refine SX.assignI (Ex.nNp G1 hi (Ex.name rfl) hsub) fun ts => ?_
    refine SX.if_ (Tst.neI (Ex.nameI rfl) (Ex.globI (by k_is))) (fun h => ?_) (fun _ => SX.nil ?_)
    · rw [hnp] at h; cases h
    refine SX.setA (Ex.globI (by k_is)) (Ex.name rfl) fun v ov hv' hov => ?_
    cases hov
    refine Wx.setNp hv' G1 ap4 hi sub_mid fun led2 ap2 G2 kp2 => ?_
    refine SX.for_ (l := z.SU i) (vs := vs) (DoneI w (g.setNp i (-2)) z (g.su i) (z.SU i, listOf vs.toArray mm) ((It, oI) :: (D, tupO us) :: rl)) (Ex.nSu G2 hi (Ex.name rfl) fun p hp => List.mem_append_left _ hp) ⟨led2, rfl, ap2, kp2 _ _ hSU hne, G2, e1, e2⟩ (Or.inr ⟨mm, fun j m N ⟨led3, e, _, h, _⟩ => by rw [e]; exact List.mem_append_left _ h⟩) ?_ ?_
    · rintro j v m₂ N₂ It2 oI2 hj2 ⟨led3, rfl, ap3, hL3, G3, f1, f2⟩ ho2
      obtain ⟨p, tp2, hjp, rfl⟩ := hv.get hj2
      have hstep : ((g.su i).take (j + 1)).foldl St.stepS (g.setNp i (-2)) = (((g.su i).take j).foldl St.stepS (g.setNp i (-2))).stepS p := by
        rw [List.take_add_one, hjp, List.foldl_append]; rfl
      obtain ⟨a1, a2, a3, a4, a5⟩ := stepS_keeps ((g.su i).take j) (g.setNp i (-2))
      obtain ⟨l3, hl3, hz3⟩ := a5 l hr
      have hz4 : l3.length ≤ 100 := by
        have : ((g.su i).take j).length ≤ (g.su i).length := by rw [List.length_take]; omega
        omega
      generalize ((g.su i).take j).foldl St.stepS (g.setNp i (-2)) = g3 at *
      have hpn : p < g3.n := by rw [a1]; exact hsp p (List.mem_of_getElem? hjp)
      refine SX.funs fun hf3 => ?_
      have hsub3 : ∀ p ∈ led3, p ∈ (It2, oI2) :: (led3 ++ (It, oI) :: (D, tupO us) :: rl) := fun p hp => List.mem_cons_of_mem _ (List.mem_append_left _ hp)
      have hfl3 : Fun led3 := fun a o o' h h' => hf3 a o o' (hsub3 _ h) (hsub3 _ h')
      have ap5 : Apart led3 ((It2, oI2) :: (It, oI) :: (D, tupO us) :: rl) := apart_cons ap3 fun p hp => ho2 p (List.mem_append_left _ hp)
      have hne3 := su_ne_I G3 hfl3 (by rw [a1]; exact hi) hpn
      have hoff : ∀ led6 : Led, Apart led6 ((It2, oI2) :: (It, oI) :: (D, tupO us) :: rl) → ∀ p ∈ led6 ++ (It, oI) :: (D, tupO us) :: rl, p.1 ≠ It2 := fun led6 ap6 p hp => by
        rcases List.mem_append.mp hp with hp | hp
        · exact ap6 p hp _ (List.mem_cons_self ..)
        · exact ho2 p (List.mem_append_right _ hp)
      refine SX.assignV (Ex.ditem G3 hpn hsub3 (Ex.name f2) (Ex.nameI rfl)) ?_
      refine SX.augAttr (Ex.name rfl) (fun v hv => by cases hv; exact Rd.nNp G3 hpn hsub3) Ex.lit (fun _ _ => Rd.isub) fun v ov hv2 hov => ?_
      cases hov
      refine Wx.setNp hv2 G3 ap5 hpn sub_mid fun led4 ap6 G4 kp4 => ?_
      have hsub4 : ∀ p ∈ led4, p ∈ led4 ++ (It2, oI2) :: (It, oI) :: (D, tupO us) :: rl := fun p hp => List.mem_append_left _ hp
      refine SX.if_ (Tst.eqI (Ex.nNp G4 hpn (Ex.name rfl) hsub4) Ex.lit) (fun h => ?_) (fun h => SX.nil ?_)
      · have h0 : g3.np p - 1 = 0 := by simpa [St.setNp, upd_eq] using h
        refine SX.expr (WE.bmeth (id := "list.append") (Ex.sReadyR G4 hl3 (Ex.name f1) hsub4) (fun pl => ?_) (Ex.nameI rfl) fun v hv3 => ?_)
        · obtain ⟨⟨vs4, mm4, hm4, _⟩, _⟩ := G4.rd l3 hl3
          exact Rd.append (List.mem_append_left _ hm4) pl
        · refine Wx.addRd hv3 G4 ap6 hl3 hz4 (fun _ h => h) fun led5 ap7 G5 kp5 => ⟨rfl, SX.nil (SX.nil ⟨led5 ++ (It, oI) :: (D, tupO us) :: rl, sub_mid', hoff led5 ap7, led5, rfl, apart_tail ap7, kp5 _ _ (kp4 _ _ hL3 hne3) (fun e => (G4.rd l3 hl3).2 i (by show i < g3.n; rw [a1]; exact hi) e.symm), ?_, f1, f2⟩)⟩
          rw [hstep, St.stepS, if_pos h0, hl3]
          exact G5
      · have h0 : ¬ (g3.np p - 1 = 0) := by simpa [St.setNp, upd_eq] using h
        refine SX.nil ⟨led4 ++ (It, oI) :: (D, tupO us) :: rl, sub_mid', hoff led4 ap6, led4, rfl, apart_tail ap6, kp4 _ _ hL3 hne3, ?_, f1, f2⟩
        rw [hstep, St.stepS, if_neg h0]
        exact G4
    · rintro m₂ N₂ ⟨led3, rfl, ap3, hL3, G3, f1, f2⟩
      rw [hv.len, List.take_length] at G3
      have hsub3 : ∀ p ∈ led3, p ∈ led3 ++ (It, oI) :: (D, tupO us) :: rl := fun p hp => List.mem_append_left _ hp
      refine SX.augAttr (Ex.name f1) (fun v hv => by cases hv; exact Rd.sFin G3 hsub3) Ex.lit (fun _ _ => Rd.iadd) fun v ov hv2 hov => ?_
      cases hov
      refine Wx.setF hv2 G3 ap3 (fun _ h => h) fun led4 ap6 G4 => SX.nil ⟨led4 ++ (D, tupO us) :: rl, sub_mid', ?_, led4, rfl, apart_tail ap6, G4, f1, f2⟩
      intro p hp
      rcases List.mem_append.mp hp with hp | hp
      · exact ap6 p hp _ (List.mem_cons_self ..)
      · exact ho p (List.mem_append_right _ hp)
  · rintro m₁ N₁ ⟨led3, rfl, ap3, G3, e1, e2⟩
    rw [hu.len] at G3
    exact Wx.sub (N' := led3 ++ rl) (SX.nil ⟨rfl, led3, rfl, apart_tail ap3, G3⟩) fun p hp => by
      rcases List.mem_append.mp hp with h | h
      · exact List.mem_append_left _ h
      · exact List.mem_append_right _ (List.mem_cons_of_mem _ h)

end Mine
end
section
open PySem PySem.W PyProof.Rows PySem.Calls
set_option maxRecDepth 100000
set_option maxHeartbeats 8000000
namespace Mine
set_option linter.unusedVariables false
def St.outS (g : St) (l : List Nat) : St := l.foldl (fun g k => g.setNp k (-1)) g
def St.readyS (g : St) (l : List Nat) : St := { (g.outS l).setRd [] with P := g.P + l.length }
theorem outS_keeps (l : List Nat) : ∀ g : St, (g.outS l).n = g.n ∧ (g.outS l).su = g.su ∧ (g.outS l).F = g.F ∧ (g.outS l).P = g.P ∧ (g.outS l).rd = g.rd := by
  induction l with
  | nil => intro g; exact ⟨rfl, rfl, rfl, rfl, rfl⟩
  | cons s ss ih => intro g; exact ih (g.setNp s (-1))
theorem outS_next {l : List Nat} {j p : Nat} (h : l[j]? = some p) (g : St) : g.outS (l.take (j + 1)) = (g.outS (l.take j)).setNp p (-1) := by
  unfold St.outS
  rw [List.take_add_one, h, List.foldl_append]; rfl
def ReadyJ (w : World) (g : St) (z : Wires) (l : List Nat) (x : Addr × Obj) (rl : Led) (j : Nat) (m : Map) (N : Led) : Prop :=
  ∃ led, N = led ++ x :: rl ∧ Apart led (x :: rl) ∧ Gs w (g.outS (l.take j)) z led ∧ m (Str.ofString "self") = some (.ref z.S) ∧ m (Str.ofString "n2i") = some (.ref z.N) ∧ m (Str.ofString "result") = some (.ref x.1)
theorem ready_spec (w : World) (g : St) (z : Wires) (led rl : Led) (G : Gs w g z led) (ap : Apart led rl) (l : List Nat) (hr : g.rd = some l) (hl : l.length ≤ 50) (hi : ∀ p ∈ l, p < g.n) :
  Spec w 99 3 [.ref z.S] (led ++ rl) (fun r n' => ∃ T vs led', r = .ref T ∧ n' = led' ++ (T, tupO vs) :: rl ∧ AreN vs l ∧ (∀ p ∈ rl, p.1 < T) ∧ Apart led' ((T, tupO vs) :: rl) ∧ Gs w (g.readyS l) z led') := by
  k_dflt (refine' enter (binds := [(Str.ofString "self", .ref z.S)]) ?k6 ?k7 ?k9 ?kB ?c2 ?c3 ?c4 ?c5 ?_; (case k6 => k_is); (case k7 => k_is); (case k9 => exact fun _ _ => BindsTo.of_eq rfl); (case c5 => decide); (case kB => exact locs rfl); (case c2 => exact rfl); (case c3 => exact rfl); (case c4 => exact rfl); k_whole)
  refine BodyOk.ofSX rfl ?_
  intro b

  refine SX.abs fun C hC => ?_
  have hled : ∀ p ∈ led, p ∈ led ++ rl := fun p hp => List.mem_append_left _ hp
  refine SX.if_ (Tst.isNone (Ex.sReady G (Ex.name rfl) hled) Ex.noneE) (fun h => ?_) (fun _ => SX.nil ?_)
  · simp only [St.rv, hr] at h; cases h
  refine SX.assignW (WE.tupRd (Ex.blt (by k_is) (by boot_by_name)) (Ex.sReadyR G hr (Ex.name rfl) hled) G hr (by omega) hled fun T vs hT hv => ?_)
  have ap' : Apart led ((T, tupO vs) :: rl) := apart_cons ap fun p hp => Nat.ne_of_lt (hT p (hled p hp))
  refine SX.assignV (Ex.sInfo G (Ex.name rfl) fun p hp => List.mem_cons_of_mem _ (hled p hp)) ?_
  have hlen := hv.len
  refine Wx.sub (N' := led ++ (T, tupO vs) :: rl) (SX.for_ (l := T) (vs := vs) (ReadyJ w g z l (T, tupO vs) rl) (Ex.name rfl) ⟨led, rfl, ap', G, rfl, rfl, rfl⟩ (Or.inl fun j m N ⟨led3, e, _⟩ => by rw [e]; exact List.mem_append_right _ (List.mem_cons_self ..)) ?_ ?_) sub_mid
  · rintro j v m₁ N₁ It oI hj ⟨led1, rfl, ap1, G1, e1, e2, e3⟩ ho
    refine SX.abs fun C' hC' => ?_
    obtain ⟨p, tp, hjp, rfl⟩ := hv.get hj
    have hpn : p < (g.outS (l.take j)).n := by rw [(outS_keeps _ g).1]; exact hi p (List.mem_of_getElem? hjp)
    have ap4 : Apart led1 ((It, oI) :: (T, tupO vs) :: rl) := apart_cons ap1 fun p hp => ho p (List.mem_append_left _ hp)
    refine SX.setA (Ex.globI (by k_is)) (Ex.ditem G1 hpn (fun p hp => List.mem_cons_of_mem _ (List.mem_append_left _ hp)) (Ex.name e2) (Ex.nameI rfl)) fun v ov hv' hov => ?_
    cases hov
    refine Wx.setNp hv' G1 ap4 hpn sub_mid fun led2 ap2 G2 _ => SX.nil (hC' _ _ _ ⟨led2 ++ (T, tupO vs) :: rl, sub_mid', ?_, led2, rfl, apart_tail ap2, (outS_next hjp g).symm ▸ G2, e1, e2, e3⟩)
    intro p hp
    rcases List.mem_append.mp hp with hp | hp
    · exact ap2 p hp _ (List.mem_cons_self ..)
    · exact ho p (List.mem_append_right _ hp)
  · rintro m₁ N₁ ⟨led1, rfl, ap1, G1, e1, e2, e3⟩
    rw [hlen, List.take_length] at G1
    obtain ⟨a1, a2, a3, a4, a5⟩ := outS_keeps l g
    have hr1 : (g.outS l).rd = some l := a5.trans hr
    have hsub1 : ∀ p ∈ led1, p ∈ led1 ++ (T, tupO vs) :: rl := fun p hp => List.mem_append_left _ hp
    refine SX.expr (WE.clrRd (Ex.sReadyR G1 hr1 (Ex.name e1) hsub1) G1 ap1 hr1 (by omega) (fun _ h => h) fun led2 ap2 G2 => ⟨rfl, ?_⟩)
    refine SX.augAttr (Ex.name e1) (fun v hv => by cases hv; exact Rd.sPass G2 fun p hp => List.mem_append_left _ hp) (Ex.call1 (Ex.blt (by k_is) (by boot_by_name)) (Ex.name e3) (fun v hv => by cases hv; exact Rd.lenT (vs := vs) (List.mem_append_right _ (List.mem_cons_self ..)) (by omega))) (fun _ _ => Rd.iadd) fun v ov hv2 hov => ?_
    cases hov
    refine Wx.setP hv2 G2 ap2 (fun _ h => h) fun led3 ap3 G3 => SX.ret ((Ex.name e3).wx fun v hv3 => ?_)
    cases hv3
    refine hC _ _ _ ⟨T, vs, led3, rfl, rfl, hv, fun p hp => hT p (List.mem_append_right _ hp), ap3, ?_⟩
    have e : (g.outS l).P + (vs.length : Int) = g.P + l.length := by rw [a4, hlen]
    simp only [St.setRd] at G3
    rw [e] at G3
    exact G3

end Mine
end
section
open PySem PySem.W PyProof.Rows PySem.Calls
set_option maxRecDepth 100000
set_option maxHeartbeats 8000000
namespace Mine
set_option linter.unusedVariables false
theorem meets_bool_list (a : Addr) (items : Array Value) (n : Nat) (hz : items.size ≤ 1000) : Meets (Builtin.«bool.__new__» ⟨[.type "bool", .ref a], []⟩) (fun A R s => s.heap.get? a = some (listOf items n) ∧ R (.ok (.ret (.bool (!items.isEmpty)))) { s with toks := s.toks + 1 + 1 }) :=
  Meets.of_wp fun prog w A R s hs => by
    obtain ⟨hp, g, d, tk, os⟩ := s
    obtain ⟨hl, h⟩ := hs
    have f1 := F.conv_sub_bool
    have hL : ({ heap := hp, gens := g, drawn := d, toks := tk, os := os } : Shared).heap.IsList a items := ⟨_, hl, rfl, n, rfl⟩
    repeat (any_goals (first | assumption | with_reducible refine wpAny_truthy_list hL (by omega) ?_ | wp_step))
    all_goals first | exact ⟨_, rfl, h⟩ | skip
section
variable {w : World} {dn : Nat} {b : Bs w dn} {k : Cd} {m : Map} {N : Led} {C : Flow → Map → Led → Prop} {rest : List Stmt} {g : St} {z : Wires} {led rl : Led} {en : Env}
theorem Ex.orB {x y : Expr} {pos : Pos} {c d : Bool} (ha : XE b k en m N x (IsV (.bool c))) (hb : c = false → XE b k en m N y (IsV (.bool d))) : XE b k en m N (.BoolOp .Or [x, y] pos) (IsV (.bool (c || d))) := fun s Q F N' hQ =>
  BoolOp_or (ha s _ F N' fun v tk p => by
    cases p
    refine wpAny_truthy_bool ?_
    cases c with
    | true => exact hQ _ tk rfl
    | false => exact BoolOp_one (hb rfl _ _ F N' fun v tk2 p2 => by cases p2; exact hQ _ tk2 rfl))
theorem Ex.boolL {f e : Expr} {pos : Pos} {l : Addr} {vs : List Value} {n : Nat} (hf : XE b k en m N f (IsV (.type "bool"))) (ha : XE b k en m N e (IsV (.ref l))) (hm : (l, listOf vs.toArray n) ∈ N) (hz : vs.length ≤ 1000)
    (h1 : autoParam (eval (.Call f [e] [] pos) en = (do callWith pos (← eval f en) [] (backTo pos (starEach [e] en)) (backToKw pos (keywordEach [] en)))) tRfl)
    (he : autoParam (starEach [e] en = (false, eval e en) :: starEach [] en) tRfl) : XE b k en m N (.Call f [e] [] pos) (IsV (.bool (!vs.toArray.isEmpty))) :=
  fun s Q F N hQ => Call_ (hf s _ F N fun fv tk p => by
    cases p
    exact PyProof.Rows.callWith_type1 (Ars.one ha he pos _ _ F N fun vs' tk2 p2 => by
      obtain ⟨v, rfl, p3⟩ := p2
      cases p3
      exact call_bool_1 (meets_bool_list l vs.toArray n (by rw [List.size_toArray]; exact hz)) ⟨(N _ hm).1, rfl, hQ _ _ rfl⟩) he rfl) h1
end
theorem active_spec (w : World) (g : St) (z : Wires) (led rl : Led) (G : Gs w g z led) (l : List Nat) (hr : g.rd = some l) (hl : l.length ≤ 50) :
  Spec w 106 2 [.ref z.S] (led ++ rl) (fun r n' => r = .bool (decide (g.F < g.P) || !l.isEmpty) ∧ n' = led ++ rl) := by
  k_dflt (refine' enter (binds := [(Str.ofString "self", .ref z.S)]) ?k6 ?k7 ?k9 ?kB ?c2 ?c3 ?c4 ?c5 ?_; (case k6 => k_is); (case k7 => k_is); (case k9 => exact fun _ _ => BindsTo.of_eq rfl); (case c5 => decide); (case kB => exact locs rfl); (case c2 => exact rfl); (case c3 => exact rfl); (case c4 => exact rfl); k_whole)
  refine BodyOk.ofSX rfl ?_
  intro b

  refine SX.abs fun C hC => ?_
  have hled : ∀ p ∈ led, p ∈ led ++ rl := fun p hp => List.mem_append_left _ hp
  refine SX.if_ (Tst.isNone (Ex.sReady G (Ex.name rfl) hled) Ex.noneE) (fun h => ?_) (fun _ => SX.nil ?_)
  · simp only [St.rv, hr] at h; cases h
  obtain ⟨⟨vs, mm, hm, hv⟩, _⟩ := G.rd l hr
  have hlen := hv.len
  refine SX.ret ((Ex.orB (Ex.ltI (Ex.sFin G (Ex.name rfl) hled) (Ex.sPass G (Ex.name rfl) hled)) fun _ => Ex.boolL (Ex.blt (by k_is) (by boot_by_name)) (Ex.sReadyR G hr (Ex.name rfl) hled) (hled _ hm) (by omega)).wx fun v hv3 => ?_)
  cases hv3
  refine hC _ _ _ ⟨?_, rfl⟩
  have : vs.toArray.isEmpty = l.isEmpty := by cases vs <;> cases l <;> simp_all
  rw [this]

end Mine
end
section
open PySem PySem.W PyProof.Rows PySem.Calls
set_option maxRecDepth 100000
set_option maxHeartbeats 8000000
namespace Mine
set_option linter.unusedVariables false
def IsS (x : Str) (v : Value) : Prop := ∃ t, v = .str x t
section
variable {w : World} {dn : Nat} {b : Bs w dn} {k : Cd} {m : Map} {N : Led} {C : Flow → Map → Led → Prop} {rest : List Stmt} {en : Env}
theorem Ex.nameS {x : Str} {pos : Pos} {y : Str} {t : Tok} (hv : m x = some (.str y t)) (hl : autoParam ((k.env b.L).kindOf x = some .local) tRfl) (hd : autoParam ((x == ("__debug__" : Str)) = false) tDec) : Ex b k m N (.Name x pos) (IsS y) := (Ex.name hv hl hd).mono fun v h => ⟨t, h⟩
theorem Ex.litS {y : Str} {u : Nat} {pos : Pos} : XE b k en m N (.Constant (.str y) u pos) (IsS y) := fun s Q F N hQ => Calls.Constant_str (hQ _ _ ⟨_, rfl⟩)
theorem Ex.gtS {x y : Expr} {pos : Pos} {i j : Str} (ha : XE b k en m N x (IsS i)) (hb : XE b k en m N y (IsS j)) (hm : autoParam (behindInMarks .Gt y = false) tUn) : XE b k en m N (.Compare x [.Gt] [y] pos) (IsV (.bool (j.cps.toList < i.cps.toList))) := Ex.cmp (hm := hm) ha hb fun _ _ ⟨_, e1⟩ ⟨_, e2⟩ s Q F N hQ => by subst e1 e2; exact P.gt_str (hQ _ s.toks rfl)
theorem Ex.ltS {x y : Expr} {pos : Pos} {i j : Str} (ha : XE b k en m N x (IsS i)) (hb : XE b k en m N y (IsS j)) (hm : autoParam (behindInMarks .Lt y = false) tUn) : XE b k en m N (.Compare x [.Lt] [y] pos) (IsV (.bool (i.cps.toList < j.cps.toList))) := Ex.cmp (hm := hm) ha hb fun _ _ ⟨_, e1⟩ ⟨_, e2⟩ s Q F N hQ => by subst e1 e2; exact lt_str (hQ _ s.toks rfl)
theorem Ex.subB {x y : Expr} {pos : Pos} {i j : Bool} (ha : XE b k en m N x (IsV (.bool i))) (hb : XE b k en m N y (IsV (.bool j))) : XE b k en m N (.BinOp x .Sub y pos) (IsI (b2i i - b2i j)) := Ex.binop ha hb fun _ _ e1 e2 s Q F N hQ => by cases e1; cases e2; exact sub_bool (hQ _ _ ⟨_, rfl⟩)
end
theorem strxfrm_spec (w : World) (x : Str) (t : Tok) (N : Led) : Spec w 183 1 [.str x t] N (fun r n' => r = .str x t ∧ n' = N) := by
  k_dflt (refine' enter (binds := [(Str.ofString "s", .str x t)]) ?k6 ?k7 ?k9 ?kB ?c2 ?c3 ?c4 ?c5 ?_; (case k6 => k_is); (case k7 => k_is); (case k9 => exact fun _ _ => BindsTo.of_eq rfl); (case c5 => decide); (case kB => exact locs rfl); (case c2 => exact rfl); (case c3 => exact rfl); (case c4 => exact rfl); k_whole)
  refine BodyOk.ofSX rfl ?_
  intro b

  exact SX.ret ((Ex.name rfl).wx fun v hv => ⟨hv, rfl⟩)
theorem strcoll_spec (w : World) (x y : Str) (t u : Tok) (N : Led) : Spec w 176 1 [.str x t, .str y u] N (fun r n' => IsI (b2i (y.cps.toList < x.cps.toList) - b2i (x.cps.toList < y.cps.toList)) r ∧ n' = N) := by
  k_dflt (refine' enter (binds := [(Str.ofString "a", .str x t), (Str.ofString "b", .str y u)]) ?k6 ?k7 ?k9 ?kB ?c2 ?c3 ?c4 ?c5 ?_; (case k6 => k_is); (case k7 => k_is); (case k9 => exact fun _ _ => BindsTo.of_eq rfl); (case c5 => decide); (case kB => exact locs rfl); (case c2 => exact rfl); (case c3 => exact rfl); (case c4 => exact rfl); k_whole)
  refine BodyOk.ofSX rfl ?_
  intro b

  exact SX.ret ((Ex.subB (Ex.gtS (Ex.nameS rfl) (Ex.nameS rfl)) (Ex.ltS (Ex.nameS rfl) (Ex.nameS rfl))).wx fun v hv => ⟨hv, rfl⟩)

end Mine
end
section
open PySem PySem.W PyProof.Rows PySem.Calls
set_option maxRecDepth 100000
set_option maxHeartbeats 8000000
namespace Mine
set_option linter.unusedVariables false
section
variable {w : World} {dn : Nat} {b : Bs w dn} {k : Cd} {m : Map} {N : Led} {C : Flow → Map → Led → Prop} {rest : List Stmt} {en : Env}
theorem Ex.addS {x y : Expr} {pos : Pos} {i j : Str} (ha : XE b k en m N x (IsS i)) (hb : XE b k en m N y (IsS j)) (hz : i.length + j.length ≤ 1000) : XE b k en m N (.BinOp x .Add y pos) (IsS (i ++ j)) := Ex.binop ha hb fun _ _ ⟨_, e1⟩ ⟨_, e2⟩ s Q F N hQ => by
  subst e1 e2
  exact add_str (fun t tk => hQ _ tk ⟨t, rfl⟩) (by rw [sizeLine_eq]; omega)
theorem SX.unpack2 {x y : Str} {xp yp tp pos : Pos} {u : Nat} {e : Expr} {t : Addr} {v1 v2 : Value} (he : Ex b k m N e (IsV (.ref t))) (hm : (t, tupO [v1, v2]) ∈ N) (hk : SX b k (setv (setv m x v1) y v2) N rest C) (hx : autoParam ((k.env b.L).kindOf x = some .local) tRfl) (hy : autoParam ((k.env b.L).kindOf y = some .local) tRfl)
    (hs : autoParam (swapsWithSole [.Tuple [.Name x xp, .Name y yp] u tp] e pos.line (k.env b.L) = pure false) tRfl) (hw : autoParam (swappedStores [.Tuple [.Name x xp, .Name y yp] u tp] e (k.env b.L) = pure none) tRfl) : SX b k m N (.Assign [.Tuple [.Name x xp, .Name y yp] u tp] e pos :: rest) C :=
  SX.cons (C' := C) fun s Q F N' hQ => Assign_Tuple (he s _ F N' fun v tk p => by
    cases p
    refine unpackN_ (items := #[v1, v2]) F.fr N' ⟨_, (N' _ hm).1, rfl, _, rfl⟩ rfl rfl rfl fun h' F1 N1 => ?_
    have hp : ((k.env b.L).scope.kind == .class || ((k.env b.L).scope.kind == .module && (k.env b.L).locals != (k.env b.L).globals)) = false := by show (k.scope.kind == .class || (k.scope.kind == .module && b.L != mainGlobals)) = false; rw [k.fn]; rfl
    refine assignInOrder_cons (assign_Name (wpAny_storeName_local hx F1.ns (fun h2 hn hs => ?_) hp))
    have F2 := F1.set hn hs
    have N2 := N1.set hs
    refine assignInOrder_cons (assign_Name (wpAny_storeName_local hy F2.ns (fun h3 hn3 hs3 => ?_) hp))
    exact assignInOrder_nil (hQ .next _ N h3 _ hk (F.of (F2.set hn3 hs3)) (N2.set hs3))) hs hw
theorem SX.try_ {body : List Stmt} {h₀ : ExceptHandler} {hs : List ExceptHandler} {pos : Pos} (h : SX b k m N body (Cn b k rest C)) : SX b k m N (.Try body (h₀ :: hs) [] [] pos :: rest) C :=
  SX.cons (C' := C) fun s Q F N' hQ => wpAny_Try_except (wpAny_noRaise (h s _ F N' fun f m' N'' h' tk c F' N2 => by
    cases f with
    | next => exact wpAny_execs_nil (hQ .next m' N'' h' tk c F' N2)
    | brk => exact hQ _ m' N'' h' tk c F' N2
    | cont => exact hQ _ m' N'' h' tk c F' N2
    | ret v => exact hQ _ m' N'' h' tk c F' N2))
theorem SX.ifJ {e : Expr} {body orelse : List Stmt} {pos : Pos} {c : Bool} (Pm : Map → Prop) (ht : Tst b k m N e c) (h1 : c = true → SX b k m N body (fun f m' N' => f = .next ∧ N' = N ∧ Pm m')) (h2 : c = false → SX b k m N orelse (fun f m' N' => f = .next ∧ N' = N ∧ Pm m')) (hk : ∀ m', Pm m' → SX b k m' N rest C) : SX b k m N (.If e body orelse pos :: rest) C := by
  refine SX.if_ ht (fun h => (h1 h).mono ?_) (fun h => (h2 h).mono ?_)
  · rintro f m' N' ⟨rfl, rfl, p⟩; exact hk m' p
  · rintro f m' N' ⟨rfl, rfl, p⟩; exact hk m' p
end
def OptIs (o : Option Str) (v : Value) : Prop := match o with
  | none => v = .none
  | some x => IsS x v ∧ x.length ≤ 100
def locName (a c : Option Str) : Str := match c with
  | none => a.getD (Str.ofString "C")
  | some e => a.getD (Str.ofString "C") ++ Str.ofString "." ++ e
theorem build_spec (w : World) (T : Addr) (v1 v2 : Value) (a c : Option Str) (N : Led) (hm : (T, tupO [v1, v2]) ∈ N) (h1 : OptIs a v1) (h2 : OptIs c v2) : Spec w 190 1 [.ref T] N (fun r n' => IsS (locName a c) r ∧ n' = N) := by
  k_dflt (refine' enter (binds := [(Str.ofString "localetuple", .ref T)]) ?k6 ?k7 ?k9 ?kB ?c2 ?c3 ?c4 ?c5 ?_; (case k6 => k_is); (case k7 => k_is); (case k9 => exact fun _ _ => BindsTo.of_eq rfl); (case c5 => decide); (case kB => exact locs rfl); (case c2 => exact rfl); (case c3 => exact rfl); (case c4 => exact rfl); k_whole)
  refine BodyOk.ofSX rfl ?_
  intro b

  refine SX.abs fun C hC => ?_
  refine SX.try_ (SX.unpack2 (Ex.name rfl) hm ?_)
  refine SX.ifJ (fun m' => (∃ u, m' (Str.ofString "language") = some (.str (a.getD (Str.ofString "C")) u)) ∧ m' (Str.ofString "encoding") = some v2) (Tst.isNone (Ex.name rfl) Ex.noneE) (fun h => ?_) (fun h => ?_) ?_
  · cases a with
    | none => exact SX.assign Ex.litS fun v ⟨t, e⟩ => SX.nil ⟨rfl, rfl, ⟨t, by rw [e]; exact rfl⟩, rfl⟩
    | some x => obtain ⟨⟨t, rfl⟩, _⟩ := h1; cases h
  · cases a with
    | none => cases h1; cases h
    | some x => obtain ⟨⟨t, rfl⟩, _⟩ := h1; exact SX.nil ⟨rfl, rfl, ⟨t, rfl⟩, rfl⟩
  rintro m2 ⟨⟨u, hl⟩, he⟩
  cases c with
  | none =>
    cases h2
    exact SX.if_ (Tst.isNone (Ex.name he) Ex.noneE) (fun _ => SX.ret ((Ex.name hl).wx fun v hv => hC _ _ _ ⟨⟨u, hv⟩, rfl⟩)) (fun h => by cases h)
  | some x =>
    obtain ⟨⟨t, rfl⟩, hx⟩ := h2
    have hL : (a.getD (Str.ofString "C")).length ≤ 100 := by
      cases a with
      | none => decide +kernel
      | some y => exact h1.2
    refine SX.if_ (Tst.isNone (Ex.name he) Ex.noneE) (fun h => by cases h) (fun _ => SX.ret ((Ex.addS (Ex.addS (Ex.nameS hl) Ex.litS ?_) (Ex.nameS he) ?_).wx fun v hv => hC _ _ _ ⟨hv, rfl⟩))
    · have : (Str.ofString ".").length ≤ 10 := by decide +kernel
      omega
    · have h3 : (Str.ofString ".").length ≤ 10 := by decide +kernel
      have h4 : (a.getD (Str.ofString "C") ++ Str.ofString ".").length = (a.getD (Str.ofString "C")).length + (Str.ofString ".").length := Str.length_append ..
      omega

end Mine
end
section
open PySem PySem.W PyProof.Rows PySem.Calls
set_option maxRecDepth 100000
set_option maxHeartbeats 8000000
namespace Mine
set_option linter.unusedVariables false
section
variable {w : World} {dn : Nat} {b : Bs w dn} {k : Cd} {m : Map} {N : Led} {C : Flow → Map → Led → Prop} {rest : List Stmt} {en : Env}
theorem subTail {prog : Program} {A : Around} {E : Value → Shared → Prop} {s : Shared} {value slice : Expr} {o i : Value} {T id : String} {Q : Value → Shared → Prop} (hT : s.TypeIs o T)
    (hl : typeLookup (.type T) "__getitem__" = pure (some (.builtin id))) (h : wpAny (model prog w) A (getItem o i) Q E s)
    (hs : subscripted slice false o i = operate [o, i] (getItem o i)) : wpAny (model prog w) A (subscriptTail value slice o i) Q E s := by
  unfold subscriptTail
  refine wpAny_bind ?_
  rw [getitemInPython_of_ne hT.not_modules]
  refine wpAny_bind (wpAny_specialOf hT hl ?_)
  have fin : wpAny (model prog w) A (subscripted slice false o i) (fun r s₃ => wpAny (model prog w) A (letTemporaryGo value o r >>= fun _ => pure r) Q E s₃) E s := by
    rw [hs]
    exact wpAny_operating (wpAny_mono h (fun r s₃ h₃ => wpAny_bind (wpAny_letTemporaryGo (wpAny_pure h₃))) fun _ _ x => x)
  first
    | exact wpAny_pure (wpAny_bind fin)
    | exact wpAny_bind (wpAny_pure (wpAny_bind fin))
    | exact wpAny_bind fin
/-- an expression that leaves names and ledger as they are -/
abbrev Gx (b : Bs w dn) (k : Cd) (en : Env) (m : Map) (N : Led) (e : Expr) (P : Value → Prop) : Prop := WXE b k en m N e (fun v m' N' => P v ∧ m' = m ∧ N' = N)
theorem Gx.tab {elts : List Expr} {lp pos : Pos} {ix : Expr} {j : Nat} {Pl : List Value → Prop} {P : Value → Prop} (hl : Ars b k en m N elts Pl) (hi : XE b k en m N ix (IsI (j : Int))) (hx : ∀ vs, Pl vs → ∃ x, vs[j]? = some x ∧ P x ∧ vs.length ≤ 100) (hj : j ≤ 100)
    (hsu : autoParam (∀ d key, subscripted ix false (.ref d) key = operate [.ref d, key] (getItem (.ref d) key)) tIIUn) : Gx b k en m N (.Subscript (.List elts lp) ix pos) P := fun s Q F N' hQ =>
  Subscript_ (List_ (hl _ _ _ F N' fun vs tk p => by
    obtain ⟨x, hx1, hx2, hx3⟩ := hx vs p
    refine newList_K (s := { s with toks := tk }) F.fr N' (fun l h' F1 N1 hlt => ?_) (by rw [sizeLine_eq]; omega)
    refine hi _ _ (F.of F1) (fun p hp => N1 p (List.mem_cons_of_mem _ hp)) fun iv tk2 p2 => ?_
    obtain ⟨t, rfl⟩ := p2
    have hL : ({ s with heap := h', toks := tk2 } : Shared).heap.IsList l vs.toArray := ⟨_, (N1 _ (List.mem_cons_self ..)).1, rfl, 0, rfl⟩
    refine subTail hL.typeIs slot_list_getitem.lookup ?_ (hsu _ _)
    refine wpAny_getItem_list hL (by omega) (by omega) ?_ (hQ x m N h' tk2 ⟨hx2, rfl, rfl⟩ (F.of F1) fun p hp => N1 p (List.mem_cons_of_mem _ hp))
    simpa using hx1))
theorem Ex.mod {x y : Expr} {pos : Pos} {i j : Int} (ha : XE b k en m N x (IsI i)) (hb : XE b k en m N y (IsI j)) (h0 : j ≠ 0) : XE b k en m N (.BinOp x .Mod y pos) (IsI (i.fmod j)) := Ex.binop ha hb fun _ _ ⟨_, e1⟩ ⟨_, e2⟩ s Q F N hQ => by subst e1 e2; exact PyProof.Rows.mod_int h0 (hQ _ _ ⟨_, rfl⟩)
theorem Ex.fdiv {x y : Expr} {pos : Pos} {i j : Int} (ha : XE b k en m N x (IsI i)) (hb : XE b k en m N y (IsI j)) (h0 : j ≠ 0) (hp : Builtin.divisionGoesByPylong i j = false) : XE b k en m N (.BinOp x .FloorDiv y pos) (IsI (i.fdiv j)) := Ex.binop ha hb fun _ _ ⟨_, e1⟩ ⟨_, e2⟩ s Q F N hQ => by subst e1 e2; exact floordiv_int h0 (hQ _ _ ⟨_, rfl⟩) (Or.inl hp)
theorem Gx.addS {x y : Expr} {pos : Pos} {i j : Str} (ha : Gx b k en m N x (IsS i)) (hb : Gx b k en m N y (IsS j)) (hz : i.length + j.length ≤ 1000) : Gx b k en m N (.BinOp x .Add y pos) (IsS (i ++ j)) := fun s Q F N' hQ =>
  wpAny_BinOp (ha s _ F N' fun va m1 N1 h1 tk1 c1 F1 N1' => by
    obtain ⟨⟨t, rfl⟩, rfl, rfl⟩ := c1
    exact hb _ _ F1 N1' fun vb m2 N2 h2 tk2 c2 F2 N2' => by
      obtain ⟨⟨u, rfl⟩, rfl, rfl⟩ := c2
      exact add_str (fun t tk => hQ _ _ _ h2 tk ⟨⟨t, rfl⟩, rfl, rfl⟩ F2 N2') (by rw [sizeLine_eq]; omega))
theorem WE.tup2 {x y : Expr} {u : Nat} {pos : Pos} {P1 P2 : Value → Prop} {C : Value → Map → Led → Prop} (ha : Gx b k en m N x P1) (hb : Gx b k en m N y P2) (hc : ∀ T v1 v2, P1 v1 → P2 v2 → (∀ p ∈ N, p.1 < T) → C (.ref T) m ((T, tupO [v1, v2]) :: N))
    (h1 : autoParam (starEach [x, y] en = (false, eval x en) :: starEach [y] en) tRfl) (h2 : autoParam (starEach [y] en = (false, eval y en) :: starEach [] en) tRfl) : WXE b k en m N (.Tuple [x, y] u pos) C := fun s Q F N' hQ =>
  Tuple_ (args_cons (ha s _ F N' fun va m1 N1 h1 tk1 c1 F1 N1' => by
    obtain ⟨p1, rfl, rfl⟩ := c1
    exact args_cons (hb _ _ F1 N1' fun vb m2 N2 h2 tk2 c2 F2 N2' => by
      obtain ⟨p2, rfl, rfl⟩ := c2
      exact args_nil (newTuple_N F2.fr N2' (fun h3 F3 N3 => hQ _ _ _ h3 _ (hc _ va vb p1 p2 fun p hp => Heap.lt_size (N2' p hp).1) (F2.of F3) N3) (by show 2 ≤ sizeLine; rw [sizeLine_eq]; omega))) h2) h1)
def AreO : List Value → List (Option Str) → Prop
  | [], [] => True
  | v :: vs, o :: os => OptIs o v ∧ AreO vs os
  | _, _ => False
theorem AreO.get : ∀ {vs : List Value} {os : List (Option Str)} {i : Nat}, AreO vs os → i < os.length → ∃ v, vs[i]? = some v ∧ OptIs (os.getD i none) v ∧ vs.length ≤ os.length
  | [], [], _, _, hi => absurd hi (Nat.not_lt_zero _)
  | [], _ :: _, _, h, _ => h.elim
  | _ :: vs, o :: os, 0, h, _ => ⟨_, rfl, h.1, by
      have : ∀ {a : List Value} {b : List (Option Str)}, AreO a b → a.length ≤ b.length := fun {a} => by
        induction a with
        | nil => intro b h; exact Nat.zero_le _
        | cons x a ih => intro b h; cases b with
          | nil => exact h.elim
          | cons y b => exact Nat.succ_le_succ (ih h.2)
      exact this h⟩
  | _ :: vs, o :: os, i + 1, h, hi => by
    obtain ⟨v, a, c, d⟩ := AreO.get (i := i) h.2 (by simpa using hi)
    exact ⟨v, a, c, Nat.succ_le_succ d⟩
theorem Ars.nilO : Ars b k en m N [] (AreO · []) := fun pos s Q F N' hQ => Ars.nil pos s Q F N' fun v tk p => hQ v tk (by rw [p]; trivial)
theorem Ars.consO {e : Expr} {es : List Expr} {o : Option Str} {os : List (Option Str)} (he : XE b k en m N e (OptIs o)) (hs : Ars b k en m N es (AreO · os)) (hp : autoParam (starEach (e :: es) en = (false, eval e en) :: starEach es en) tRfl) : Ars b k en m N (e :: es) (AreO · (o :: os)) := fun pos s Q F N' hQ =>
  Ars.cons he hs hp pos s Q F N' fun vs tk p => by
    obtain ⟨v, us, rfl, p1, p2⟩ := p
    exact hQ _ tk ⟨p1, p2⟩
theorem Ex.litO {y : Str} {u : Nat} {pos : Pos} (h : y.length ≤ 100) : XE b k en m N (.Constant (.str y) u pos) (OptIs (some y)) := Ex.litS.mono fun v p => ⟨p, h⟩
theorem Ex.noneO {u : Nat} {pos : Pos} : XE b k en m N (.Constant .none u pos) (OptIs none) := Ex.noneE
end
def langT : List (Option Str) := [none, some (Str.ofString "de"), some (Str.ofString "en"), some (Str.ofString "a"), some (Str.ofString "zz")]
def encT : List (Option Str) := [none, some (Str.ofString "U"), some (Str.ofString "B")]
def langOf (x : Int) : Option Str := langT.getD (x.fmod 5).toNat none
def encOf (x : Int) : Option Str := encT.getD ((x.fdiv 5).fmod 3).toNat none
theorem fmod_at (x : Int) (n : Nat) (h : 0 < n) : ∃ j : Nat, x.fmod n = (j : Int) ∧ j < n := by
  refine ⟨(x.fmod n).toNat, ?_, ?_⟩
  · have := Int.fmod_nonneg_of_pos x (b := (n : Int)) (by omega); omega
  · have := Int.fmod_lt_of_pos x (b := (n : Int)) (by omega)
    have := Int.fmod_nonneg_of_pos x (b := (n : Int)) (by omega); omega
theorem pair_spec (w : World) (x : Int) (t : Tok) (N : Led) : Spec w 197 1 [.int x t] N (fun r n' => ∃ T v1 v2, r = .ref T ∧ n' = (T, tupO [v1, v2]) :: N ∧ OptIs (langOf x) v1 ∧ OptIs (encOf x) v2 ∧ ∀ p ∈ N, p.1 < T) := by
  k_dflt (refine' enter (binds := [(Str.ofString "x", .int x t)]) ?k6 ?k7 ?k9 ?kB ?c2 ?c3 ?c4 ?c5 ?_; (case k6 => k_is); (case k7 => k_is); (case k9 => exact fun _ _ => BindsTo.of_eq rfl); (case c5 => decide); (case kB => exact locs rfl); (case c2 => exact rfl); (case c3 => exact rfl); (case c4 => exact rfl); k_whole)
  refine BodyOk.ofSX rfl ?_
  intro b

  obtain ⟨j, hj, hj5⟩ := fmod_at x 5 (by omega)
  obtain ⟨i, hi, hi3⟩ := fmod_at (x.fdiv 5) 3 (by omega)
  have e1 : langT.getD j none = langOf x := by rw [langOf, show x.fmod 5 = (j : Int) from hj]; rfl
  have e2 : encT.getD i none = encOf x := by rw [encOf, show (x.fdiv 5).fmod 3 = (i : Int) from hi]; rfl
  rw [← e1, ← e2]
  refine SX.ret (WE.tup2 (P1 := OptIs (langT.getD j none)) (P2 := OptIs (encT.getD i none)) (Gx.tab (j := j) (Ars.consO Ex.noneO (Ars.consO (Ex.litO (by decide +kernel)) (Ars.consO (Ex.litO (by decide +kernel)) (Ars.consO (Ex.litO (by decide +kernel)) (Ars.consO (Ex.litO (by decide +kernel)) Ars.nilO))))) ?_ (fun vs hv => ?_) (by omega)) (Gx.tab (j := i) (Ars.consO Ex.noneO (Ars.consO (Ex.litO (by decide +kernel)) (Ars.consO (Ex.litO (by decide +kernel)) Ars.nilO))) ?_ (fun vs hv => ?_) (by omega)) fun T v1 v2 p1 p2 hT => ⟨T, v1, v2, rfl, rfl, p1, p2, hT⟩)
  · rw [← hj]; exact Ex.mod (Ex.nameI rfl) Ex.lit (by decide)
  · obtain ⟨v, a, c, d⟩ := AreO.get (i := j) hv hj5
    exact ⟨v, a, c, Nat.le_trans d (by decide)⟩
  · rw [← hi]; exact Ex.mod (Ex.fdiv (Ex.nameI rfl) Ex.lit (by decide) (PyProof.noPylong_small (by decide))) Ex.lit (by decide)
  · obtain ⟨v, a, c, d⟩ := AreO.get (i := i) hv hi3
    exact ⟨v, a, c, Nat.le_trans d (by decide)⟩

end Mine
end
section
open PySem PySem.W PyProof.Rows PySem.Calls
set_option maxRecDepth 100000
set_option maxHeartbeats 8000000
namespace Mine
set_option linter.unusedVariables false
def nameT : List (Option Str) := [some (Str.ofString "C"), some (Str.ofString "de"), some (Str.ofString "en"), some (Str.ofString "a"), some (Str.ofString "zz")]
def sufT : List (Option Str) := [some (Str.ofString ""), some (Str.ofString ".U"), some (Str.ofString ".B")]
theorem nameT_at {j : Nat} (h : j < 5) : nameT.getD j none = some ((langT.getD j none).getD (Str.ofString "C")) := by
  match j, h with
  | 0, _ => rfl
  | 1, _ => rfl
  | 2, _ => rfl
  | 3, _ => rfl
  | 4, _ => rfl
theorem sufT_at {i : Nat} (h : i < 3) : ∃ s, sufT.getD i none = some s ∧ s.length ≤ 10 ∧ ∀ a : Option Str, a.getD (Str.ofString "C") ++ s = locName a (encT.getD i none) := by
  match i, h with
  | 0, _ => exact ⟨_, rfl, by decide +kernel, fun a => by
      show a.getD (Str.ofString "C") ++ Str.ofString "" = a.getD (Str.ofString "C")
      rw [show Str.ofString "" = Str.empty by decide +kernel]
      exact Str.append_empty _⟩
  | 1, _ => exact ⟨_, rfl, by decide +kernel, fun a => by
      show _ = a.getD (Str.ofString "C") ++ Str.ofString "." ++ Str.ofString "U"
      rw [Str.append_assoc, show Str.ofString "." ++ Str.ofString "U" = Str.ofString ".U" by decide +kernel]⟩
  | 2, _ => exact ⟨_, rfl, by decide +kernel, fun a => by
      show _ = a.getD (Str.ofString "C") ++ Str.ofString "." ++ Str.ofString "B"
      rw [Str.append_assoc, show Str.ofString "." ++ Str.ofString "B" = Str.ofString ".B" by decide +kernel]⟩
theorem lang_len {j : Nat} (h : j < 5) : ((langT.getD j none).getD (Str.ofString "C")).length ≤ 10 := by
  match j, h with
  | 0, _ => decide +kernel
  | 1, _ => decide +kernel
  | 2, _ => decide +kernel
  | 3, _ => decide +kernel
  | 4, _ => decide +kernel
theorem name_spec (w : World) (x : Int) (t : Tok) (N : Led) : Spec w 204 1 [.int x t] N (fun r n' => IsS (locName (langOf x) (encOf x)) r ∧ n' = N) := by
  k_dflt (refine' enter (binds := [(Str.ofString "x", .int x t)]) ?k6 ?k7 ?k9 ?kB ?c2 ?c3 ?c4 ?c5 ?_; (case k6 => k_is); (case k7 => k_is); (case k9 => exact fun _ _ => BindsTo.of_eq rfl); (case c5 => decide); (case kB => exact locs rfl); (case c2 => exact rfl); (case c3 => exact rfl); (case c4 => exact rfl); k_whole)
  refine BodyOk.ofSX rfl ?_
  intro b

  obtain ⟨j, hj, hj5⟩ := fmod_at x 5 (by omega)
  obtain ⟨i, hi, hi3⟩ := fmod_at (x.fdiv 5) 3 (by omega)
  have e1 : langOf x = langT.getD j none := by rw [langOf, show x.fmod 5 = (j : Int) from hj]; rfl
  have e2 : encOf x = encT.getD i none := by rw [encOf, show (x.fdiv 5).fmod 3 = (i : Int) from hi]; rfl
  obtain ⟨s, hs, hs1, hs2⟩ := sufT_at hi3
  have hn := nameT_at hj5
  have hlen := lang_len hj5
  rw [e1, e2, ← hs2]
  refine SX.ret ((Gx.addS (Gx.tab (j := j) (Ars.consO (Ex.litO (by decide +kernel)) (Ars.consO (Ex.litO (by decide +kernel)) (Ars.consO (Ex.litO (by decide +kernel)) (Ars.consO (Ex.litO (by decide +kernel)) (Ars.consO (Ex.litO (by decide +kernel)) Ars.nilO))))) ?_ (fun vs hv => ?_) (by omega)) (Gx.tab (j := i) (Ars.consO (Ex.litO (by decide +kernel)) (Ars.consO (Ex.litO (by decide +kernel)) (Ars.consO (Ex.litO (by decide +kernel)) Ars.nilO))) ?_ (fun vs hv => ?_) (by omega)) (by omega)).mono fun v m' N' ⟨p, q1, q2⟩ => ⟨p, q2⟩)
  · rw [← hj]; exact Ex.mod (Ex.nameI rfl) Ex.lit (by decide)
  · obtain ⟨v, a, c, d⟩ := AreO.get (i := j) (os := nameT) hv hj5
    rw [hn] at c
    exact ⟨v, a, c.1, Nat.le_trans d (by decide)⟩
  · rw [← hi]; exact Ex.mod (Ex.fdiv (Ex.nameI rfl) Ex.lit (by decide) (PyProof.noPylong_small (by decide))) Ex.lit (by decide)
  · obtain ⟨v, a, c, d⟩ := AreO.get (i := i) (os := sufT) hv hi3
    rw [hs] at c
    exact ⟨v, a, c.1, Nat.le_trans d (by decide)⟩

end Mine
end
section
open PySem PySem.W PyProof.Rows PySem.Calls
set_option maxRecDepth 100000
set_option maxHeartbeats 8000000
namespace Mine
set_option linter.unusedVariables false
def St.zero : St := ⟨0, fun _ => 0, fun _ => [], none, 0, 0⟩
theorem make_G (w : World) (N : Led) : Spec w 137 3 [] N (fun r n' => ∃ z, r = .ref z.S ∧ Turned w St.zero z N n') := by
  refine (make_sorter w N).mono (Nat.le_refl _) ?_
  rintro v l ⟨S, DS, Nn, o, oN, rfl, rfl, ⟨k1, k2, k3, k4, t3, t4, rfl⟩, h4, h5, h6, h7, h8⟩
  refine ⟨⟨S, DS, Nn, 0, fun _ => 0, fun _ => 0, fun _ => 0⟩, rfl, [(Nn, oN), (S, instObj 137 DS), (DS, sortO w k1 k2 k3 k4 Nn .none 0 0 t3 t4)], rfl, ?_, ?_⟩
  · intro p hp r hr
    have := h6 r hr
    rcases List.mem_cons.mp hp with rfl | hp
    · exact Nat.ne_of_gt (Nat.lt_trans (Nat.lt_trans this h7) h8)
    rcases List.mem_cons.mp hp with rfl | hp
    · exact Nat.ne_of_gt (Nat.lt_trans this h7)
    · rw [List.mem_singleton.mp hp]; exact Nat.ne_of_gt this
  · exact {
      s := List.mem_cons_of_mem _ (List.mem_cons_self ..)
      d := ⟨k1, k2, k3, k4, t3, t4, List.mem_cons_of_mem _ (List.mem_cons_of_mem _ (List.mem_cons_self ..))⟩
      nn := ⟨oN, List.mem_cons_self .., h4⟩
      lo := h5
      sn := Nat.ne_of_gt (Nat.lt_trans h7 h8)
      node := fun k hk => absurd hk (Nat.not_lt_zero _)
      nd := fun k hk => absurd hk (Nat.not_lt_zero _)
      dn := fun k hk => absurd hk (Nat.not_lt_zero _)
      su := fun k hk => absurd hk (Nat.not_lt_zero _)
      inj := fun k hk => absurd hk (Nat.not_lt_zero _)
      rd := fun l hl => by cases hl }

end Mine
end
section
open PySem PySem.W PyProof.Rows PySem.Calls
set_option maxRecDepth 100000
set_option maxHeartbeats 8000000
namespace Mine
namespace LI
theorem slot_ga : Slot "list_iterator" "__getattribute__" "object.__getattribute__" :=
  .of (owner := "object") (n := "__getattribute__") (by rw [typeLookup_type, builtinLookup_eq_fast]; kernel_rfl) (by decide +kernel) (by decide +kernel) (by decide +kernel)
    (by first | exact .inl (by decide +kernel) | exact .inr (by decide +kernel)) (by rw [isSubtype_type]; kernel_rfl)
theorem entry_ga : entryFor table "object.__getattribute__" = some Builtin.«object.__getattribute__» := entryFor_of_tree (by kernel_rfl)
theorem args_ga (a b : Value) : argsOk "object.__getattribute__" ⟨[a, b], []⟩ := by unfold argsOk; kernel_rfl
theorem slot_get : Slot "wrapper_descriptor" "__get__" "wrapper_descriptor.__get__" :=
  .of (owner := "wrapper_descriptor") (n := "__get__") (by rw [typeLookup_type, builtinLookup_eq_fast]; kernel_rfl) (by decide +kernel) (by decide +kernel) (by decide +kernel)
    (by first | exact .inl (by decide +kernel) | exact .inr (by decide +kernel)) (by rw [isSubtype_type]; kernel_rfl)
theorem entry_get : entryFor table "wrapper_descriptor.__get__" = some Builtin.«wrapper_descriptor.__get__» := entryFor_of_tree (by kernel_rfl)
theorem args_get (a b c : Value) : argsOk "wrapper_descriptor.__get__" ⟨[a, b, c], []⟩ := by unfold argsOk; kernel_rfl
theorem type_next : typeOf (.builtin "list_iterator.__next__") = pure (.type "wrapper_descriptor") := by show builtinType _ = _; rw [builtinType_eq_fast]; kernel_rfl
theorem look_next : typeLookup (.type "list_iterator") "__next__" = pure (some (.builtin "list_iterator.__next__")) := slot_listiter_next.lookup
theorem getattr_none : typeLookup (.type "list_iterator") "__getattr__" = pure none := by rw [typeLookup_type, builtinLookup_eq_fast]; kernel_rfl
def wrap (a : Addr) : Obj := { cls := .type "method-wrapper", data := .fields #[.builtin "list_iterator.__next__", .ref a] }

theorem look_set : typeLookup (.type "wrapper_descriptor") "__set__" = pure none := by rw [typeLookup_type, builtinLookup_eq_fast]; kernel_rfl
theorem look_del : typeLookup (.type "wrapper_descriptor") "__delete__" = pure none := by rw [typeLookup_type, builtinLookup_eq_fast]; kernel_rfl
theorem owner_next : (kfb_private% "ownerAndName") "list_iterator.__next__" = ("list_iterator", "__next__") := by first | decide +kernel | kernel_rfl
theorem sub_self : isSubtype (.type "list_iterator") (.type "list_iterator") = pure true := by rw [isSubtype_type]; kernel_rfl
theorem run_get {M : Model} {A : Around} {E : Value → Shared → Prop} {s : Shared} {a : Addr} {P : Fin → Shared → Prop} (hT : s.TypeIs (.ref a) "list_iterator") (h : P (.done (.ret (.ref s.heap.objs.size))) { s with heap := s.heap.push (wrap a) }) :
    wpAny M A (Builtin.«wrapper_descriptor.__get__» ⟨[.builtin "list_iterator.__next__", .ref a, .type "list_iterator"], []⟩) P E s := by
  unfold Builtin.«wrapper_descriptor.__get__»
  refine wpAny_bind (wpAny_of_eq (a := (.builtin "list_iterator.__next__", some (.ref a), some (.type "list_iterator"))) (by first | rfl | kernel_rfl) ?_)
  change wpAny M A (_ >>= fun _ => _) P E s
  refine wpAny_bind ?_
  change wpAny M A (_ >>= fun _ => _) _ E s
  refine wpAny_bind ?_
  change wpAny M A (pure (Str.ofString ((kfb_private% "ownerAndName") "list_iterator.__next__").2, Value.type ((kfb_private% "ownerAndName") "list_iterator.__next__").1)) _ E s
  rw [owner_next]
  refine wpAny_pure ?_
  change wpAny M A (_ >>= fun _ => _) _ E s
  refine wpAny_bind ?_
  have f1 := sub_self
  unfold isInstance
  repeat (any_goals (first | assumption | exact f1 | wp_step))
  all_goals first | exact wpAny_bind (wpAny_newObj_type (wpAny_pure h)) | skip
theorem meets_next (a : Addr) (vs : Array Value) (u : Tok) : Meets (Builtin.«object.__getattribute__» ⟨[.ref a, .str (Str.ofString "__next__") u], []⟩) (fun A R s => s.heap.get? a = some { cls := .type "list_iterator", data := .fields vs } ∧ R (.ok (.ret (.ref s.heap.objs.size))) { s with heap := s.heap.push (wrap a) }) :=
  Meets.of_wp fun prog w A R s hs => by
    obtain ⟨hp, g, d, tk, os⟩ := s
    obtain ⟨hx, hs⟩ := hs
    have hT : (⟨hp, g, d, tk, os⟩ : Shared).TypeIs (.ref a) "list_iterator" := ⟨_, hx, rfl⟩
    have f1 := look_next
    have f2 := type_next
    have f3 := slot_get.lookup
    have f4 := look_set
    have f5 := look_del
    unfold Builtin.«object.__getattribute__»
    repeat (any_goals (first | assumption | ((with_reducible show wpAny _ _ (call (Value.builtin "wrapper_descriptor.__get__") _ _) _ _ _); refine wpAny_call_entry slot_get f2 entry_get (run_get hT ?_) (args_get _ _ _)) | wp_step))
    exact ⟨_, rfl, wpAny_pure ⟨_, rfl, hs⟩⟩
theorem getAttr_next {prog : Program} {w : World} {A : Around} {E : Value → Shared → Prop} {s : Shared} {a : Addr} {vs : Array Value} {Q : Value → Shared → Prop} (hx : s.heap.get? a = some { cls := .type "list_iterator", data := .fields vs })
    (h : ∀ tk, Q (.ref s.heap.objs.size) { s with heap := s.heap.push (wrap a), toks := tk }) : wpAny (model prog w) A (getAttr (.ref a) (Str.ofString "__next__") true) Q E s := by
  obtain ⟨hp, g, d, tk, os⟩ := s
  have hT : ∀ tk', (⟨hp, g, d, tk', os⟩ : Shared).TypeIs (.ref a) "list_iterator" := fun _ => ⟨_, hx, rfl⟩
  have f3 := slot_ga.lookup
  have f4 := slot_ga.bind (.ref a)
  have f5 := getattr_none
  unfold getAttr getAttrBy
  repeat (any_goals (first | assumption | exact hT _ | ((with_reducible show wpAny _ _ (call (Value.builtin "object.__getattribute__") _ _) _ _ _); refine call_meets slot_ga (hT _) entry_ga (args_ga _ _) (meets_next a vs _) ⟨hx, ?_⟩) | wp_step))
  show wpAny _ _ (handedOut (Value.ref _)) _ _ _
  rw [handedOut_of rfl]
  exact wpAny_pure (h _)
end LI
end Mine
end
section
open PySem PySem.W PyProof.Rows PySem.Calls
set_option maxRecDepth 100000
set_option maxHeartbeats 8000000
namespace Mine
namespace LI
theorem check_next {a : Addr} : checkBoundCall "list_iterator.__next__" ⟨[.ref a], []⟩ = pure () := by first | kernel_rfl | rfl
theorem quiet_next {as : Args} : (Code.builtin "list_iterator.__next__" as).quiet = true := Code.quiet_builtin _ (by decide +kernel)
theorem call_wrap {prog : Program} {w : World} {A : Around} {E : Value → Shared → Prop} {s : Shared} {x a : Addr} {Q : Value → Shared → Prop} (ho : s.heap.get? x = some (wrap a))
    (tree : ∀ A' : Around, A'.handled = A.handled → wpAny (model prog w) A' (Builtin.«list_iterator.__next__» ⟨[.ref a], []⟩) (fun fin s' => ∃ v, fin = .done (.ret v) ∧ Q v s') E s) : wpAny (model prog w) A (call (.ref x) []) Q E s := by
  refine wpAny_call (codeAny_of_tree ?_)
  show wpAny _ A.in1 (callAny (.ref x) ⟨[], []⟩) _ _ s
  simp only [callAny]
  refine wpAny_bind (wpAny_load ho ?_)
  simp only [wrap, show (Value.type "method-wrapper" == Value.type "method" || Value.type "method-wrapper" == Value.type "builtin_function_or_method" || Value.type "method-wrapper" == Value.type "method-wrapper") = true by decide, if_true]
  refine KFB.if_so (by decide) ?_
  refine wpAny_bind (wpAny_of_eq (a := ()) check_next ?_)
  refine wpAny_bind (wpAny_pure (wpAny_pure ?_))
  refine ⟨quiet_next, codeAny_builtin entry_listiter_next ?_⟩
  exact wpAny_mono (tree _ rfl) (fun fin s' ⟨v, e, q⟩ => by subst e; exact q) fun _ _ e => e
theorem call_item {prog : Program} {w : World} {A : Around} {E : Value → Shared → Prop} {s : Shared} {x a l : Addr} {i : Nat} {items : Array Value} {y : Value} {Q : Value → Shared → Prop} (ho : s.heap.get? x = some (wrap a)) (hit : s.heap.IsListIter a l i) (hl : s.heap.IsList l items) (hx : items[i]? = some y)
    (hQ : ∀ h', h'.IsListIter a l (i + 1) → Heap.SameBut a s.heap h' → Q y { s with heap := h' }) : wpAny (model prog w) A (call (.ref x) []) Q E s := by
  obtain ⟨o, hoo, hc, hd⟩ := id hit
  obtain ⟨ol, hol, _, nl, hdl⟩ := hl
  refine call_wrap ho fun A' _ => ?_
  show wpAny _ _ (field (.ref a) 0 >>= _) _ _ s
  refine wpAny_bind (wpAny_field hoo hd (x := .ref l) rfl ?_)
  show wpAny _ _ (if (Value.ref l == Value.none) = true then _ else _) _ _ s
  rw [if_neg (show ¬ ((Value.ref l == Value.none) = true) from Bool.false_ne_true)]
  show wpAny _ _ (field (.ref a) 1 >>= _) _ _ s
  refine wpAny_bind (wpAny_field hoo hd (x := .int i 0) rfl ?_)
  show wpAny _ _ (seqItems? (.ref l) >>= _) _ _ s
  refine wpAny_bind (wpAny_seqItems hol hdl ?_)
  simp only [Int.toNat_natCast, hx]
  refine wpAny_bind (wpAny_setField hoo hd (by simp) (wpAny_pure ⟨y, rfl, hQ _ ?_ (Heap.SameBut.update ..)⟩))
  exact ⟨_, Heap.get?_update_self _ hoo (Obj.isFreed_of_fields (Obj.data_mapFields hd _)), (Obj.cls_mapFields ..).trans hc, by
    rw [Obj.data_mapFields hd]; simp [rawInt]⟩
theorem call_wrapE {prog : Program} {w : World} {A : Around} {E : Value → Shared → Prop} {s : Shared} {x a : Addr} {Q : Value → Shared → Prop} (ho : s.heap.get? x = some (wrap a))
    (tree : ∀ A' : Around, A'.handled = A.handled → wpAny (model prog w) A' (Builtin.«list_iterator.__next__» ⟨[.ref a], []⟩) (fun _ _ => False) E s) : wpAny (model prog w) A (call (.ref x) []) Q E s := by
  refine wpAny_call (codeAny_of_tree ?_)
  show wpAny _ A.in1 (callAny (.ref x) ⟨[], []⟩) _ _ s
  simp only [callAny]
  refine wpAny_bind (wpAny_load ho ?_)
  simp only [wrap, show (Value.type "method-wrapper" == Value.type "method" || Value.type "method-wrapper" == Value.type "builtin_function_or_method" || Value.type "method-wrapper" == Value.type "method-wrapper") = true by decide, if_true]
  refine KFB.if_so (by decide) ?_
  refine wpAny_bind (wpAny_of_eq (a := ()) check_next ?_)
  refine wpAny_bind (wpAny_pure (wpAny_pure ?_))
  refine ⟨quiet_next, codeAny_builtin entry_listiter_next ?_⟩
  exact wpAny_mono (tree _ rfl) (fun fin s' f => f.elim) fun _ _ e => e
theorem call_end {prog : Program} {w : World} {A : Around} {E : Value → Shared → Prop} {s : Shared} {x a l : Addr} {i : Nat} {items : Array Value} {Q : Value → Shared → Prop} (hh : A.handled = none) (ho : s.heap.get? x = some (wrap a)) (hit : s.heap.IsListIter a l i) (hl : s.heap.IsList l items) (hx : items[i]? = none)
    (hE : ∀ h₁ h₂ e, Heap.SameBut a s.heap h₁ → (∃ o, h₁.get? a = some o) → Heap.NewExc h₁ h₂ e "StopIteration" → E (.ref e) { s with heap := h₂ }) : wpAny (model prog w) A (call (.ref x) []) Q E s := by
  obtain ⟨o, hoo, hc, hd⟩ := id hit
  obtain ⟨ol, hol, _, nl, hdl⟩ := hl
  refine call_wrapE ho fun A' hA' => ?_
  show wpAny _ _ (field (.ref a) 0 >>= _) _ _ s
  refine wpAny_bind (wpAny_field hoo hd (x := .ref l) rfl ?_)
  show wpAny _ _ (if (Value.ref l == Value.none) = true then _ else _) _ _ s
  rw [if_neg (show ¬ ((Value.ref l == Value.none) = true) from Bool.false_ne_true)]
  show wpAny _ _ (field (.ref a) 1 >>= _) _ _ s
  refine wpAny_bind (wpAny_field hoo hd (x := .int i 0) rfl ?_)
  show wpAny _ _ (seqItems? (.ref l) >>= _) _ _ s
  refine wpAny_bind (wpAny_seqItems hol hdl ?_)
  simp only [Int.toNat_natCast, hx]
  refine wpAny_bind (wpAny_rule (wpAny_bind (wpAny_setField hoo hd (by simp) ?_)))
  show wpAny _ _ (newExc (.type "StopIteration") [] >>= _) _ _ _
  refine wpAny_bind ?_
  simp only [newExc, newTuple]
  refine wpAny_bind (wpAny_newObj_type ?_ (by size_fits))
  refine wpAny_bind (m := firstArgMember _ _) (wpAny_of_eq (a := Value.none) (by first | rfl | (simp only [firstArgMember]; rfl)) ?_)
  refine wpAny_newObj_type ?_ (by size_fits)
  simp only [raiseNew]
  refine wpAny_bind (wpAny_handled ?_)
  rw [hA', hh]
  refine wpAny_bind (wpAny_pure (wpAny_throw ?_))
  refine hE _ _ _ (Heap.SameBut.update ..) ⟨_, Heap.get?_update_self _ hoo (Obj.isFreed_of_fields (Obj.data_mapFields hd _))⟩ ⟨fun b ob e => Heap.get?_push_of_some _ (Heap.get?_push_of_some _ e), ?_, ?_⟩
  · exact Heap.get?_none_of_le (by simp [Heap.size_push])
  · exact ⟨_, _, Heap.get?_push_size _ rfl, rfl, rfl⟩
end LI
end Mine
end
section
open PySem PySem.W PyProof.Rows PySem.Calls
set_option maxRecDepth 100000
set_option maxHeartbeats 8000000
set_option linter.unusedVariables false
namespace Mine
section
variable {w : World} {dn : Nat} {b : Bs w dn} {k : Cd} {m : Map} {N : Led} {C : Flow → Map → Led → Prop} {rest : List Stmt} {en : Env}
theorem SX.while_ {test : Expr} {body orelse : List Stmt} {pos : Pos} (J : Nat → Map → Led → Prop) (i₀ : Nat) (hj : J i₀ m N)
    (turn : ∀ i m₁ N₁, J i m₁ N₁ → ∃ c, Tst b k m₁ N₁ test c ∧ (c = true → SX b k m₁ N₁ body (fun f m' N' => match f with
      | .ret v => C (.ret v) m' N'
      | .brk => SX b k m' N' rest C
      | _ => ∃ i', i' < i ∧ J i' m' N')) ∧ (c = false → SX b k m₁ N₁ orelse (Cn b k rest C))) : SX b k m N (.While test body orelse pos :: rest) C := by
  refine SX.cons (C' := C) fun s Q F N' hQ => wpAny_While ?_
  refine codeAny_whileLoop (fun n s' => ∃ h' tk m₁ N₁, ∃ F : FrB b h' m₁, s' = { s with heap := h', toks := tk } ∧ News F.g b.L h' N₁ ∧ J n m₁ N₁) (fun n s' hI => ?_) i₀ ⟨_, _, m, N, F, rfl, N', hj⟩
  obtain ⟨h', tk, m₁, N₁, F₁, rfl, NN₁, hJ⟩ := hI
  obtain ⟨c, ht, h1, h2⟩ := turn n m₁ N₁ hJ
  refine wpAny_mono (ht { s with heap := h', toks := tk } (fun v s₂ => v = c ∧ ∃ tk', s₂ = { s with heap := h', toks := tk' }) F₁ NN₁ fun v tk' e => ⟨e, tk', rfl⟩) (fun v s₂ hv => ?_) fun _ _ x => x.elim
  obtain ⟨rfl, tk', rfl⟩ := hv
  cases v with
  | true =>
    simp only [if_true]
    refine wpAny_mono (h1 rfl { s with heap := h', toks := tk' } (fun f s₃ => match f with
      | .ret v => Q (.ret v) s₃
      | .brk => Q .next s₃
      | _ => ∃ i', i' < n ∧ ∃ h'' tk'' m₂ N₂, ∃ F : FrB b h'' m₂, s₃ = { s with heap := h'', toks := tk'' } ∧ News F.g b.L h'' N₂ ∧ J i' m₂ N₂) F₁ NN₁ fun f m' N'' h'' tk'' c F'' N3 => ?_) (fun f s₃ x => ?_) fun _ _ x => x.elim
    · cases f with
      | ret v => exact hQ (.ret v) m' N'' h'' tk'' c F'' N3
      | brk => exact hQ .next m' N'' h'' tk'' c F'' N3
      | next => obtain ⟨i', hi, hj⟩ := c; exact ⟨i', hi, h'', tk'', m', N'', F'', rfl, N3, hj⟩
      | cont => obtain ⟨i', hi, hj⟩ := c; exact ⟨i', hi, h'', tk'', m', N'', F'', rfl, N3, hj⟩
    · cases f with
      | ret v => exact x
      | brk => exact x
      | next => exact x
      | cont => exact x
  | false =>
    simp only [Bool.false_eq_true, if_false]
    refine wpAny_mono (h2 rfl { s with heap := h', toks := tk' } (fun f s₃ => Q f s₃) F₁ NN₁ fun f m' N'' h'' tk'' c F'' N3 => hQ f m' N'' h'' tk'' c F'' N3) (fun f s₃ x => x) fun _ _ x => x.elim
theorem Tst.true_ {u : Nat} {pos : Pos} : Tst b k m N (.Constant (.bool true) u pos) true := fun s Q F N hQ => by
  refine isTrue_plain (wpAny_Constant_bool (wpAny_truthy_bool (hQ true s.toks rfl))) (by rfl)
theorem Tst.list {e : Expr} {D : Addr} {l : List Value} {n : Nat} (he : Ex b k m N e (IsV (.ref D))) (hm : (D, listOf l.toArray n) ∈ N) (hz : l.length ≤ 1000) (h : autoParam (isTrue e (k.env b.L) (eval e (k.env b.L)) = (do let v ← eval e (k.env b.L); standAt e.pos; holding [v] (truthy v))) tRfl) : Tst b k m N e (!l.isEmpty) :=
  Tst.val he (fun v hv s Q F N' hQ => by cases hv; exact truthyS N' hm ⟨rfl, hz⟩ (hQ _ _ rfl)) h
-- ledger's writes, the thing written ahead
theorem Wx.append {D : Addr} {l : List Value} {n : Nat} {x : Value} {r : Led} {C : Value → Map → Led → Prop} (hs : ∀ p ∈ (D, listOf l.toArray n) :: r, p ∈ N) (ho : ∀ p ∈ r, p.1 ≠ D) (hz : l.length ≤ 1000) (h : C .none m ((D, listOf (l ++ [x]).toArray (n + 1)) :: r)) : Wx b k m N (PySem.call (.builtin "list.append") [.ref D, x]) C :=
  fun s Q F N' hQ => appendS F.fr (News.sub N' hs) ⟨rfl, hz⟩ (.head ho) fun h' F' N'' => hQ .none m _ h' _ h (F.of F') N''
theorem WE.bmethW {o e : Expr} {name : Str} {ap pos : Pos} {id : String} {x : Value} {C : Value → Map → Led → Prop} (ho : XE b k en m N o (IsV x)) (hm : ∀ pl, Rd b k m N (getMethod x name pl) (fun fx => fx = (.builtin id, [x]))) (ha : WXE b k en m N e (fun v m' N' => Wx b k m' N' (PySem.call (.builtin id) [x, v]) C))
    (h1 : ∃ pl, eval (.Call (.Attribute o name ap) [e] [] pos) en = (do
      let ov ← eval o en
      standAt ap.atName
      let (f, first) ← holding [ov] (getMethod ov name pl)
      callWith pos f first (backTo pos (starEach [e] en)) []) := by exact ⟨_, rfl⟩)
    (he : autoParam (starEach [e] en = (false, eval e en) :: starEach [] en) tRfl) : WXE b k en m N (.Call (.Attribute o name ap) [e] [] pos) C :=
  fun s Q F N hQ => by
    obtain ⟨pl, h1⟩ := h1
    exact MethodCall_ (pl := pl) (ho s _ F N fun ov tk p => by
      cases p
      exact hm pl _ _ F N fun fx tk2 p2 => by
        subst p2
        refine callWith_builtin (by rw [he]; rfl) ?_
        have h2 : wpAny (model prog w) (b.A k) (spliced (backTo pos (starEach (e :: []) en))) (fun vs s' => wpAny (model prog w) (b.A k) (PySem.call (.builtin id) ([x] ++ vs) []) Q (fun _ _ => False) s') (fun _ _ => False) { s with toks := tk2 } :=
          args_cons (ha _ _ F N fun v m' N' h' tk3 c F' N'' => args_nil (c _ Q F' N'' hQ)) he
        rw [he] at h2 ⊢
        exact evalArgs_plain h2) h1
theorem SX.setI {d i e : Expr} {sp pos : Pos} {P1 P2 P3 : Value → Prop} (he : Ex b k m N e P1) (hd : Ex b k m N d P2) (hi : Ex b k m N i P3) (hk : ∀ v dv iv, P1 v → P2 dv → P3 iv → Wx b k m N (setItem dv iv v) (fun _ m' N' => SX b k m' N' rest C))
    (hs : autoParam (swapsWith e (some (.Subscript d i sp)) pos.line (k.env b.L) = pure false) tRfl) : SX b k m N (.Assign [.Subscript d i sp] e pos :: rest) C :=
  SX.cons (C' := C) fun s Q F N hQ => wpAny_Assign_Subscript (he s _ F N fun v tk p => hd _ _ F N fun dv tk2 p2 => hi _ _ F N fun iv tk3 p3 => hk v dv iv p p2 p3 _ _ F N fun _ m' N' h' tk c F' N'' => hQ .next m' N' h' tk c F' N'') hs
end
end Mine
end
section
open PySem PySem.W PyProof.Rows PySem.Calls
set_option maxRecDepth 100000
set_option maxHeartbeats 8000000
set_option linter.unusedVariables false
namespace Mine
section
variable {w : World} {dn : Nat} {b : Bs w dn} {k : Cd} {m : Map} {N : Led} {C : Flow → Map → Led → Prop} {rest : List Stmt} {en : Env}
theorem WE.listE {es : List Expr} {pos : Pos} {Ps : List Value → Prop} {C : Value → Map → Led → Prop} (ha : Ars b k en m N es Ps) (hz : ∀ vs, Ps vs → vs.length ≤ 1000) (h : ∀ l vs, Ps vs → (∀ p ∈ N, p.1 < l) → C (.ref l) m ((l, listOf vs.toArray 0) :: N)) : WXE b k en m N (.List es pos) C := fun s Q F N' hQ =>
  List_ (ha _ _ _ F N' fun vs tk p => newList_K (s := { s with toks := tk }) F.fr N' (fun l h' F1 N1 hlt => hQ _ m _ h' tk (h l vs p hlt) (F.of F1) N1) (by rw [sizeLine_eq]; have := hz vs p; omega))
theorem WE.set0 {f : Expr} {pos : Pos} {C : Value → Map → Led → Prop} (hf : XE b k en m N f (IsV (.type "set"))) (h : ∀ D o, (∀ p ∈ N, p.1 < D) → Obj.SetObjOf (PySem.intKind prog w) o (fun _ => false) 0 → C (.ref D) m ((D, o) :: N))
    (h1 : autoParam (eval (.Call f [] [] pos) en = (do callWith pos (← eval f en) [] (backTo pos (starEach [] en)) (backToKw pos (keywordEach [] en)))) tRfl) : WXE b k en m N (.Call f [] [] pos) C := fun s Q F N' hQ =>
  Call_ (hf s _ F N' fun fv tk p => by cases p; exact PyProof.Rows.callWith_type0 (env := en) (kse_new F.fr N' fun D h' led F1 N1 lt hs _ => hQ _ m _ h' _ (h D _ lt hs) (F.of F1) N1)) h1
theorem WE.dict0 {pos : Pos} {C : Value → Map → Led → Prop} (h : ∀ D o, (∀ p ∈ N, p.1 < D) → (D == sysModules) = false → o.IsDictOf (intKind prog w) [] → C (.ref D) m ((D, o) :: N)) : WXE b k en m N (.Dict [] [] pos) C := fun s Q F N' hQ => by
  obtain ⟨v₀, lo, mean, mg, mb, T⟩ := F.amb.top
  exact newDict_K F.fr N' T.nolimit fun d h' o F1 N1 lt lo' _ _ hi _ => hQ _ m _ h' _ (h d o lt lo' hi) (F.of F1) N1
theorem Tst.inSet {x y : Expr} {pos : Pos} {i : Int} {a : Addr} {o : Obj} {S : Int → Bool} {n : Nat} (hx : Ex b k m N x (IsI i)) (hy : Ex b k m N y (IsV (.ref a))) (hm : (a, o) ∈ N) (ho : o.SetObjOf (PySem.intKind prog w) S n) (hn : n < 1000) (hmk : autoParam (behindInMarks .In y = false) tUn) : Tst b k m N (.Compare x [.In] [y] pos) (S i) :=
  Tst.cmp (hm := hmk) hx hy fun va vb ⟨t, e⟩ e2 s Q F N' hQ => by
    subst e; cases e2
    have N1 : News F.g b.L s.heap ((a, o) :: []) := fun p hp => by rw [List.mem_singleton.mp hp]; exact N' _ hm
    exact kse_in (knd := PySem.intKind _ _) N1 (.head fun _ h => (nomatch h)) ho (by show n < 4096; omega) (intKind_is _ _ _ _) rfl (hQ _ _ rfl)
theorem Tst.inDict {x y : Expr} {pos : Pos} {i : Int} {a : Addr} {o : Obj} {kvs : List (Int × Value)} {c : Bool} (hx : Ex b k m N x (IsI i)) (hy : Ex b k m N y (IsV (.ref a))) (hm : (a, o) ∈ N) (ho : o.IsDictOf (intKind prog w) kvs) (lo : (a == sysModules) = false) (hc : (valueAt kvs i).isSome = c) (hmk : autoParam (behindInMarks .In y = false) tUn) : Tst b k m N (.Compare x [.In] [y] pos) c :=
  Tst.cmp (hm := hmk) hx hy fun va vb ⟨t, e⟩ e2 s Q F N' hQ => by
    subst e; cases e2
    exact kda_in (knd := PySem.intKind _ _) N' hm ho lo (intKind_is _ _ _ _) c hc (hQ _ _ rfl)
theorem Wx.setAdd {a : Addr} {o : Obj} {S : Int → Bool} {n : Nat} {i : Int} {v : Value} {r : Led} {C : Value → Map → Led → Prop} (hv : IsI i v) (hs : ∀ p ∈ (a, o) :: r, p ∈ N) (hr : ∀ p ∈ r, p.1 ≠ a) (ho : o.SetObjOf (PySem.intKind prog w) S n) (hn : n < 1000) (h : ∀ o', o'.SetObjOf (PySem.intKind prog w) (fun j => S j || decide (j = i)) (if S i then n else n + 1) → C .none m ((a, o') :: r)) : Wx b k m N (PySem.call (.builtin "set.add") [.ref a, v]) C := fun s Q F N' hQ => by
  obtain ⟨t, rfl⟩ := hv
  exact kse_add (knd := PySem.intKind _ _) F.fr (News.sub N' hs) (.head hr) ho (by show n + 1 < 4096; omega) (intKind_is _ _ _ _) rfl fun h' o' F1 N1 ho' => hQ _ m _ h' _ (h o' ho') (F.of F1) N1
theorem Rd.setAdd {a : Addr} {o : Obj} {S : Int → Bool} {n : Nat} (hm : (a, o) ∈ N) (ho : o.SetObjOf (PySem.intKind prog w) S n) (hn : n < 1000) (pl : Sem Bool) : Rd b k m N (getMethod (.ref a) (Str.ofString "add") pl) (fun fx => fx = (.builtin "set.add", [.ref a])) := fun s Q F N' hQ => by
  have N1 : News F.g b.L s.heap ((a, o) :: []) := fun p hp => by rw [List.mem_singleton.mp hp]; exact N' _ hm
  exact kse_method (knd := PySem.intKind _ _) N1 (.head fun _ h => (nomatch h)) ho (by show n < 4096; omega) (hQ _ s.toks rfl)
theorem Wx.dictSet {a : Addr} {o : Obj} {kvs : List (Int × Value)} {i : Int} {v x : Value} {r : Led} {C : Unit → Map → Led → Prop} (hv : IsI i v) (hs : ∀ p ∈ (a, o) :: r, p ∈ N) (hr : ∀ p ∈ r, p.1 ≠ a) (ho : o.IsDictOf (intKind prog w) kvs) (hz : kvs.length ≤ 1000) (h : ∀ o', o'.IsDictOf (intKind prog w) (stored kvs i x) → C () m ((a, o') :: r)) : Wx b k m N (setItem (.ref a) v x) C := fun s Q F N' hQ => by
  obtain ⟨t, rfl⟩ := hv
  exact kda_set (knd := PySem.intKind _ _) F.fr (News.sub N' hs) (.head hr) ho (intKind_is _ _ _ _) (by rw [sizeLine_eq]; omega) fun h' o' F1 N1 ho' => hQ _ m _ h' _ (h o' ho') (F.of F1) N1
/-- iter(a list) -/
theorem WE.iterL {f e : Expr} {pos : Pos} {l : Addr} {vs : List Value} {n : Nat} {C : Value → Map → Led → Prop} (hf : XE b k en m N f (IsV (.builtin "iter"))) (he : XE b k en m N e (IsV (.ref l))) (hm : (l, listOf vs.toArray n) ∈ N) (h : ∀ it, (∀ p ∈ N, p.1 < it) → C (.ref it) m ((it, { cls := .type "list_iterator", data := .fields #[.ref l, .int 0 0] }) :: N))
    (h1 : autoParam (eval (.Call f [e] [] pos) en = (do callWith pos (← eval f en) [] (backTo pos (starEach [e] en)) (backToKw pos (keywordEach [] en)))) tRfl)
    (hse : autoParam (starEach [e] en = (false, eval e en) :: starEach [] en) tRfl) : WXE b k en m N (.Call f [e] [] pos) C := fun s Q F N' hQ =>
  Call_ (hf s _ F N' fun fv tk p => by
    cases p
    refine callWith_builtin1 (Ars.one he hse pos _ _ F N' fun vs' tk2 p2 => ?_) hse rfl
    obtain ⟨v, rfl, p3⟩ := p2
    cases p3
    refine call_function_entry (by decide +kernel) (by decide +kernel) kdk_entry_iter (kdk_args_iter _) ?_
    unfold Builtin.«iter»
    refine wpAny_bind (m := someArgs "iter" 1 2 _) (wpAny_of_eq (a := [Value.ref l]) (by first | rfl | kernel_rfl) ?_)
    show wpAny _ _ (pyIter (.ref l) >>= _) _ _ _
    refine wpAny_bind (wpAny_pyIter_list ⟨_, (N' _ hm).1, rfl, n, rfl⟩ ?_)
    exact wpAny_pure ⟨_, rfl, hQ _ m _ _ _ (h _ fun p hp => Heap.lt_size (N' p hp).1) (F.of (F.fr.push _)) (News.push F.fr N' _ rfl)⟩) h1
/-- x.__next__ of an iterator just made -/
theorem WE.nextOf {x : Expr} {pos : Pos} {C : Value → Map → Led → Prop} (hx : WXE b k en m N x (fun v m' N' => ∃ it vs, v = .ref it ∧ (it, { cls := .type "list_iterator", data := .fields vs }) ∈ N' ∧ ∀ wr, (∀ p ∈ N', p.1 < wr) → C (.ref wr) m' ((wr, LI.wrap it) :: N')))
    (he : autoParam (eval (.Attribute x (Str.ofString "__next__") pos) en = (do
      let o ← eval x en
      standAt pos.atName
      let r ← holding [o] (getAttr o (Str.ofString "__next__") true)
      letTemporaryGo x o r
      pure r)) tUn) : WXE b k en m N (.Attribute x (Str.ofString "__next__") pos) C := fun s Q F N' hQ => by
  rw [he]
  refine wpAny_bind (hx s _ F N' fun v m' N'' h' tk c F' NN => ?_)
  obtain ⟨it, vs, rfl, hm, hC⟩ := c
  refine wpAny_bind (wpAny_standAt (wpAny_bind (wpAny_holding (LI.getAttr_next (NN _ hm).1 fun tk' => ?_))))
  exact wpAny_bind (wpAny_letTemporaryGo (wpAny_pure (hQ _ m' _ _ _ (hC _ fun p hp => Heap.lt_size (NN p hp).1) (F'.of (F'.fr.push _)) (News.push F'.fr NN _ rfl))))
end
end Mine
end
section
open PySem PySem.W PyProof.Rows PySem.Calls
set_option maxRecDepth 100000
set_option maxHeartbeats 8000000
set_option linter.unusedVariables false
namespace Mine
/-- an iterator over a list, j of its items handed out -/
def ItIs (o : Obj) (l : Addr) (j : Nat) : Prop := o.cls = .type "list_iterator" ∧ o.data = .fields #[.ref l, .int j 0]
section
variable {w : World} {dn : Nat} {b : Bs w dn} {k : Cd} {m : Map} {N : Led} {C : Flow → Map → Led → Prop} {rest : List Stmt} {en : Env}
theorem Ex.last {o : Expr} {u : Nat} {p1 p2 pos : Pos} {D : Addr} {l : List Value} {x : Value} {n : Nat} (ho : XE b k en m N o (IsV (.ref D))) (hm : (D, listOf (l ++ [x]).toArray n) ∈ N) (hz : l.length ≤ 1000)
    (hsu : autoParam (∀ d key, subscripted (.UnaryOp .USub (.Constant (.int 1) u p1) p2) false (.ref d) key = operate [.ref d, key] (getItem (.ref d) key)) tIIUn) : XE b k en m N (.Subscript o (.UnaryOp .USub (.Constant (.int 1) u p1) p2) pos) (IsV x) := fun s Q F N' hQ =>
  Subscript_ (ho s _ F N' fun v tk p => by
    cases p
    refine wpAny_UnaryOp (wpAny_Constant_int (neg_int ?_))
    have hL : s.heap.IsList D (l ++ [x]).toArray := ⟨_, (N' _ hm).1, rfl, n, rfl⟩
    refine subTail (s := { s with heap := s.heap, toks := _ }) hL.typeIs slot_list_getitem.lookup ?_ (hsu _ _)
    refine wpAny_getItem_list_neg (s := { s with heap := s.heap, toks := _ }) hL (by omega) (by rw [List.size_toArray, List.length_append]; simp; omega) (by decide) ?_ (hQ _ _ rfl)
    simp
    rw [show ((-1 : Int) + ((l.length : Int) + 1)).toNat = l.length by omega]
    simp)
theorem wrap_keeps {it W : Addr} {M : Model} (h : Heap) (e : h.get? W = some (LI.wrap it)) : ∃ k, (k = Keeper.frame ∨ k = Keeper.machine ∨ k = Keeper.boundFrame) ∧ Looks M h (keeperOf (.ref W)) k :=
  ⟨.machine, .inr (.inl rfl), (Looks.ld (part := none) e).andThen .now⟩
/-- the call of a wrapped next, an item there -/
theorem WE.nextItem {fe : Expr} {cpos : Pos} {W it l : Addr} {i : Nat} {o : Obj} {items : List Value} {nl : Nat} {y : Value} {r : Led} {C : Value → Map → Led → Prop} (hf : Ex b k m N fe (IsV (.ref W))) (hs : ∀ p ∈ (it, o) :: r, p ∈ N) (hr : ∀ p ∈ r, p.1 ≠ it) (hW : (W, LI.wrap it) ∈ r) (hl : (l, listOf items.toArray nl) ∈ r) (hi : ItIs o l i) (hy : items[i]? = some y)
    (h : ∀ o', ItIs o' l (i + 1) → C y m ((it, o') :: r))
    (h1 : autoParam (eval (.Call fe [] [] cpos) (k.env b.L) = (do callWith cpos (← eval fe (k.env b.L)) [] (backTo cpos (starEach [] (k.env b.L))) (backToKw cpos (keywordEach [] (k.env b.L))))) tRfl) : WE b k m N (.Call fe [] [] cpos) C := fun s Q F N' hQ =>
  Call_ (hf s _ F N' fun fv tk p => by
    cases p
    have NN := News.sub N' hs
    have eW := NN _ (List.mem_cons_of_mem _ hW)
    have eI := NN _ (List.mem_cons_self ..)
    have eL := NN _ (List.mem_cons_of_mem _ hl)
    refine callWith_of (P := fun h => h.get? W = some (LI.wrap it)) rfl (fun h e => wrap_keeps h e) (evalArgs_nil3 ⟨eW.1, ?_⟩)
    refine LI.call_item (items := items.toArray) eW.1 ⟨o, eI.1, hi.1, hi.2⟩ ⟨_, eL.1, rfl, nl, rfl⟩ (by simpa using hy) fun h' hit hsb => ?_
    obtain ⟨o', ho', hc, hd⟩ := hit
    refine hQ y m _ h' _ (h o' ⟨hc, hd⟩) (F.of (F.fr.change hsb eI.2.1 eI.2.2)) fun p hp => ?_
    rcases List.mem_cons.mp hp with rfl | hp
    · exact ⟨ho', eI.2⟩
    · have z := NN p (List.mem_cons_of_mem _ hp)
      exact ⟨hsb.extBut _ _ (hr p hp) z.1, z.2⟩) h1
end
section
variable {w : World} {dn : Nat} {b : Bs w dn} {m : Map} {N : Led} {C : Flow → Map → Led → Prop} {rest : List Stmt} {qual : Str} {scope : Scope} {f : Addr} {cdv : Value} {fn : scope.kind = .function}
/-- rows run while an exception is handled -/
def WxM (b : Bs w dn) (k : Cd) (e : Addr) (m : Map) (N : Led) (suite : List Stmt) (C : Flow → Map → Led → Prop) : Prop :=
  ∀ (s : Shared) (Q : Flow → Shared → Prop) (F : FrB b s.heap m), News F.g b.L s.heap N → (∀ v m' N' h' tk, C v m' N' → ∀ F' : FrB b h' m', News F'.g b.L h' N' → Q v { s with heap := h', toks := tk }) → wpAny (model prog w) ((b.A k).mark (some (.ref e))) (execs suite (k.env b.L)) Q (fun _ _ => False) s
/-- a try whose first row calls a wrapped next at its end -/
theorem SX.tryEnd {x : Str} {xp cpos apos hpos tpos : Pos} {fe t : Expr} {body : List Stmt} {b₀ : Stmt} {suite : List Stmt} {hs' : List ExceptHandler} {W it l : Addr} {i : Nat} {o : Obj} {items : List Value} {nl : Nat} {r : Led} (Tu : b.Tu)
    (hf : Ex b ⟨qual, scope, f, cdv, fn, fun _ => []⟩ m N fe (IsV (.ref W))) (hs : ∀ p ∈ (it, o) :: r, p ∈ N) (hr : ∀ p ∈ r, p.1 ≠ it) (hW : (W, LI.wrap it) ∈ r) (hl : (l, listOf items.toArray nl) ∈ r) (hi : ItIs o l i) (hy : items[i]? = none)
    (T : ∀ p loose mg mb, KtsTest prog w (Kh w.params) p loose mg mb qual scope b.L f cdv (.type "StopIteration") t true)
    (h : ∀ e, WxM b ⟨qual, scope, f, cdv, fn, fun _ => []⟩ e m r (b₀ :: suite) (Cn b ⟨qual, scope, f, cdv, fn, fun _ => []⟩ rest C))
    (h1 : autoParam (eval (.Call fe [] [] cpos) (Cd.env ⟨qual, scope, f, cdv, fn, fun _ => []⟩ b.L) = (do callWith cpos (← eval fe (Cd.env ⟨qual, scope, f, cdv, fn, fun _ => []⟩ b.L)) [] (backTo cpos (starEach [] (Cd.env ⟨qual, scope, f, cdv, fn, fun _ => []⟩ b.L))) (backToKw cpos (keywordEach [] (Cd.env ⟨qual, scope, f, cdv, fn, fun _ => []⟩ b.L))))) tRfl)
    (hsw : autoParam (swapsWith (.Call fe [] [] cpos) (some (.Name x xp)) apos.line (Cd.env ⟨qual, scope, f, cdv, fn, fun _ => []⟩ b.L) = pure false) tRfl) :
    SX b ⟨qual, scope, f, cdv, fn, fun _ => []⟩ m N (.Try (.Assign [.Name x xp] (.Call fe [] [] cpos) apos :: body) (.ExceptHandler (some t) none (b₀ :: suite) hpos :: hs') [] [] tpos :: rest) C := by
  refine SX.cons (C' := C) fun s Q F N' hQ => wpAny_Try_except (wpAny_execs_cons (wpAny_Assign_Name (Call_ (wpAny_mono (hf s (fun v s' => v = .ref W ∧ ∃ tk, s' = { s with toks := tk }) F N' fun v tk p => ⟨p, tk, rfl⟩) (fun v s' p => ?_) fun _ _ x => x.elim) h1) hsw))
  obtain ⟨rfl, tk, rfl⟩ := p
  have NN := News.sub N' hs
  have eW := NN _ (List.mem_cons_of_mem _ hW)
  have eI := NN _ (List.mem_cons_self ..)
  have eL := NN _ (List.mem_cons_of_mem _ hl)
  refine callWith_of (P := fun h => h.get? W = some (LI.wrap it)) rfl (fun h e => wrap_keeps h e) (evalArgs_nil3 ⟨eW.1, ?_⟩)
  refine LI.call_end (items := items.toArray) rfl eW.1 ⟨o, eI.1, hi.1, hi.2⟩ ⟨_, eL.1, rfl, nl, rfl⟩ (by simpa using hy) fun h₁ h₂ e hsb _ hx => ?_
  have F₁ : FrB b h₁ m := F.of (F.fr.change hsb eI.2.1 eI.2.2)
  refine fresh_lies (k := ⟨qual, scope, f, cdv, fn, fun _ => []⟩) (s := { s with heap := h₂, toks := tk }) (N := r) Tu (F.of (F.fr.change hsb eI.2.1 eI.2.2)) (fun p hp => ?_) hx fun h₃ H => ?_
  · have z := NN p (List.mem_cons_of_mem _ hp)
    exact ⟨hsb.extBut _ _ (hr p hp) z.1, z.2⟩
  · exact lies_hit Tu H T fun h₄ F₄ N₄ => h e _ Q F₄ N₄ fun v m' N'' h' tk' c F' N3 => hQ v m' N'' h' tk' c F' N3
end
end Mine
end
section
open PySem PySem.W PyProof.Rows PySem.Calls
set_option maxRecDepth 100000
set_option maxHeartbeats 8000000
set_option linter.unusedVariables false
namespace Mine
section
variable {w : World} {dn : Nat} {b : Bs w dn} {k : Cd} {m : Map} {N : Led} {C : Flow → Map → Led → Prop} {rest : List Stmt}
/-- the two rows that take the last off: del d[s.pop()]; i.pop() -/
theorem WxM.pops {e : Addr} {xd xs xi : Str} {q1 q2 q3 q4 q5 q6 q7 q8 q9 : Pos} {aS aI aD : Addr} {l ws : List Value} {p : Int} {t : Tok} {y : Value} {n1 n2 : Nat} {oD : Obj} {kvs : List (Int × Value)} {r : Led}
    (hd : m xd = some (.ref aD)) (hsk : m xs = some (.ref aS)) (hi : m xi = some (.ref aI)) (hs : ∀ x ∈ (aS, listOf (l ++ [Value.int p t]).toArray n1) :: (aI, listOf (ws ++ [y]).toArray n2) :: (aD, oD) :: r, x ∈ N)
    (d1 : aS ≠ aI) (d2 : aS ≠ aD) (d3 : aI ≠ aD) (ho : ∀ x ∈ r, x.1 ≠ aS ∧ x.1 ≠ aI ∧ x.1 ≠ aD) (hD : oD.IsDictOf (intKind prog w) kvs) (hk : (valueAt kvs p).isSome = true) (z1 : l.length ≤ 500) (z2 : ws.length ≤ 500) (z3 : kvs.length ≤ 500)
    (h : ∀ oD', oD'.IsDictOf (intKind prog w) (without kvs p) → C .next m ((aS, listOf l.toArray (n1 + 1)) :: (aI, listOf ws.toArray (n2 + 1)) :: (aD, oD') :: r))
    (k1 : autoParam ((k.env b.L).kindOf xd = some .local) tRfl) (k2 : autoParam ((k.env b.L).kindOf xs = some .local) tRfl) (k3 : autoParam ((k.env b.L).kindOf xi = some .local) tRfl) (b1 : autoParam ((xd == ("__debug__" : Str)) = false) tDec) (b2 : autoParam ((xs == ("__debug__" : Str)) = false) tDec) (b3 : autoParam ((xi == ("__debug__" : Str)) = false) tDec)
    (h1 : ∃ pl, eval (.Call (.Attribute (.Name xs q1) (Str.ofString "pop") q2) [] [] q3) (k.env b.L) = (do
      let ov ← eval (.Name xs q1) (k.env b.L)
      standAt q2.atName
      let (f, first) ← holding [ov] (getMethod ov (Str.ofString "pop") pl)
      callWith q3 f first (backTo q3 (starEach [] (k.env b.L))) []) := by exact ⟨_, rfl⟩)
    (h2 : ∃ pl, eval (.Call (.Attribute (.Name xi q4) (Str.ofString "pop") q5) [] [] q6) (k.env b.L) = (do
      let ov ← eval (.Name xi q4) (k.env b.L)
      standAt q5.atName
      let (f, first) ← holding [ov] (getMethod ov (Str.ofString "pop") pl)
      callWith q6 f first (backTo q6 (starEach [] (k.env b.L))) []) := by exact ⟨_, rfl⟩)
    (hi1 : autoParam (interactive (k.env b.L) = false) tRfl) (hsw : autoParam (swapsWith (.Call (.Attribute (.Name xi q4) (Str.ofString "pop") q5) [] [] q6) .none q7.line (k.env b.L) = pure false) tRfl) :
    WxM b k e m N [.Delete [.Subscript (.Name xd q8) (.Call (.Attribute (.Name xs q1) (Str.ofString "pop") q2) [] [] q3) q9] q9, .Expr (.Call (.Attribute (.Name xi q4) (Str.ofString "pop") q5) [] [] q6) q7] C := fun s Q F N' hQ => by
  obtain ⟨pl1, h1⟩ := h1
  obtain ⟨pl2, h2⟩ := h2
  have NN := News.sub N' hs
  refine wpAny_execs_cons (wpAny_Delete (wpAny_deleteEach_cons (wpAny_delete_Subscript ?_)))
  refine nameX_L F.fr hd ?_ k.fn k1 b1
  refine MethodCall_ (pl := pl1) (nameX_L F.fr hsk ?_ k.fn k2 b2) h1
  refine kl_method NN (List.mem_cons_self ..) PySem.F.slot_list_pop PySem.F.type_list_pop ?_
  refine callWith_builtin rfl (evalArgs_nil3 ?_)
  refine popS F.fr NN (l := l ++ [Value.int p t]) ⟨rfl, by simp; omega⟩ (.head fun x hx => ?_) fun h₁ F₁ N₁ => ?_
  · rcases List.mem_cons.mp hx with rfl | hx
    rotate_left 1
    rcases List.mem_cons.mp hx with rfl | hx
    rotate_right 1
    · exact fun q => d1 q.symm
    · exact fun q => d2 q.symm
    · exact (ho x hx).1
  have N₁' : News F.g b.L h₁ ((aD, oD) :: (aS, listOf l.toArray (n1 + 1)) :: (aI, listOf (ws ++ [y]).toArray n2) :: r) := News.sub N₁ fun x hx => by
    repeat (first | (rcases List.mem_cons.mp hx with h | hx; focus (repeat (first | exact h | exact memH h | exact List.mem_append_left _ h | refine List.mem_cons_of_mem _ ?_ | refine List.mem_append_right _ ?_))) | (rcases List.mem_append.mp hx with h | hx; focus (repeat (first | exact h | exact memH h | exact List.mem_append_left _ h | refine List.mem_cons_of_mem _ ?_ | refine List.mem_append_right _ ?_))) | (focus (repeat (first | exact hx | exact memH hx | exact List.mem_append_left _ hx | refine List.mem_cons_of_mem _ ?_ | refine List.mem_append_right _ ?_))) | exact absurd hx List.not_mem_nil)
  refine kob_del (s := { s with heap := h₁ }) (knd := PySem.intKind _ _) (k := p) F₁ N₁' (.head fun x hx => ?_) hD (intKind_is _ _ _ _) hk (by rw [sizeLine_eq]; omega) fun h₂ oD' F₂ N₂ hD' => ?_
  · rcases List.mem_cons.mp hx with rfl | hx
    rotate_left 1
    rcases List.mem_cons.mp hx with rfl | hx
    rotate_right 1
    · exact d2
    · exact d3
    · exact (ho x hx).2.2
  refine wpAny_deleteEach_nil (wpAny_execs_cons (wpAny_Expr_any ?_ hi1 hsw))
  have N₂' : News F.g b.L h₂ ((aI, listOf (ws ++ [y]).toArray n2) :: (aS, listOf l.toArray (n1 + 1)) :: (aD, oD') :: r) := News.sub N₂ fun x hx => by
    repeat (first | (rcases List.mem_cons.mp hx with h | hx; focus (repeat (first | exact h | exact memH h | exact List.mem_append_left _ h | refine List.mem_cons_of_mem _ ?_ | refine List.mem_append_right _ ?_))) | (rcases List.mem_append.mp hx with h | hx; focus (repeat (first | exact h | exact memH h | exact List.mem_append_left _ h | refine List.mem_cons_of_mem _ ?_ | refine List.mem_append_right _ ?_))) | (focus (repeat (first | exact hx | exact memH hx | exact List.mem_append_left _ hx | refine List.mem_cons_of_mem _ ?_ | refine List.mem_append_right _ ?_))) | exact absurd hx List.not_mem_nil)
  refine MethodCall_ (pl := pl2) (nameX_L (s := { s with heap := h₂, toks := _ }) F₂ hi ?_ k.fn k3 b3) h2
  refine kl_method (s := { s with heap := h₂, toks := _ }) N₂' (List.mem_cons_self ..) PySem.F.slot_list_pop PySem.F.type_list_pop ?_
  refine callWith_builtin rfl (evalArgs_nil3 ?_)
  refine popS (s := { s with heap := h₂, toks := _ }) F₂ N₂' (l := ws ++ [y]) ⟨rfl, by simp; omega⟩ (.head fun x hx => ?_) fun h₃ F₃ N₃ => ?_
  · rcases List.mem_cons.mp hx with rfl | hx
    rotate_left 1
    rcases List.mem_cons.mp hx with rfl | hx
    rotate_right 1
    · exact d1
    · exact fun q => d3 q.symm
    · exact (ho x hx).2.1
  refine wpAny_execs_nil (hQ .next m _ h₃ _ (h oD' hD') (F.of F₃) (News.sub N₃ fun x hx => ?_))
  repeat (first | (rcases List.mem_cons.mp hx with h | hx; focus (repeat (first | exact h | exact memH h | exact List.mem_append_left _ h | refine List.mem_cons_of_mem _ ?_ | refine List.mem_append_right _ ?_))) | (rcases List.mem_append.mp hx with h | hx; focus (repeat (first | exact h | exact memH h | exact List.mem_append_left _ h | refine List.mem_cons_of_mem _ ?_ | refine List.mem_append_right _ ?_))) | (focus (repeat (first | exact hx | exact memH hx | exact List.mem_append_left _ hx | refine List.mem_cons_of_mem _ ?_ | refine List.mem_append_right _ ?_))) | exact absurd hx List.not_mem_nil)
end
end Mine
end
section
open PySem PySem.W PyProof.Rows PySem.Calls PyProof.Rows.LCg
set_option maxRecDepth 100000
set_option maxHeartbeats 8000000
set_option linter.unusedVariables false
namespace Mine
def testsOf (ifs : List Expr) (en : Env) : Sem Bool := forIn ifs true fun c r => if r = true then do let ok ← isTrue c en (eval c en); pure (ForInStep.yield ok) else pure (ForInStep.yield r)
/-- one turn of a block's loop -/
def TurnIs (w : World) (A : Around) (c : Code) (I : Addr) (en : Env) (x : Str) (px : Pos) (ts : Sem Bool) (em : Sem Unit) (tree : Sem Fin) : Prop :=
  ∀ (s : Shared) (Q : Fin → Shared → Prop) (E : Value → Shared → Prop),
    wpAny (model prog w) A (pyNext (.ref I)) (fun r s₁ => match r with
      | none => Q (.done .next) s₁
      | some v => wpAny (model prog w) A (assign (.Name x px) en v) (fun _ s₂ =>
          wpAny (model prog w) A ts (fun ok s₃ =>
            if ok = true then wpAny (model prog w) A em (fun _ s₄ => Q (.again c) s₄) E s₃ else Q (.again c) s₃) E s₂) E s₁) E s →
    wpAny (model prog w) A tree Q E s
def emit (elt : Expr) (acc : Value) (en : Env) : Sem Unit := do let _ ← call (.builtin "list.append") [acc, ← eval elt en]
def emit2 (e : Expr) (iter : Expr) (acc : Value) (en : Env) : Sem Unit := do
  let x ← eval iter en
  standAt iter.pos
  let x ← foldedSetIterable iter en x
  let _ ← runOwn (.compStart e 1 (← holding [x] (pyIter x)) acc en) en
theorem turn_one {w : World} {A : Around} {elt iter : Expr} {x : Str} {px : Pos} {ifs : List Expr} {scope : Scope} {pos : Pos} {I : Addr} {acc : Value} {en : Env} :
    TurnIs w A (.compLoop (.ListComp elt [⟨.Name x px, iter, ifs, 0⟩] scope pos) 0 (.ref I) acc en) I en x px (testsOf ifs en) (emit elt acc en) (compTurn (.ListComp elt [⟨.Name x px, iter, ifs, 0⟩] scope pos) 0 (.ref I) acc en) := by
  intro s Q E h
  rw [compTurn_list]
  refine wpAny_bind (wpAny_standAt (wpAny_bind (wpAny_mono h (fun r s₁ h₁ => ?_) fun _ _ h' => h')))
  cases r with
  | none => exact wpAny_pure h₁
  | some v =>
    refine wpAny_bind (wpAny_of_eq (by rfl) ?_)
    refine wpAny_bind (wpAny_mono h₁ (fun _ s₂ h₂ => wpAny_bind (wpAny_mono h₂ (fun ok s₃ h₃ => ?_) fun _ _ h' => h')) fun _ _ h' => h')
    cases ok with
    | false => exact wpAny_pure h₃
    | true => exact wpAny_bind (wpAny_mono h₃ (fun x s₄ h₄ => wpAny_pure h₄) fun _ _ h' => h')
theorem turn_two0 {w : World} {A : Around} {elt iter iter' : Expr} {x x' : Str} {px px' : Pos} {ifs ifs' : List Expr} {scope : Scope} {pos : Pos} {I : Addr} {acc : Value} {en : Env} :
    TurnIs w A (.compLoop (.ListComp elt [⟨.Name x px, iter, ifs, 0⟩, ⟨.Name x' px', iter', ifs', 0⟩] scope pos) 0 (.ref I) acc en) I en x px (testsOf ifs en) (emit2 (.ListComp elt [⟨.Name x px, iter, ifs, 0⟩, ⟨.Name x' px', iter', ifs', 0⟩] scope pos) iter' acc en)
      (compTurn (.ListComp elt [⟨.Name x px, iter, ifs, 0⟩, ⟨.Name x' px', iter', ifs', 0⟩] scope pos) 0 (.ref I) acc en) := by
  intro s Q E h
  show wpAny _ A (standAt iter.pos >>= fun _ => pyNext (.ref I) >>= fun r => match r with
      | none => pure (.done .next)
      | some v => letOwnedTupleGo (.Name x px) (.ref I) v >>= fun _ => assign (.Name x px) en v >>= fun _ => testsOf ifs en >>= fun ok =>
        if ok = true then eval iter' en >>= fun y => standAt iter'.pos >>= fun _ => foldedSetIterable iter' en y >>= fun z => holding [z] (pyIter z) >>= fun it => runOwn (.compStart (.ListComp elt [⟨.Name x px, iter, ifs, 0⟩, ⟨.Name x' px', iter', ifs', 0⟩] scope pos) 1 it acc en) en >>= fun _ => again (.compLoop (.ListComp elt [⟨.Name x px, iter, ifs, 0⟩, ⟨.Name x' px', iter', ifs', 0⟩] scope pos) 0 (.ref I) acc en)
        else again (.compLoop (.ListComp elt [⟨.Name x px, iter, ifs, 0⟩, ⟨.Name x' px', iter', ifs', 0⟩] scope pos) 0 (.ref I) acc en)) _ _ s
  refine wpAny_bind (wpAny_standAt (wpAny_bind (wpAny_mono h (fun r s₁ h₁ => ?_) fun _ _ h' => h')))
  cases r with
  | none => exact wpAny_pure h₁
  | some v =>
    refine wpAny_bind (wpAny_of_eq (by rfl) ?_)
    refine wpAny_bind (wpAny_mono h₁ (fun _ s₂ h₂ => wpAny_bind (wpAny_mono h₂ (fun ok s₃ h₃ => ?_) fun _ _ h' => h')) fun _ _ h' => h')
    cases ok with
    | false => exact wpAny_pure h₃
    | true =>
      have e : ∀ c : Code, (eval iter' en >>= fun y => standAt iter'.pos >>= fun _ => foldedSetIterable iter' en y >>= fun z => holding [z] (pyIter z) >>= fun it => runOwn (.compStart (.ListComp elt [⟨.Name x px, iter, ifs, 0⟩, ⟨.Name x' px', iter', ifs', 0⟩] scope pos) 1 it acc en) en >>= fun _ => again c) =
          (emit2 (.ListComp elt [⟨.Name x px, iter, ifs, 0⟩, ⟨.Name x' px', iter', ifs', 0⟩] scope pos) iter' acc en >>= fun _ => again c) := fun c => by
        unfold emit2
        simp only [LawfulMonad.bind_assoc, LawfulMonad.pure_bind]
      show wpAny _ A (eval iter' en >>= fun y => standAt iter'.pos >>= fun _ => foldedSetIterable iter' en y >>= fun z => holding [z] (pyIter z) >>= fun it => runOwn (.compStart (.ListComp elt [⟨.Name x px, iter, ifs, 0⟩, ⟨.Name x' px', iter', ifs', 0⟩] scope pos) 1 it acc en) en >>= fun _ => again (.compLoop (.ListComp elt [⟨.Name x px, iter, ifs, 0⟩, ⟨.Name x' px', iter', ifs', 0⟩] scope pos) 0 (.ref I) acc en)) _ _ _
      rw [e]
      exact wpAny_bind (wpAny_mono h₃ (fun x s₄ h₄ => wpAny_pure h₄) fun _ _ h' => h')
theorem turn_two1 {w : World} {A : Around} {elt iter iter' : Expr} {x x' : Str} {px px' : Pos} {ifs ifs' : List Expr} {scope : Scope} {pos : Pos} {I : Addr} {acc : Value} {en : Env} :
    TurnIs w A (.compLoop (.ListComp elt [⟨.Name x px, iter, ifs, 0⟩, ⟨.Name x' px', iter', ifs', 0⟩] scope pos) 1 (.ref I) acc en) I en x' px' (testsOf ifs' en) (emit elt acc en)
      (compTurn (.ListComp elt [⟨.Name x px, iter, ifs, 0⟩, ⟨.Name x' px', iter', ifs', 0⟩] scope pos) 1 (.ref I) acc en) := by
  intro s Q E h
  show wpAny _ A (standAt iter'.pos >>= fun _ => pyNext (.ref I) >>= fun r => match r with
      | none => pure (.done .next)
      | some v => letOwnedTupleGo (.Name x' px') (.ref I) v >>= fun _ => assign (.Name x' px') en v >>= fun _ => testsOf ifs' en >>= fun ok =>
        if ok = true then emit elt acc en >>= fun _ => again (.compLoop (.ListComp elt [⟨.Name x px, iter, ifs, 0⟩, ⟨.Name x' px', iter', ifs', 0⟩] scope pos) 1 (.ref I) acc en)
        else again (.compLoop (.ListComp elt [⟨.Name x px, iter, ifs, 0⟩, ⟨.Name x' px', iter', ifs', 0⟩] scope pos) 1 (.ref I) acc en)) _ _ s
  refine wpAny_bind (wpAny_standAt (wpAny_bind (wpAny_mono h (fun r s₁ h₁ => ?_) fun _ _ h' => h')))
  cases r with
  | none => exact wpAny_pure h₁
  | some v =>
    refine wpAny_bind (wpAny_of_eq (by rfl) ?_)
    refine wpAny_bind (wpAny_mono h₁ (fun _ s₂ h₂ => wpAny_bind (wpAny_mono h₂ (fun ok s₃ h₃ => ?_) fun _ _ h' => h')) fun _ _ h' => h')
    cases ok with
    | false => exact wpAny_pure h₃
    | true => exact wpAny_bind (wpAny_mono h₃ (fun x s₄ h₄ => wpAny_pure h₄) fun _ _ h' => h')
def Off2 (I C : Addr) (N : Led) : Prop := ∀ p ∈ N, p.1 ≠ I ∧ p.1 ≠ C
section
variable {w : World} {dn : Nat} (b : Bs w dn) (k : Cd)
/-- code of a block, run over a ledger -/
def CL (m : Map) (N : Led) (c : Code) (C : Led → Prop) : Prop :=
  ∀ (s : Shared) (R : Result → Shared → Prop) (F : FrB b s.heap m), News F.g b.L s.heap N → (∀ N' h' tk, C N' → ∀ F' : FrB b h' m, News F'.g b.L h' N' → R (.ok .next) { s with heap := h', toks := tk }) → codeAny (model prog w) (b.A k) c R s
/-- where a block's loop stands -/
def LoopSt (m : Map) (I C₀ : Addr) (n : Nat) (St : Nat → Heap → Prop) (J : Nat → Map → Led → Prop) (s : Shared) (kk : Nat) (s' : Shared) : Prop :=
  ∃ h' tk i m₂ N₁ oI oC, ∃ F : FrB b h' m, s' = { s with heap := h', toks := tk } ∧ i ≤ n ∧ kk = n + 1 - i ∧ St i h' ∧ News F.g b.L h' ((I, oI) :: (C₀, oC) :: N₁) ∧ Off2 I C₀ N₁ ∧ NsObj oC m₂ ∧ J i m₂ N₁
/-- the state of a block behind a turn -/
def Nxt (I C₀ : Addr) (oI : Obj) (m : Map) (J : Map → Led → Prop) (m' : Map) (N' : Led) : Prop :=
  m' = m ∧ ∃ oC m₂ N₂, NsObj oC m₂ ∧ (∀ p ∈ (I, oI) :: (C₀, oC) :: N₂, p ∈ N') ∧ Off2 I C₀ N₂ ∧ J m₂ N₂
end
section
variable {w : World} {dn : Nat} {b : Bs w dn} {k : Cd} {m : Map} {N : Led} {en : Env}
theorem CL.loop {elt : Expr} {gens : List Comprehension} {scope : Scope} {pos : Pos} {d : Nat} {acc : Value} {I C₀ : Addr} {fp : List Addr} {n : Nat} {P : Nat → Value → Prop} {St : Nat → Heap → Prop} {x : Str} {px : Pos} {ts : Sem Bool} {em : Sem Unit} {C : Led → Prop} {oI₀ oC₀ : Obj} {m₀ : Map} {N₀ : Led}
    (T : TurnIs w (b.A k) (.compLoop (.ListComp elt gens scope pos) d (.ref I) acc en) I en x px ts em (compTurn (.ListComp elt gens scope pos) d (.ref I) acc en))
    (J : Nat → Map → Led → Prop) (W : Walks prog w (b.A k) I fp [I] n P St) (hfp : ∀ a ∈ fp, a = I ∨ ∃ o, ∀ i m₂ N₁, J i m₂ N₁ → (a, o) ∈ N₁) (hlive : ∀ i h, St i h → ∃ o, h.get? I = some o)
    (hx : en.kindOf x = some .local) (hp : (en.scope.kind == .class || (en.scope.kind == .module && en.locals != en.globals)) = false) (hC : en.locals = C₀) (hIC : I ≠ C₀)
    (hN : ∀ p ∈ (I, oI₀) :: (C₀, oC₀) :: N₀, p ∈ N) (hoff : Off2 I C₀ N₀) (hns : NsObj oC₀ m₀) (hj : J 0 m₀ N₀) (hst : ∀ g h, News g b.L h N → St 0 h)
    (turn : ∀ i v m₂ N₁ oI oC, i < n → P i v → J i m₂ N₁ → Off2 I C₀ N₁ → NsObj oC (setv m₂ x v) → Wx b k m ((I, oI) :: (C₀, oC) :: N₁) ts (fun ok m' N' => if ok = true then Wx b k m' N' em (fun _ m'' N'' => Nxt I C₀ oI m (J (i + 1)) m'' N'') else Nxt I C₀ oI m (J (i + 1)) m' N'))
    (done : ∀ m₂ N₁ oC, J n m₂ N₁ → Off2 I C₀ N₁ → NsObj oC m₂ → C ((C₀, oC) :: N₁)) : CL b k m N (.compLoop (.ListComp elt gens scope pos) d (.ref I) acc en) C := by
  intro s R F N' hR
  subst hC
  refine codeAny_loop rfl (LoopSt b m I en.locals n St J s) (fun kk s' hI => ?_) (n + 1)
    ⟨s.heap, s.toks, 0, m₀, N₀, oI₀, oC₀, F, rfl, Nat.zero_le _, rfl, hst _ _ N', News.sub N' hN, hoff, hns, hj⟩
  obtain ⟨h', tk, i, m₂, N₁, oI, oC, F', rfl, hi, rfl, hst', NN, off', ns', hJ⟩ := hI
  show wpAny _ (b.A k) ((compTurn (.ListComp elt gens scope pos) d (.ref I) acc en).onRaise (fun x => do noteFrame x en; theTreesLotGoes x)) _ _ _
  refine wpAny_noted (T _ _ _ ?_)
  have eI := NN (I, oI) (List.mem_cons_self ..)
  have eC := NN (en.locals, oC) (List.mem_cons_of_mem _ (List.mem_cons_self ..))
  have hCf : en.locals ∉ fp := fun hm => by
    rcases hfp _ hm with e | ⟨o, ho⟩
    · exact hIC e.symm
    · exact (off' _ (ho i m₂ N₁ hJ)).2 rfl
  by_cases hlt : i < n
  · refine W.item i _ _ _ hlt hst' fun v h₂ tk₂ hPv hst₂ hk₂ => ?_
    have nsC : h₂.Ns en.locals m₂ := (ns'.ns eC.1).at' fun o e => hk₂ _ o (by simpa using Ne.symm hIC) e
    refine wpAny_assign_Name (wpAny_storeName_local hx nsC (fun h₃ hn₃ hs₃ => ?_) hp)
    have hst₃ : St (i + 1) h₃ := W.frame _ _ _ hst₂ fun a ha o e => hs₃.extBut a o (fun q => hCf (by have q' : a = en.locals := q; rw [← q']; exact ha)) e
    obtain ⟨oI', heI⟩ := hlive _ _ hst₃
    obtain ⟨oC', heC, hoC⟩ := ns_obj hn₃
    have F₃ : Fr F'.g b.L h₃ m := (fr_but F'.fr hk₂ (Ne.symm eI.2.1) eI.2.2).change hs₃ eC.2.1 eC.2.2
    have N₃ : News F'.g b.L h₃ ((I, oI') :: (en.locals, oC') :: N₁) := fun p hp => by
      rcases List.mem_cons.mp hp with rfl | hp
      · exact ⟨heI, eI.2⟩
      · rcases List.mem_cons.mp hp with rfl | hp
        · exact ⟨heC, eC.2⟩
        · have z := NN p (List.mem_cons_of_mem _ (List.mem_cons_of_mem _ hp))
          have o := off' p hp
          exact ⟨hs₃.extBut _ _ o.2 (hk₂ _ _ (by simpa using o.1) z.1), z.2⟩
    have fin : ∀ m' N'' h₄ tk₄ (F₄ : FrB b h₄ m'), News F₄.g b.L h₄ N'' → Nxt I en.locals oI' m (J (i + 1)) m' N'' → ∃ kk', kk' < n + 1 - i ∧ LoopSt b m I en.locals n St J s kk' { s with heap := h₄, toks := tk₄ } := by
      rintro m' N'' h₄ tk₄ F₄ N₄ ⟨rfl, oC₂, m₃, N₂, ns₂, sub₂, off₂, j₂⟩
      have N₄' := News.sub N₄ sub₂
      refine ⟨n + 1 - (i + 1), by omega, h₄, tk₄, i + 1, m₃, N₂, oI', oC₂, F₄, rfl, hlt, rfl, ?_, N₄', off₂, ns₂, j₂⟩
      refine W.frame _ _ _ hst₃ fun a ha o e => ?_
      rcases hfp a ha with rfl | ⟨o', ho'⟩
      · rw [heI] at e
        cases e
        exact (N₄' _ (List.mem_cons_self ..)).1
      · have e1 := (N₃ _ (List.mem_cons_of_mem _ (List.mem_cons_of_mem _ (ho' i m₂ N₁ hJ)))).1
        rw [e1] at e
        cases e
        exact (N₄' _ (List.mem_cons_of_mem _ (List.mem_cons_of_mem _ (ho' (i + 1) m₃ N₂ j₂)))).1
    refine wpAny_mono (turn i v m₂ N₁ oI' oC' hlt hPv hJ off' hoC { s with heap := h₃, toks := _ } (fun ok s₃ => if ok = true then wpAny (model prog w) (b.A k) em (fun _ s₄ => ∃ kk', kk' < n + 1 - i ∧ LoopSt b m I en.locals n St J s kk' s₄) (fun _ _ => False) s₃ else ∃ kk', kk' < n + 1 - i ∧ LoopSt b m I en.locals n St J s kk' s₃) (F'.of F₃) N₃ (fun ok m' N'' h₄ tk₄ c F₄ N₄ => ?_)) (fun ok s₃ h₃' => ?_) fun _ _ e => e.elim
    · by_cases hok : ok = true
      · simp only [if_pos hok] at c ⊢
        exact c _ _ F₄ N₄ fun _ m'' N3 h₅ tk₅ c' F₅ N₅ => fin m'' N3 h₅ tk₅ F₅ N₅ c'
      · simp only [if_neg hok] at c ⊢
        exact fin m' N'' h₄ tk₄ F₄ N₄ c
    · by_cases hok : ok = true
      · simp only [if_pos hok] at h₃' ⊢
        exact wpAny_mono h₃' (fun _ s₄ q => ⟨trivial, q⟩) fun _ _ e => e.elim
      · simp only [if_neg hok] at h₃' ⊢
        exact ⟨trivial, h₃'⟩
  · obtain rfl : i = n := Nat.le_antisymm hi (Nat.not_lt.mp hlt)
    refine W.done _ _ _ hst' fun h₂ tk₂ hk₂ => ?_
    refine hR ((en.locals, oC) :: N₁) h₂ tk₂ (done m₂ N₁ oC hJ off' ns') (F'.of (fr_but F'.fr hk₂ (Ne.symm eI.2.1) eI.2.2)) fun p hp => ?_
    have z := NN p (List.mem_cons_of_mem _ hp)
    refine ⟨hk₂ _ _ ?_ z.1, z.2⟩
    rcases List.mem_cons.mp hp with rfl | hp
    · simpa using Ne.symm hIC
    · simpa using (off' p hp).1
end
end Mine
end
section
open PySem PySem.W PyProof.Rows PySem.Calls PyProof.Rows.LCg
set_option maxRecDepth 100000
set_option maxHeartbeats 8000000
set_option linter.unusedVariables false
namespace Mine
section
variable {w : World} {dn : Nat} (b : Bs w dn) (k : Cd)
/-- the state behind a turn, X the block's own objects -/
def Cm (X : Led) (m : Map) (J : Led → Prop) (m' : Map) (N' : Led) : Prop := m' = m ∧ ∃ N₂, (∀ p ∈ X ++ N₂, p ∈ N') ∧ Apart N₂ X ∧ J N₂
end
section
variable {w : World} {dn : Nat} {b : Bs w dn} {k : Cd} {m : Map} {N : Led} {en : Env}
theorem blk {elt : Expr} {gens : List Comprehension} {scope : Scope} {pos : Pos} {cl : List (Str × Addr)} {I : Addr} {oI : Obj} {s : Shared} {E : Value → Shared → Prop} {RR : Value → Addr → Result → Shared → Prop} {Fin : List Value → Led → Prop}
    (hstart : ∀ {it acc : Value} {env : Env} {s : Shared} {R : Result → Shared → Prop}, codeAny (model prog w) (b.A k) (.compLoop (.ListComp elt gens scope pos) 0 it acc env) R s → wpAny (model prog w) (b.A k) (pyIter it) (fun it' s' => codeAny (model prog w) (b.A k) (.compLoop (.ListComp elt gens scope pos) 0 it' acc env) R s') (notedBy (model prog w) (b.A k) env fun x s' => R (.error x) s') s → codeAny (model prog w) (b.A k) (.compStart (.ListComp elt gens scope pos) 0 it acc env) R s)
    (hcell : ∀ y ∈ scope.names, y.2 ≠ .cell) (hkind : scope.kind = .function) (F : FrB b s.heap m) (NN : News F.g b.L s.heap ((I, oI) :: N))
    (hself : ∀ (s : Shared) (Q : Value → Shared → Prop) (E : Value → Shared → Prop) (g : Heap), News g b.L s.heap ((I, oI) :: N) → Q (.ref I) s → wpAny (model prog w) (b.A k) (pyIter (.ref I)) Q E s)
    (hL : ∀ C₀ D oC, (∀ p ∈ (I, oI) :: N, p.1 < D) → D < C₀ → NsObj oC (fun _ => none) → CL b k m ((C₀, oC) :: (D, lst []) :: (I, oI) :: N) (.compLoop (.ListComp elt gens scope pos) 0 (.ref I) (.ref D) (compEnvC scope cl C₀ en))
      (fun N' => ∃ ys oC m₂ N₁, NsObj oC m₂ ∧ (∀ p ∈ (C₀, oC) :: (D, lst ys) :: N₁, p ∈ N') ∧ (∀ p ∈ N₁, p.1 ≠ D ∧ p.1 ≠ C₀) ∧ Fin ys N₁))
    (hRR : ∀ D C₀ ys oC m₂ N₁ h tk, D ≠ C₀ → ∀ F : FrB b h m, News F.g b.L h ((C₀, oC) :: (D, lst ys) :: N₁) → NsObj oC m₂ → (∀ p ∈ N₁, p.1 ≠ D ∧ p.1 ≠ C₀) → Fin ys N₁ → RR (.ref D) C₀ (.ok .next) { s with heap := h, toks := tk }) :
    wpAny (model prog w) (b.A k) (newList []) (fun acc s₃ => wpAny (model prog w) (b.A k) (newFunctionEnv scope en.globals cl [] en.qual none .none (some en)) (fun cenv s₄ =>
      codeAny (model prog w) (b.A k) (.compStart (.ListComp elt gens scope pos) 0 (.ref I) acc { cenv with scope := relabel scope en }) (RR acc cenv.locals) s₄) E s₃) E s := by
  refine wpAny_newObj_type (wpAny_newFunctionEnv hcell (by intro y hy; simp at hy) (fun h₁ hns₁ hsb₁ => ?_) hkind)
  dsimp only at hns₁ hsb₁ ⊢
  generalize hH2 : s.heap.push { cls := .type "list", dict := none, data := .seq ([] : List Value).toArray } = H2 at hns₁ hsb₁ ⊢
  have hC : H2.objs.size = s.heap.objs.size + 1 := by rw [← hH2, Heap.size_push]
  have hDC : s.heap.objs.size ≠ H2.objs.size := by rw [hC]; exact Nat.ne_of_lt (Nat.lt_succ_self _)
  have below : ∀ a, a < s.heap.objs.size → a ≠ H2.objs.size ∧ a ≠ s.heap.objs.size := fun a ha => ⟨by rw [hC]; exact Nat.ne_of_lt (Nat.lt_succ_of_lt ha), Nat.ne_of_lt ha⟩
  have old : ∀ a o, s.heap.get? a = some o → h₁.get? a = some o := fun a o e => hsb₁.extBut a o (below a (Heap.lt_size e)).1 (Heap.get?_push_of_some _ (hH2 ▸ Heap.get?_push_of_some _ e))
  have hacc : h₁.get? s.heap.objs.size = some (lst []) := hsb₁.extBut _ _ hDC (Heap.get?_push_of_some _ (hH2 ▸ Heap.get?_push_size _ rfl))
  have fresh₀ : ∀ a, s.heap.objs.size ≤ a → F.g.get? a = none := fun a ha => by
    cases e : F.g.get? a with
    | none => rfl
    | some o' => exact absurd (Heap.lt_size (F.keep a o' e)) (Nat.not_lt.mpr ha)
  have hD₀ := fresh₀ _ (Nat.le_refl _)
  have hC₀ := fresh₀ H2.objs.size (by rw [hC]; exact Nat.le_succ _)
  have hLlt : b.L < s.heap.objs.size := F.ns.lt
  obtain ⟨oC, heC, hoC⟩ := ns_obj hns₁
  have N₁ : News F.g b.L h₁ ((H2.objs.size, oC) :: (s.heap.objs.size, lst []) :: (I, oI) :: N) := fun p hp => by
    rcases List.mem_cons.mp hp with rfl | hp
    · exact ⟨heC, Ne.symm (below _ hLlt).1, hC₀⟩
    · rcases List.mem_cons.mp hp with rfl | hp
      · exact ⟨hacc, Ne.symm (below _ hLlt).2, hD₀⟩
      · exact ⟨old _ _ (NN p hp).1, (NN p hp).2⟩
  have loop := hL H2.objs.size s.heap.objs.size oC (fun p hp => Heap.lt_size (NN p hp).1) (by rw [hC]; exact Nat.lt_succ_self _) hoC { s with heap := h₁, toks := s.toks + ([] : List (Str × Value)).length } (RR (.ref s.heap.objs.size) H2.objs.size) (F.of (F.fr.keeps old)) N₁ (fun N' h' tk ⟨ys, oC', m₂, N₂, a1, a2, a3, a4⟩ F' N'' => hRR _ _ ys oC' m₂ N₂ h' tk hDC F' (News.sub N'' a2) a1 a3 a4)
  exact hstart loop (hself _ _ _ _ (News.sub N₁ fun p hp => List.mem_cons_of_mem _ (List.mem_cons_of_mem _ hp)) loop)
end
end Mine
end
section
open PySem PySem.W PyProof.Rows PySem.Calls PyProof.Rows.LCg
set_option maxRecDepth 100000
set_option maxHeartbeats 8000000
set_option linter.unusedVariables false
namespace Mine
section
variable {w : World} {dn : Nat} {b : Bs w dn} {k : Cd} {m : Map} {N : Led} {en : Env}
theorem Wx.emit {elt : Expr} {D : Addr} {ys : List Value} {C : Map → Led → Prop} (hz : ys.length ≤ 10000) (h : WXE b k en m N elt (fun y m' N' => ∃ N₂, (∀ p ∈ (D, lst ys) :: N₂, p ∈ N') ∧ (∀ p ∈ N₂, p.1 ≠ D) ∧ C m' ((D, lst (ys ++ [y])) :: N₂))) : Wx b k m N (emit elt (.ref D) en) (fun _ m' N' => C m' N') := fun s Q F N' hQ =>
  wpAny_bind (h s _ F N' fun y m' N'' h' tk ⟨N₂, hs, ho, hc⟩ F' NN => wpAny_bind (append_at (its := ys.toArray) (n := ys.length) (hsz := by rw [List.size_toArray, sizeLine_eq]; omega) (NN _ (hs _ (List.mem_cons_self ..))).1 fun h₅ hs₅ hD₅ => by
    have z := (NN _ (hs _ (List.mem_cons_self ..))).2
    refine wpAny_pure (hQ () m' _ h₅ tk hc (F'.of (F'.fr.change hs₅ z.1 z.2)) fun p hp => ?_)
    rcases List.mem_cons.mp hp with rfl | hp
    · exact ⟨hD₅.trans (congrArg some (lst_snoc ys y)), z⟩
    · have z2 := NN p (hs p (List.mem_cons_of_mem _ hp))
      exact ⟨hs₅.extBut _ _ (ho p hp) z2.1, z2.2⟩))
/-- the loop of a block of one clause -/
theorem CL.one {elt iter : Expr} {ifs : List Expr} {scope : Scope} {cl : List (Str × Addr)} {pos px : Pos} {x : Str} {n : Nat} {P : Nat → Value → Prop} {objs : Led} {I C₀ D : Addr} {oI oC : Obj} {m₀ : Map} {fp : List Addr} {St : Nat → Heap → Prop} (J : Nat → List Value → Led → Prop)
    (W : Walks prog w (b.A k) I fp [I] n P St) (hfp : ∀ a ∈ fp, a = I ∨ ∃ o, (a, o) ∈ objs) (hlive : ∀ i h, St i h → ∃ o, h.get? I = some o) (hst : ∀ h, (h.get? I = some oI) → (∀ p ∈ objs, h.get? p.1 = some p.2) → St 0 h)
    (hkind : scope.kind = .function) (hx : scope.names.lookup x = some .local) (hn : n ≤ 1000)
    (hI : ∀ p ∈ N, p.1 ≠ I) (hD : ∀ p ∈ (I, oI) :: N, p.1 < D) (hDC : D < C₀) (hns : NsObj oC m₀) (hj : J 0 [] N) (hJ : ∀ i ys N₁, J i ys N₁ → ∀ p ∈ objs, p ∈ N₁)
    (turn : ∀ i v ys N₁ X C₀ oC m₂, i < n → P i v → J i ys N₁ → (C₀, oC) ∈ X → NsObj oC m₂ → m₂ x = some v → Apart N₁ X → Wx b k m (X ++ N₁) (testsOf ifs (compEnvC scope cl C₀ en)) (fun ok m' N' => if ok = true then WXE b k (compEnvC scope cl C₀ en) m' N' elt (fun y m'' N'' => Cm X m (J (i + 1) (ys ++ [y])) m'' N'') else Cm X m (J (i + 1) ys) m' N')) :
    CL b k m ((C₀, oC) :: (D, lst []) :: (I, oI) :: N) (.compLoop (.ListComp elt [⟨.Name x px, iter, ifs, 0⟩] scope pos) 0 (.ref I) (.ref D) (compEnvC scope cl C₀ en))
      (fun N' => ∃ ys oC m₂ N₁, NsObj oC m₂ ∧ (∀ p ∈ (C₀, oC) :: (D, lst ys) :: N₁, p ∈ N') ∧ (∀ p ∈ N₁, p.1 ≠ D ∧ p.1 ≠ C₀) ∧ J n ys N₁) := by
  have hID : I < D := hD _ (List.mem_cons_self ..)
  have lt : ∀ a c : Addr, a < c → a ≠ c := fun a c h => Nat.ne_of_lt h
  refine CL.loop (oI₀ := oI) (oC₀ := oC) (m₀ := m₀) (N₀ := (D, lst []) :: N) turn_one (fun i _ N₁ => ∃ ys N₂, N₁ = (D, lst ys) :: N₂ ∧ (∀ p ∈ N₂, p.1 ≠ D) ∧ ys.length ≤ i ∧ J i ys N₂) W (fun a ha => ?_) hlive (lookup_relabel_local hx) (by simp [compEnvC, relabel, hkind]) rfl (lt _ _ (Nat.lt_trans hID hDC)) (fun p hp => ?_) (fun p hp => ?_) hns ⟨[], N, rfl, fun p hp => lt _ _ (hD p (List.mem_cons_of_mem _ hp)), Nat.le_refl _, hj⟩ (fun g h NN => hst h (NN (I, oI) (by first | ((repeat (first | exact List.Mem.head _ | refine List.mem_cons_of_mem _ ?_ | refine List.mem_append_right _ ?_)); done) | simp)).1 fun p hp => (NN p (by have := hJ 0 [] N hj p hp; (first | ((repeat (first | exact this | exact memH this | exact List.mem_append_left _ this | refine List.mem_cons_of_mem _ ?_ | refine List.mem_append_right _ ?_)); done) | simp [this]))).1) ?_ ?_
  · rcases hfp a ha with h | ⟨o, ho⟩
    · exact .inl h
    · exact .inr ⟨o, fun i m₂ N₁ ⟨ys, N₂, e, _, _, hj'⟩ => by rw [e]; exact List.mem_cons_of_mem _ (hJ i ys N₂ hj' _ ho)⟩
  · simp only [List.mem_cons] at hp ⊢
    rcases hp with h | h | h | h
    · exact .inr (.inr (.inl h))
    · exact .inl h
    · exact .inr (.inl h)
    · exact .inr (.inr (.inr h))
  · rcases List.mem_cons.mp hp with rfl | hp
    · exact ⟨(lt _ _ hID).symm, lt _ _ hDC⟩
    · exact ⟨hI p hp, lt _ _ (Nat.lt_trans (hD p (List.mem_cons_of_mem _ hp)) hDC)⟩
  · rintro i v m₂ N₁ oI' oC' hin hP ⟨ys, N₂, rfl, hoD, hlen, hJ2⟩ off ns
    have ap : Apart N₂ [(I, oI'), (C₀, oC'), (D, lst ys)] := fun p hp r hr => by
      have o1 := off p (List.mem_cons_of_mem _ hp)
      rcases List.mem_cons.mp hr with rfl | hr
      rotate_left 1
      rcases List.mem_cons.mp hr with rfl | hr
      rotate_right 1
      rotate_left 2
      rcases List.mem_singleton.mp hr with rfl
      rotate_right 2
      · exact o1.1
      · exact o1.2
      · exact hoD p hp
    have h := turn i v ys N₂ [(I, oI'), (C₀, oC'), (D, lst ys)] C₀ oC' _ hin hP hJ2 (by first | ((repeat (first | exact List.Mem.head _ | refine List.mem_cons_of_mem _ ?_ | refine List.mem_append_right _ ?_)); done) | simp) ns (by simp [setv]) ap
    refine Wx.mono h fun ok m' N' c => ?_
    by_cases hok : ok = true
    · simp only [if_pos hok] at c ⊢
      refine Wx.emit (ys := ys) (by omega) (Wx.mono c ?_)
      rintro y m'' N'' ⟨rfl, N₃, hs, ap3, j3⟩
      refine ⟨(I, oI') :: (C₀, oC') :: N₃, fun p hp => ?_, fun p hp => ?_, rfl, oC', _, (D, lst (ys ++ [y])) :: N₃, ns, fun p hp => ?_, fun p hp => ?_, ys ++ [y], N₃, rfl, fun p hp => ap3 p hp (D, lst ys) (by first | ((repeat (first | exact List.Mem.head _ | refine List.mem_cons_of_mem _ ?_ | refine List.mem_append_right _ ?_)); done) | simp), by simp; omega, j3⟩
      · simp only [List.mem_cons] at hp
        exact hs p (by simp only [List.mem_append, List.mem_cons, List.not_mem_nil, or_false]; rcases hp with h | h | h | h <;> (first | ((repeat (first | exact h | exact memH h | exact List.mem_append_left _ h | refine List.mem_cons_of_mem _ ?_ | refine List.mem_append_right _ ?_)); done) | simp [h]))
      · rcases List.mem_cons.mp hp with rfl | hp
        rotate_left 1
        rcases List.mem_cons.mp hp with rfl | hp
        rotate_right 1
        · exact lt _ _ hID
        · exact (lt _ _ hDC).symm
        · exact ap3 p hp (D, lst ys) (by first | ((repeat (first | exact List.Mem.head _ | refine List.mem_cons_of_mem _ ?_ | refine List.mem_append_right _ ?_)); done) | simp)
      · have hp : p ∈ (I, oI') :: (C₀, oC') :: (D, lst (ys ++ [y])) :: N₃ := hp
        show p ∈ (D, lst (ys ++ [y])) :: (I, oI') :: (C₀, oC') :: N₃
        repeat (first | (rcases List.mem_cons.mp hp with h | hp; focus (repeat (first | exact h | exact memH h | exact List.mem_append_left _ h | refine List.mem_cons_of_mem _ ?_ | refine List.mem_append_right _ ?_))) | (rcases List.mem_append.mp hp with h | hp; focus (repeat (first | exact h | exact memH h | exact List.mem_append_left _ h | refine List.mem_cons_of_mem _ ?_ | refine List.mem_append_right _ ?_))) | (focus (repeat (first | exact hp | exact memH hp | exact List.mem_append_left _ hp | refine List.mem_cons_of_mem _ ?_ | refine List.mem_append_right _ ?_))) | exact absurd hp List.not_mem_nil)
      · rcases List.mem_cons.mp hp with rfl | hp
        · exact ⟨(lt _ _ hID).symm, lt _ _ hDC⟩
        · exact ⟨ap3 p hp (I, oI') (by first | ((repeat (first | exact List.Mem.head _ | refine List.mem_cons_of_mem _ ?_ | refine List.mem_append_right _ ?_)); done) | simp), ap3 p hp (C₀, oC') (by first | ((repeat (first | exact List.Mem.head _ | refine List.mem_cons_of_mem _ ?_ | refine List.mem_append_right _ ?_)); done) | simp)⟩
    · simp only [if_neg hok] at c ⊢
      obtain ⟨rfl, N₃, hs, ap3, j3⟩ := c
      refine ⟨rfl, oC', _, (D, lst ys) :: N₃, ns, fun p hp => hs p ?_, fun p hp => ?_, ys, N₃, rfl, fun p hp => ap3 p hp (D, lst ys) (by first | ((repeat (first | exact List.Mem.head _ | refine List.mem_cons_of_mem _ ?_ | refine List.mem_append_right _ ?_)); done) | simp), by omega, j3⟩
      · have hp : p ∈ (I, oI') :: (C₀, oC') :: (D, lst ys) :: N₃ := hp
        exact hp
      · rcases List.mem_cons.mp hp with rfl | hp
        · exact ⟨(lt _ _ hID).symm, lt _ _ hDC⟩
        · exact ⟨ap3 p hp (I, oI') (by first | ((repeat (first | exact List.Mem.head _ | refine List.mem_cons_of_mem _ ?_ | refine List.mem_append_right _ ?_)); done) | simp), ap3 p hp (C₀, oC') (by first | ((repeat (first | exact List.Mem.head _ | refine List.mem_cons_of_mem _ ?_ | refine List.mem_append_right _ ?_)); done) | simp)⟩
  · rintro m₂ N₁ oC' ⟨ys, N₂, rfl, hoD, hlen, hJ2⟩ off ns
    exact ⟨ys, oC', m₂, N₂, ns, fun _ h => h, fun p hp => ⟨hoD p hp, (off p (List.mem_cons_of_mem _ hp)).2⟩, hJ2⟩
/-- a list made by one clause -/
theorem WXE.comp1 {elt iter : Expr} {ifs : List Expr} {scope : Scope} {cl : List (Str × Addr)} {pos px : Pos} {x : Str} {n : Nat} {P : Nat → Value → Prop} {objs : Led} {C : Value → Map → Led → Prop} (J : Nat → List Value → Led → Prop)
    (he : WXE b k en m N iter (fun v m' N' => m' = m ∧ Srcs b k N' v n P objs ∧ J 0 [] N')) (hJ : ∀ i ys N₁, J i ys N₁ → ∀ p ∈ objs, p ∈ N₁) (hn : n ≤ 1000)
    (turn : ∀ i v ys N₁ X C₀ oC m₂, i < n → P i v → J i ys N₁ → (C₀, oC) ∈ X → NsObj oC m₂ → m₂ x = some v → Apart N₁ X → Wx b k m (X ++ N₁) (testsOf ifs (compEnvC scope cl C₀ en)) (fun ok m' N' => if ok = true then WXE b k (compEnvC scope cl C₀ en) m' N' elt (fun y m'' N'' => Cm X m (J (i + 1) (ys ++ [y])) m'' N'') else Cm X m (J (i + 1) ys) m' N'))
    (done : ∀ D ys N₁, J n ys N₁ → (∀ p ∈ N₁, p.1 ≠ D) → C (.ref D) m ((D, lst ys) :: N₁))
    (hclos : autoParam (closureFor scope en = pure cl) tUn) (hcell : autoParam (∀ y ∈ scope.names, y.2 ≠ .cell) tDec) (hkind : autoParam (scope.kind = .function) tRfl) (hnames : autoParam (∀ y ∈ scope.names, y.2 = .local → scope.names.lookup y.1 = some .local) tDec) (hx : autoParam (scope.names.lookup x = some .local) tRfl)
    (hs : autoParam (∀ x, foldedSetIterable iter en x = pure x) tIRfl) : WXE b k en m N (.ListComp elt [⟨.Name x px, iter, ifs, 0⟩] scope pos) C := fun s Q F N' hQ => by
  rw [eval_ListComp]
  refine wpAny_comprehension_free (use := none) rfl hs hclos hkind hnames (he s _ F N' fun v m' N₁ h₁ tk₁ c F₁ NN₁ => ?_)
  obtain ⟨rfl, ⟨hsub, hit⟩, hj⟩ := c
  refine hit _ _ _ F₁ NN₁ fun oI St fp W hfp hlive hfr st => ?_
  have up : ∀ a o, h₁.get? a = some o → (h₁.push oI).get? a = some o := fun a o e => Heap.get?_push_of_some _ e
  have N₂ : News F₁.g b.L (h₁.push oI) ((h₁.objs.size, oI) :: N₁) := fun p hp => by
    rcases List.mem_cons.mp hp with rfl | hp
    · exact ⟨Heap.get?_push_size _ hfr, Nat.ne_of_gt F₁.ns.lt, next_is_new F₁.fr⟩
    · exact ⟨up _ _ (NN₁ p hp).1, (NN₁ p hp).2⟩
  have hst := W_start (s := { s with heap := h₁, toks := tk₁ }) W rfl hfp hfr st NN₁ hsub
  refine blk (I := h₁.objs.size) (oI := oI) (N := N₁) (Fin := J n) codeAny_compStart_list hcell hkind (F₁.of (F₁.fr.keeps up)) N₂ (fun s' Q' E' g' NN q => W.self 0 s' Q' E' (hst _ (NN _ (List.mem_cons_self ..)).1 fun p hp => (NN _ (List.mem_cons_of_mem _ (hsub p hp))).1) q) (fun C₀ D oC hD hDC hns => ?_) ?_
  · exact CL.one (px := px) (iter := iter) (pos := pos) J W hfp hlive hst hkind hx hn (fun p hp => Nat.ne_of_lt (Heap.lt_size (NN₁ p hp).1)) hD hDC hns hj hJ turn
  · intro D C₀ ys oC m₂ N₃ h tk hDC F₃ NN₃ ns off fin
    refine ⟨m₂, ns.ns (NN₃ _ (List.mem_cons_self ..)).1, fun h'' hs'' => ?_⟩
    have zC := (NN₃ _ (List.mem_cons_self ..)).2
    refine hQ (.ref D) m' _ h'' tk (done D ys N₃ fin fun p hp => (off p hp).1) (F₃.of (F₃.fr.change hs'' zC.1 zC.2)) fun p hp => ?_
    have z := NN₃ p (List.mem_cons_of_mem _ hp)
    refine ⟨hs''.extBut _ _ ?_ z.1, z.2⟩
    rcases List.mem_cons.mp hp with rfl | hp
    · exact hDC
    · exact (off p hp).2
end
end Mine
end
section
open PySem PySem.W PyProof.Rows PySem.Calls PyProof.Rows.LCg
set_option maxRecDepth 100000
set_option maxHeartbeats 8000000
set_option linter.unusedVariables false
namespace Mine
section
variable {w : World} {dn : Nat} {b : Bs w dn} {k : Cd} {m : Map} {N : Led} {en : Env}
theorem Srcs.range {r : Addr} {n : Nat} {o : Obj} {t u v : Tok} (hm : (r, o) ∈ N) (ho : o = { cls := .type "range", data := .fields #[.int 0 t, .int (n : Int) u, .int 1 v] }) (hz : n ≤ 1000) : Srcs b k N (.ref r) n (fun i x => IsI (i : Int) x) [] :=
  ⟨fun p hp => (nomatch hp), fun m s Q F N' hQ => by
    subst ho
    have hr : IsRange s.heap r 0 (n : Int) 1 t u v := (N' _ hm).1
    have hn : Builtin.Range.rangeSize 0 (n : Int) 1 = (n : Int) := by
      unfold Builtin.Range.rangeSize
      simp
      omega
    have W := range_walks (prog := prog) (w := w) (A := b.A k) (I := s.heap.objs.size) rfl 0 n
    refine wpAny_pyIter_range hr (by
      have h1 : (n : Int) ≤ 1000 := by omega
      unfold Builtin.Range.small Builtin.Range.rangeFitsLong
      simp [hn]
      omega) (hQ _ _ [s.heap.objs.size] { sub := W.sub, frame := W.frame, item := fun i s Q E hi st h => W.item i s Q E hi st fun v h' tk hv => h v h' tk (by obtain ⟨t, rfl⟩ := hv; exact ⟨t, by rw [Int.zero_add]⟩), done := W.done, self := W.self } (fun a ha => .inl (List.mem_singleton.mp ha)) (fun i h st => ⟨_, st⟩) rfl ?_)
    show IsRangeIter _ _ _ _ _
    rw [hn]
    simpa using Heap.get?_push_size _ rfl⟩
theorem Srcs.dictKeys {d : Addr} {o : Obj} {K : Type} [DecidableEq K] {knd : KeyKind prog w K} {kvs : List (K × Value)} (hm : (d, o) ∈ N) (hd : o.IsDictOf knd kvs) (hs : (d == sysModules) = false) : Srcs b k N (.ref d) kvs.length (fun i v => ∃ c x, kvs[i]? = some (c, x) ∧ knd.is c v = true) [(d, o)] :=
  ⟨fun p hp => by rw [List.mem_singleton.mp hp]; exact hm, fun m s Q F N' hQ => by
    have hin := N' _ hm
    obtain ⟨ep, ha⟩ := KdkAt.of hd
    have hda := ha.dictAt hin.1
    have W := Walks.dictKeys (prog := prog) (w := w) (A := b.A k) (knd := knd) rfl s.heap.objs.size d (Nat.ne_of_lt (Heap.lt_size hin.1)) kvs ep
    refine wpAny_pyIter_dict hs hda (hQ _ _ _ W (fun a ha => ?_) (fun i h st => by obtain ⟨o, ho, _⟩ := st.1; exact ⟨o, ho⟩) rfl ⟨⟨_, Heap.get?_push_size _ rfl, rfl, rfl⟩, hda.at' fun o e => Heap.get?_push_of_some _ e⟩)
    rcases List.mem_cons.mp ha with rfl | ha
    · exact .inl rfl
    · rw [List.mem_singleton.mp ha]; exact .inr ⟨_, List.mem_singleton.mpr rfl⟩⟩
theorem Srcs.dictVals {d x : Addr} {o ox : Obj} {K : Type} [DecidableEq K] {knd : KeyKind prog w K} {kvs : List (K × Value)} (hx : (x, ox) ∈ N) (hv : ox = { cls := .type "dict_values", data := .fields #[.ref d] }) (hm : (d, o) ∈ N) (hd : o.IsDictOf knd kvs) : Srcs b k N (.ref x) kvs.length (fun i v => ∃ c, kvs[i]? = some (c, v)) [(d, o)] :=
  ⟨fun p hp => by rw [List.mem_singleton.mp hp]; exact hm, fun m s Q F N' hQ => by
    have hin := N' _ hm
    obtain ⟨ep, ha⟩ := KdkAt.of hd
    have hda := ha.dictAt hin.1
    have W := Walks.dictValues (prog := prog) (w := w) (A := b.A k) (knd := knd) rfl s.heap.objs.size d (Nat.ne_of_lt (Heap.lt_size hin.1)) kvs ep
    refine wpAny_pyIter_values (knd := knd) ⟨_, (N' _ hx).1, by rw [hv], by rw [hv]⟩ hda (hQ _ _ _ W (fun a ha => ?_) (fun i h st => by obtain ⟨o, ho, _⟩ := st.1; exact ⟨o, ho⟩) rfl ⟨⟨_, Heap.get?_push_size _ rfl, rfl, rfl⟩, hda.at' fun o e => Heap.get?_push_of_some _ e⟩)
    rcases List.mem_cons.mp ha with rfl | ha
    · exact .inl rfl
    · rw [List.mem_singleton.mp ha]; exact .inr ⟨_, List.mem_singleton.mpr rfl⟩⟩
/-- a name set to a list made by one clause -/
theorem SX.comp1 {rest : List Stmt} {elt iter : Expr} {ifs : List Expr} {scope : Scope} {cl : List (Str × Addr)} {pos px py spos : Pos} {x y : Str} {n : Nat} {P : Nat → Value → Prop} {objs : Led} {C : Flow → Map → Led → Prop} (J : Nat → List Value → Led → Prop)
    (he : WE b k m N iter (fun v m' N' => m' = m ∧ Srcs b k N' v n P objs ∧ J 0 [] N')) (hJ : ∀ i ys N₁, J i ys N₁ → ∀ p ∈ objs, p ∈ N₁) (hn : n ≤ 1000)
    (turn : ∀ i v ys N₁ X C₀ oC m₂, i < n → P i v → J i ys N₁ → (C₀, oC) ∈ X → NsObj oC m₂ → m₂ x = some v → Apart N₁ X → Wx b k m (X ++ N₁) (testsOf ifs (compEnvC scope cl C₀ (k.env b.L))) (fun ok m' N' => if ok = true then WXE b k (compEnvC scope cl C₀ (k.env b.L)) m' N' elt (fun y m'' N'' => Cm X m (J (i + 1) (ys ++ [y])) m'' N'') else Cm X m (J (i + 1) ys) m' N'))
    (done : ∀ D ys N₁, J n ys N₁ → (∀ p ∈ N₁, p.1 ≠ D) → SX b k (setv m y (.ref D)) ((D, lst ys) :: N₁) rest C)
    (hsw : autoParam (swapsWith (.ListComp elt [⟨.Name x px, iter, ifs, 0⟩] scope pos) (some (.Name y py)) spos.line (k.env b.L) = pure true) tRfl) (hy : autoParam ((k.env b.L).kindOf y = some .local) tRfl)
    (hclos : autoParam (closureFor scope (k.env b.L) = pure cl) tUn) (hcell : autoParam (∀ y ∈ scope.names, y.2 ≠ .cell) tDec) (hkind : autoParam (scope.kind = .function) tRfl) (hnames : autoParam (∀ y ∈ scope.names, y.2 = .local → scope.names.lookup y.1 = some .local) tDec) (hx : autoParam (scope.names.lookup x = some .local) tRfl)
    (hs : autoParam (∀ x, foldedSetIterable iter (k.env b.L) x = pure x) tIRfl) : SX b k m N (.Assign [.Name y py] (.ListComp elt [⟨.Name x px, iter, ifs, 0⟩] scope pos) spos :: rest) C :=
  SX.cons (C' := C) fun s Q F N' hQ => by
  rw [exec_Assign_Name_used _ _ _ _ hsw]
  refine wpAny_bind (wpAny_standAt (wpAny_bind ?_))
  show wpAny _ (b.A k) (do let _ ← comprehension (.ListComp elt [⟨.Name x px, iter, ifs, 0⟩] scope pos) scope (k.env b.L) _ (newList []) false (eval iter (k.env b.L)) (some (PySem.assign (.Name y py) (k.env b.L)))) _ _ s
  refine wpAny_bind (wpAny_mono (wpAny_comprehension_free (use := some (PySem.assign (.Name y py) (k.env b.L))) (Q := fun _ s' => Q .next s') rfl hs hclos hkind hnames (he s _ F N' fun v m' N₁ h₁ tk₁ c F₁ NN₁ => ?_)) (fun _ s' hq => wpAny_pure (wpAny_pure hq)) fun _ _ e => e)
  obtain ⟨rfl, ⟨hsub, hit⟩, hj⟩ := c
  refine hit _ _ _ F₁ NN₁ fun oI St fp W hfp hlive hfr st => ?_
  have up : ∀ a o, h₁.get? a = some o → (h₁.push oI).get? a = some o := fun a o e => Heap.get?_push_of_some _ e
  have N₂ : News F₁.g b.L (h₁.push oI) ((h₁.objs.size, oI) :: N₁) := fun p hp => by
    rcases List.mem_cons.mp hp with rfl | hp
    · exact ⟨Heap.get?_push_size _ hfr, Nat.ne_of_gt F₁.ns.lt, next_is_new F₁.fr⟩
    · exact ⟨up _ _ (NN₁ p hp).1, (NN₁ p hp).2⟩
  have hst := W_start (s := { s with heap := h₁, toks := tk₁ }) W rfl hfp hfr st NN₁ hsub
  refine blk (I := h₁.objs.size) (oI := oI) (N := N₁) (Fin := J n) codeAny_compStart_list hcell hkind (F₁.of (F₁.fr.keeps up)) N₂ (fun s' Q' E' g' NN q => W.self 0 s' Q' E' (hst _ (NN _ (List.mem_cons_self ..)).1 fun p hp => (NN _ (List.mem_cons_of_mem _ (hsub p hp))).1) q) (fun C₀ D oC hD hDC hns => ?_) ?_
  · exact CL.one (px := px) (iter := iter) (pos := pos) J W hfp hlive hst hkind hx hn (fun p hp => Nat.ne_of_lt (Heap.lt_size (NN₁ p hp).1)) hD hDC hns hj hJ turn
  · intro D C₀ ys oC m₂ N₃ h tk hDC F₃ NN₃ ns off fin
    have zC := NN₃ _ (List.mem_cons_self ..)
    show wpAny _ (b.A k) (PySem.assign (.Name y py) (k.env b.L) (.ref D)) _ _ _
    refine wpAny_assign_Name (wpAny_storeName_local hy F₃.fr.ns (fun h' hn hs' => ?_) (by show (k.scope.kind == .class || (k.scope.kind == .module && b.L != mainGlobals)) = false; rw [k.fn]; rfl))
    have F₄ := F₃.fr.set hn hs'
    have NN₄ := NN₃.set hs'
    refine ⟨m₂, ns.ns (NN₄ _ (List.mem_cons_self ..)).1, fun h'' hs'' => ?_⟩
    have zC := (NN₄ _ (List.mem_cons_self ..)).2
    refine hQ .next _ _ h'' _ (done D ys N₃ fin fun p hp => (off p hp).1) (F₃.of (F₄.change hs'' zC.1 zC.2)) fun p hp => ?_
    have z := NN₄ p (List.mem_cons_of_mem _ hp)
    refine ⟨hs''.extBut _ _ ?_ z.1, z.2⟩
    rcases List.mem_cons.mp hp with rfl | hp
    · exact hDC
    · exact (off p hp).2
end
end Mine
end
section
open PySem PySem.W PyProof.Rows PySem.Calls
set_option maxRecDepth 100000
set_option maxHeartbeats 8000000
set_option linter.unusedVariables false
namespace Mine
structure Fx where
  nd : Nat
  j : Nat
  it : Addr
  wr : Addr
  o : Obj
def fled : List Fx → Led
  | [] => []
  | f :: r => (f.wr, LI.wrap f.it) :: (f.it, f.o) :: fled r
def FOk (g : St) (z : Wires) (low : List Addr) : List Fx → Prop
  | [] => True
  | f :: r => (f.nd < g.n ∧ ItIs f.o (z.SU f.nd) f.j ∧ f.j ≤ (g.su f.nd).length ∧ (∀ a ∈ low, a < f.it) ∧ (∀ p ∈ fled r, p.1 < f.it) ∧ f.it < f.wr ∧ ∀ f' ∈ r, f'.nd < f.nd) ∧ FOk g z low r
def rem (g : St) (fs : List Fx) : Nat := (fs.map fun f => (g.su f.nd).length - f.j).sum
def uns : Nat → (Int → Bool) → Nat
  | 0, _ => 0
  | n + 1, S => uns n S + if S (n : Int) then 0 else 1
theorem uns_same {S S' : Int → Bool} : ∀ n : Nat, (∀ k : Nat, k < n → S k = S' k) → uns n S = uns n S'
  | 0, _ => rfl
  | n + 1, h => by
    unfold uns
    rw [uns_same n fun k hk => h k (Nat.lt_succ_of_lt hk), h n (Nat.lt_succ_self _)]
theorem uns_add {S : Int → Bool} {k : Nat} (hk : S k = false) : ∀ n : Nat, k < n → uns n (fun j => S j || decide (j = (k : Int))) + 1 = uns n S
  | n + 1, h => by
    unfold uns
    by_cases e : k = n
    · subst e
      rw [uns_same (S' := S) k fun j hj => by
        have : ¬ ((j : Int) = (k : Int)) := by omega
        (first | ((repeat (first | exact this | exact memH this | exact List.mem_append_left _ this | refine List.mem_cons_of_mem _ ?_ | refine List.mem_append_right _ ?_)); done) | simp [this])]
      simp [hk]
    · have := uns_add hk n (by omega)
      have e2 : ¬ ((n : Int) = (k : Int)) := by omega
      simp only [e2, decide_false, Bool.or_false]
      omega
theorem FOk.len {g : St} {z : Wires} {low : List Addr} {fs : List Fx} : FOk g z low fs → ∀ B : Nat, (∀ f ∈ fs, f.nd < B) → fs.length ≤ B := by
  induction fs with
  | nil => exact fun _ _ _ => Nat.zero_le _
  | cons f r ih =>
    intro h B hB
    have h1 := ih h.2 f.nd h.1.2.2.2.2.2.2
    have h2 := hB f (List.mem_cons_self ..)
    exact Nat.lt_of_le_of_lt h1 h2
theorem FOk.nd {g : St} {z : Wires} {low : List Addr} {fs : List Fx} : FOk g z low fs → ∀ f ∈ fs, f.nd < g.n := by
  induction fs with
  | nil => exact fun _ f hf => (nomatch hf)
  | cons f r ih =>
    intro h f' hf
    rcases List.mem_cons.mp hf with e | hf
    · rw [e]; exact h.1.1
    · exact ih h.2 f' hf
theorem FOk.low {g : St} {z : Wires} {low : List Addr} {fs : List Fx} : FOk g z low fs → ∀ p ∈ fled fs, ∀ a ∈ low, a < p.1 := by
  induction fs with
  | nil => exact fun _ p hp => (nomatch hp)
  | cons f r ih =>
    intro h p hp a ha
    have hp : p ∈ (f.wr, LI.wrap f.it) :: (f.it, f.o) :: fled r := hp
    rcases List.mem_cons.mp hp with e | hp
    · rw [e]; exact Nat.lt_trans (h.1.2.2.2.1 a ha) h.1.2.2.2.2.2.1
    · rcases List.mem_cons.mp hp with e | hp
      · rw [e]; exact h.1.2.2.2.1 a ha
      · exact ih h.2 p hp a ha
theorem AreN.snoc : ∀ {vs : List Value} {l : List Nat} {k : Nat}, AreN vs (l ++ [k]) → ∃ vs' t, vs = vs' ++ [Value.int (k : Int) t] ∧ AreN vs' l
  | [], [], _, h => h.elim
  | [], _ :: _, _, h => h.elim
  | v :: vs, [], k, h => by
    obtain ⟨⟨t, rfl⟩, h2⟩ := h
    cases vs with
    | nil => exact ⟨[], t, rfl, trivial⟩
    | cons x y => exact h2.elim
  | v :: vs, j :: l, k, h => by
    obtain ⟨vs', t, rfl, h2⟩ := AreN.snoc (l := l) h.2
    exact ⟨v :: vs', t, rfl, h.1, h2⟩
theorem key_some {kvs : List (Int × Value)} {k : Int} (h : k ∈ kvs.map (·.1)) : (valueAt kvs k).isSome = true := by
  rw [valueAt_isSome_eq_any, List.any_eq_true]
  obtain ⟨x, hx, rfl⟩ := List.mem_map.mp h
  exact ⟨x, hx, by simp⟩
theorem key_none {kvs : List (Int × Value)} {k : Int} (h : k ∉ kvs.map (·.1)) : (valueAt kvs k).isSome = false := by
  rw [valueAt_none_of_not_mem h]; rfl
theorem keys_stored {kvs : List (Int × Value)} {k : Int} {v : Value} (h : k ∉ kvs.map (·.1)) : (stored kvs k v).map (·.1) = kvs.map (·.1) ++ [k] := by
  rw [stored_absent (valueAt_none_of_not_mem h)]; simp
theorem keys_without {kvs : List (Int × Value)} {l : List Int} {k : Int} (h : kvs.map (·.1) = l ++ [k]) (hk : k ∉ l) : (without kvs k).map (·.1) = l := by
  have e : (without kvs k).map (·.1) = (kvs.map (·.1)).filter (fun x => decide (x ≠ k)) := by
    unfold without
    rw [List.filter_map]; rfl
  rw [e, h, List.filter_append]
  have e1 : l.filter (fun x => decide (x ≠ k)) = l := List.filter_eq_self.mpr fun a ha => by
    have : a ≠ k := fun q => hk (q ▸ ha)
    (first | ((repeat (first | exact this | exact memH this | exact List.mem_append_left _ this | refine List.mem_cons_of_mem _ ?_ | refine List.mem_append_right _ ?_)); done) | simp [this])
  rw [e1]
  simp
/-- the walk's own things -/
structure CW (base : Led) (aS aI aE aD : Addr) (X : Led) : Prop where
  b : ∀ p ∈ base, p.1 < aS
  d1 : aS < aI
  d2 : aI < aE
  d3 : aE < aD
  x : ∀ q ∈ X, q.1 ≠ aS ∧ q.1 ≠ aI ∧ q.1 ≠ aE ∧ q.1 ≠ aD ∧ ∀ p ∈ base, p.1 ≠ q.1
  lo : (aD == sysModules) = false
def refs (fs : List Fx) : List Value := fs.reverse.map fun f => Value.ref f.wr
def nds (fs : List Fx) : List Nat := fs.reverse.map (·.nd)
def Fc (w : World) (g : St) (z : Wires) (base : Led) (aS aI aE aD : Addr) (X : Led) (fs : List Fx) (S : Int → Bool) (N : Led) : Prop :=
  ∃ vs n1 n2 oE nn oD kvs, (∀ p ∈ (aS, listOf vs.toArray n1) :: (aI, listOf (refs fs).toArray n2) :: (aE, oE) :: (aD, oD) :: (X ++ (fled fs ++ base)), p ∈ N) ∧ AreN vs (nds fs) ∧ Obj.SetObjOf (intKind prog w) oE S nn ∧ nn + uns g.n S ≤ g.n ∧ oD.IsDictOf (intKind prog w) kvs ∧
    kvs.map (·.1) = (nds fs).map (fun k : Nat => (k : Int)) ∧ FOk g z (aS :: aI :: aE :: aD :: X.map (·.1)) fs
def Nm (m : Map) (z : Wires) (aS aI aE aD : Addr) : Prop :=
  m (Str.ofString "n2i") = some (.ref z.N) ∧ m (Str.ofString "stack") = some (.ref aS) ∧ m (Str.ofString "itstack") = some (.ref aI) ∧ m (Str.ofString "seen") = some (.ref aE) ∧ m (Str.ofString "node2stacki") = some (.ref aD)
theorem nds_cons (f : Fx) (r : List Fx) : nds (f :: r) = nds r ++ [f.nd] := by simp [nds]
theorem refs_cons (f : Fx) (r : List Fx) : refs (f :: r) = refs r ++ [Value.ref f.wr] := by simp [refs]
theorem mem_nds {k : Nat} {fs : List Fx} (h : k ∈ nds fs) : ∃ f ∈ fs, f.nd = k := by
  simp only [nds, List.mem_map, List.mem_reverse] at h
  exact h
section
variable {w : World} {dn : Nat} {b : Bs w dn} {k : Cd} {m : Map} {N : Led} {C : Flow → Map → Led → Prop} {rest : List Stmt}
theorem SX.ifG {e : Expr} {body orelse : List Stmt} {pos : Pos} {c : Bool} (P : Map → Led → Prop) (ht : Tst b k m N e c) (h1 : c = true → SX b k m N body (fun f m' N' => f = .next ∧ P m' N')) (h2 : c = false → SX b k m N orelse (fun f m' N' => f = .next ∧ P m' N')) (hk : ∀ m' N', P m' N' → SX b k m' N' rest C) : SX b k m N (.If e body orelse pos :: rest) C := by
  refine SX.if_ ht (fun h => (h1 h).mono ?_) (fun h => (h2 h).mono ?_)
  · rintro f m' N' ⟨rfl, p⟩; exact hk m' N' p
  · rintro f m' N' ⟨rfl, p⟩; exact hk m' N' p
end
end Mine
end
section
open PySem PySem.W PyProof.Rows PySem.Calls
set_option maxRecDepth 100000
set_option maxHeartbeats 8000000
namespace Mine
set_option linter.unusedVariables false
section
variable {w : World} {dn : Nat} {b : Bs w dn} {k : Cd} {m : Map} {N : Led} {C : Flow → Map → Led → Prop} {rest : List Stmt} {en : Env}
theorem Ex.attrT {x : Expr} {name : Str} {pos : Pos} {P P1 : Value → Prop} (h : XE b k en m N x P1) (hg : ∀ v, P1 v → Rd b k m N (getAttr v name true) P) (he : autoParam (eval (.Attribute x name pos) en = (do
      let o ← eval x en
      standAt pos.atName
      let r ← holding [o] (getAttr o name true)
      letTemporaryGo x o r
      pure r)) tUn) : XE b k en m N (.Attribute x name pos) P := fun s Q F N hQ => by
  rw [he]
  exact wpAny_bind (h s _ F N fun o tk p => wpAny_bind (wpAny_standAt (wpAny_bind (wpAny_holding (hg o p _ _ F N fun r tk2 p2 => wpAny_bind (wpAny_letTemporaryGo (wpAny_pure (hQ r tk2 p2))))))))
theorem Rd.lenL {l : Addr} {vs : List Value} {n : Nat} (hm : (l, listOf vs.toArray n) ∈ N) (hz : vs.length ≤ 1000) : Rd b k m N (PySem.call (.builtin "len") [.ref l]) (IsI vs.length) :=
  fun s Q F N' hQ => lenS N' hm rfl hz (hQ _ _ ⟨_, rfl⟩)
end
theorem CW.off {g : St} {z : Wires} {base : Led} {aS aI aE aD : Addr} {X : Led} {fs : List Fx} (c : CW base aS aI aE aD X) (f : FOk g z (aS :: aI :: aE :: aD :: X.map (·.1)) fs) : ∀ p ∈ X ++ (fled fs ++ base), p.1 ≠ aS ∧ p.1 ≠ aI ∧ p.1 ≠ aE ∧ p.1 ≠ aD := fun p hp => by
  have h1 := c.d1
  have h2 := c.d2
  have h3 := c.d3
  rcases List.mem_append.mp hp with hp | hp
  · obtain ⟨a, b, d, e, _⟩ := c.x p hp; exact ⟨a, b, d, e⟩
  · rcases List.mem_append.mp hp with hp | hp
    · have hl := f.low p hp
      exact ⟨Nat.ne_of_gt (hl _ (by first | ((repeat (first | exact List.Mem.head _ | refine List.mem_cons_of_mem _ ?_ | refine List.mem_append_right _ ?_)); done) | simp)), Nat.ne_of_gt (hl _ (by first | ((repeat (first | exact List.Mem.head _ | refine List.mem_cons_of_mem _ ?_ | refine List.mem_append_right _ ?_)); done) | simp)), Nat.ne_of_gt (hl _ (by first | ((repeat (first | exact List.Mem.head _ | refine List.mem_cons_of_mem _ ?_ | refine List.mem_append_right _ ?_)); done) | simp)), Nat.ne_of_gt (hl _ (by first | ((repeat (first | exact List.Mem.head _ | refine List.mem_cons_of_mem _ ?_ | refine List.mem_append_right _ ?_)); done) | simp))⟩
    · have hb := c.b p hp
      exact ⟨Nat.ne_of_lt hb, Nat.ne_of_lt (Nat.lt_trans hb h1), Nat.ne_of_lt (Nat.lt_trans hb (Nat.lt_trans h1 h2)), Nat.ne_of_lt (Nat.lt_trans hb (Nat.lt_trans h1 (Nat.lt_trans h2 h3)))⟩
theorem kvs_at {n i : Nat} {I : Nat → Addr} {c : Int} {x : Value} (h : (kvsOf n I)[i]? = some (c, x)) : c = (i : Int) ∧ i < n := by
  unfold kvsOf at h
  rw [List.getElem?_map] at h
  cases hi : (List.range n)[i]? with
  | none => rw [hi] at h; cases h
  | some j =>
    rw [hi] at h
    obtain ⟨hlt, e⟩ := List.getElem?_eq_some_iff.mp hi
    rw [List.getElem_range] at e
    subst e
    cases h
    exact ⟨rfl, by simpa using hlt⟩
theorem Fc.re {w : World} {g : St} {z : Wires} {base : Led} {aS aI aE aD : Addr} {x : Addr × Obj} {S : Int → Bool} {N : Led} (F : Fc w g z base aS aI aE aD [] [] S N) : Fc w g z base aS aI aE aD [x] [] S (x :: N) := by
  obtain ⟨vs, n1, n2, oE, nn, oD, kvs, hs, hv, hE, hnn, hD, hk, hf⟩ := F
  refine ⟨vs, n1, n2, oE, nn, oD, kvs, fun p hp => ?_, hv, hE, hnn, hD, hk, trivial⟩
  simp only [List.mem_cons, List.mem_append, List.not_mem_nil, or_false] at hp ⊢
  rcases hp with h | h | h | h | h | h | h
  · exact .inr (hs p (by (first | ((repeat (first | exact h | exact memH h | exact List.mem_append_left _ h | refine List.mem_cons_of_mem _ ?_ | refine List.mem_append_right _ ?_)); done) | simp [h])))
  · exact .inr (hs p (by (first | ((repeat (first | exact h | exact memH h | exact List.mem_append_left _ h | refine List.mem_cons_of_mem _ ?_ | refine List.mem_append_right _ ?_)); done) | simp [h])))
  · exact .inr (hs p (by (first | ((repeat (first | exact h | exact memH h | exact List.mem_append_left _ h | refine List.mem_cons_of_mem _ ?_ | refine List.mem_append_right _ ?_)); done) | simp [h])))
  · exact .inr (hs p (by (first | ((repeat (first | exact h | exact memH h | exact List.mem_append_left _ h | refine List.mem_cons_of_mem _ ?_ | refine List.mem_append_right _ ?_)); done) | simp [h])))
  · exact .inl h
  · exact (nomatch h)
  · exact .inr (hs p (by (first | ((repeat (first | exact h | exact memH h | exact List.mem_append_left _ h | refine List.mem_cons_of_mem _ ?_ | refine List.mem_append_right _ ?_)); done) | simp [h])))
theorem cyc_spec (w : World) (g : St) (z : Wires) (led rl : Led) (G : Gs w g z led) (hn : g.n ≤ 50) (hs : ∀ j, j < g.n → (g.su j).length ≤ 50 ∧ ∀ p ∈ g.su j, j < p ∧ p < g.n) :
  SpecT w 127 1 [.ref z.S] (led ++ rl) (fun r n' => r = .none ∧ ∀ p ∈ led ++ rl, p ∈ n') := by
  k_dflt (refine' enterT (binds := [(Str.ofString "self", .ref z.S)]) ?k6 ?k7 ?k9 ?kB ?c2 ?c3 ?c4 ?c5 ?_; (case k6 => k_is); (case k7 => k_is); (case k9 => exact fun _ _ => BindsTo.of_eq rfl); (case c5 => decide); (case kB => exact locs rfl); (case c2 => exact rfl); (case c3 => exact rfl); (case c4 => exact rfl); k_whole)
  intro b Tu

  have hled : ∀ p ∈ led, p ∈ led ++ rl := fun p hp => List.mem_append_left _ hp
  generalize led ++ rl = base at hled ⊢
  refine SX.abs fun C hC => ?_
  refine SX.assignV (Ex.sInfo G (Ex.name rfl) hled) ?_
  refine SX.assignW (WE.listE Ars.nil (fun vs e => by rw [e]; decide) fun aS vs e ltS => ?_)
  subst e
  refine SX.assignW (WE.listE Ars.nil (fun vs e => by rw [e]; decide) fun aI vs e ltI => ?_)
  subst e
  refine SX.assignW (WE.set0 (Ex.blt (by k_is) (by boot_by_name)) fun aE oE ltE hE => ?_)
  refine SX.assignW (WE.dict0 fun aD oD ltD lo hD => ?_)
  have d1 : aS < aI := ltI _ (List.mem_cons_self ..)
  have d2 : aI < aE := ltE _ (List.mem_cons_self ..)
  have d3 : aE < aD := ltD _ (List.mem_cons_self ..)
  obtain ⟨oN, hNm, hNd⟩ := G.nn
  refine SX.forS (n := (kvsOf g.n z.I).length) (P := fun i v => ∃ c x, (kvsOf g.n z.I)[i]? = some (c, x) ∧ (intKind prog w).is c v = true) (J := fun i m N => Nm m z aS aI aE aD ∧ ∃ S, Fc w g z base aS aI aE aD [] [] S N) (objs := [(z.N, oN)]) ((Ex.name rfl).wx fun v hv => ?_) ?_ ?_ ?_
  · cases hv
    refine ⟨Srcs.dictKeys (List.mem_cons_of_mem _ (List.mem_cons_of_mem _ (List.mem_cons_of_mem _ (List.mem_cons_of_mem _ (hled _ hNm))))) hNd G.lo, ⟨rfl, rfl, rfl, rfl, rfl⟩, fun _ => false, [], 0, 0, oE, 0, oD, [], fun p hp => ?_, trivial, hE, ?_, hD, rfl, trivial⟩
    · simp only [List.mem_cons, List.mem_append, List.not_mem_nil, or_false, fled, List.nil_append] at hp ⊢
      rcases hp with h | h | h | h | h
      · exact .inr (.inr (.inr (.inl h)))
      · exact .inr (.inr (.inl h))
      · exact .inr (.inl h)
      · exact .inl h
      · exact .inr (.inr (.inr (.inr h)))
    · have : ∀ n, uns n (fun _ => false) = n := fun n => by induction n with
        | zero => rfl
        | succ n ih => unfold uns; rw [ih]; rfl
      rw [this]; omega
  · rintro i m₁ N₁ ⟨_, S, vs, n1, n2, oE, nn, oD, kvs, hsub, _⟩ p hp
    rw [List.mem_singleton.mp hp]
    exact hsub _ (List.mem_cons_of_mem _ (List.mem_cons_of_mem _ (List.mem_cons_of_mem _ (List.mem_cons_of_mem _ (hled _ hNm)))))
  · rintro i v m₁ N₁ It oI hi ⟨c, x, hx, hk⟩ ⟨hm1, S, F1⟩ ho
    obtain ⟨t, rfl⟩ := Value.isInt_shape hk
    obtain ⟨rfl, hin⟩ := kvs_at hx
    refine SX.abs fun C' hC' => ?_
    have cw : CW base aS aI aE aD [(It, oI)] := by
      obtain ⟨vs, n1, n2, oE, nn, oD, kvs, hsub, _⟩ := F1
      refine ⟨fun p hp => ltS p hp, d1, d2, d3, fun q hq => ?_, lo⟩
      rw [List.mem_singleton.mp hq]
      refine ⟨fun e => ho _ (hsub _ (List.mem_cons_self ..)) e.symm, fun e => ho _ (hsub _ (List.mem_cons_of_mem _ (List.mem_cons_self ..))) e.symm, fun e => ho _ (hsub _ (List.mem_cons_of_mem _ (List.mem_cons_of_mem _ (List.mem_cons_self ..)))) e.symm, fun e => ho _ (hsub _ (List.mem_cons_of_mem _ (List.mem_cons_of_mem _ (List.mem_cons_of_mem _ (List.mem_cons_self ..))))) e.symm, fun p hp => ho p (hsub p (by simp [fled, hp]))⟩
    have bk : ∀ {X : Led} {fs : List Fx} {S : Int → Bool} {N : Led}, Fc w g z base aS aI aE aD X fs S N → ∀ p ∈ led, p ∈ N := fun {X fs S N} F p hp => by
      obtain ⟨vs, n1, n2, oE, nn, oD, kvs, hsub, _⟩ := F
      exact hsub p (by simp [hled p hp])
    have F1' := F1.re (x := (It, oI))
    have hm1 : Nm (setv m₁ (Str.ofString "node") (.int (i : Int) t)) z aS aI aE aD := hm1
    have endT : ∀ {m' : Map} {N' : Led} {S : Int → Bool}, Nm m' z aS aI aE aD → Fc w g z base aS aI aE aD [(It, oI)] [] S N' → ∃ N₂, (∀ p ∈ (It, oI) :: N₂, p ∈ N') ∧ (∀ p ∈ N₂, p.1 ≠ It) ∧ Nm m' z aS aI aE aD ∧ ∃ S, Fc w g z base aS aI aE aD [] [] S N₂ := by
      rintro m' N' S hm ⟨vs, n1, n2, oE, nn, oD, kvs, hsub, hv, hE, hnn, hD, hk, hf⟩
      refine ⟨(aS, listOf vs.toArray n1) :: (aI, listOf (refs []).toArray n2) :: (aE, oE) :: (aD, oD) :: base, fun p hp => ?_, fun p hp => ?_, hm, S, vs, n1, n2, oE, nn, oD, kvs, fun p hp => hp, hv, hE, hnn, hD, hk, trivial⟩
      · simp only [List.mem_cons] at hp
        refine hsub p ?_
        simp only [List.mem_cons, List.mem_append, List.not_mem_nil, or_false, fled, List.nil_append]
        rcases hp with h | h | h | h | h | h <;> (first | ((repeat (first | exact h | exact memH h | exact List.mem_append_left _ h | refine List.mem_cons_of_mem _ ?_ | refine List.mem_append_right _ ?_)); done) | simp [h])
      · obtain ⟨a, b', c, d, e⟩ := cw.x (It, oI) (List.mem_cons_self ..)
        rcases List.mem_cons.mp hp with rfl | hp
        rotate_left 1
        rcases List.mem_cons.mp hp with rfl | hp
        rotate_right 1
        rotate_left 2
        rcases List.mem_cons.mp hp with rfl | hp
        rotate_right 2
        rotate_left 3
        rcases List.mem_cons.mp hp with rfl | h
        rotate_right 3
        · exact fun q => a q.symm
        · exact fun q => b' q.symm
        · exact fun q => c q.symm
        · exact fun q => d q.symm
        · exact e p h
    obtain ⟨vs, n1, n2, oE, nn, oD, kvs, hsub, hv, hE, hnn, hD, hk', hf⟩ := id F1'
    refine SX.if_ (Tst.inSet (Ex.nameI rfl) (Ex.name hm1.2.2.2.1) (hsub _ (List.mem_cons_of_mem _ (List.mem_cons_of_mem _ (List.mem_cons_self ..)))) hE (by omega)) (fun h => SX.cont (hC' _ _ _ (endT hm1 F1'))) (fun h => SX.nil ?_)
    refine SX.while_ (J := fun μ m N => ∃ fs S, ∃ p : Nat, ∃ t, m (Str.ofString "node") = some (.int (p : Int) t) ∧ Nm m z aS aI aE aD ∧ Fc w g z base aS aI aE aD [(It, oI)] fs S N ∧ p < g.n ∧ (∀ f ∈ fs, f.nd < p) ∧ uns g.n S * 60 + rem g fs = μ) _ ⟨[], S, i, t, rfl, hm1, F1', hin, fun f hf => (nomatch hf), rfl⟩ ?_
    rintro μ m₂ N₂ ⟨fs, S, p, t2, hnode, hm, F, hp, hlt, hμ⟩
    refine ⟨true, Tst.true_, fun _ => ?_, fun h => by cases h⟩
    refine SX.abs fun C2 hC2 => ?_
    clear hsub hv hE hnn hD hk' hf hk
    obtain ⟨vs, n1, n2, oE, nn, oD, kvs, hsub, hv, hE, hnn, hD, hk, hf⟩ := id F
    have hlen : fs.length ≤ p := hf.len p hlt
    have hoff := cw.off hf
    refine SX.ifG (fun m' N' => Nm m' z aS aI aE aD ∧ ∃ fs' S', Fc w g z base aS aI aE aD [(It, oI)] fs' S' N' ∧ uns g.n S' * 60 + rem g fs' ≤ μ) (Tst.inSet (Ex.nameI hnode) (Ex.name hm.2.2.2.1) (hsub _ (List.mem_cons_of_mem _ (List.mem_cons_of_mem _ (List.mem_cons_self ..)))) hE (by omega)) (fun h => ?_) (fun h => ?_) ?_
    · refine SX.if_ (c := false) (Tst.inDict (Ex.nameI hnode) (Ex.name hm.2.2.2.2) (hsub _ (List.mem_cons_of_mem _ (List.mem_cons_of_mem _ (List.mem_cons_of_mem _ (List.mem_cons_self ..))))) hD lo (key_none ?_)) (fun h => by cases h) (fun _ => SX.nil (SX.nil ⟨rfl, hm, fs, S, F, Nat.le_of_eq hμ⟩))
      rw [hk]
      intro hmem
      obtain ⟨q, hq, e⟩ := List.mem_map.mp hmem
      obtain ⟨f, hf', rfl⟩ := mem_nds hq
      have := hlt f hf'
      omega
    · have hbs : ∀ {N' : Led}, (∀ q ∈ base, q ∈ N') → ∀ q ∈ led, q ∈ N' := fun h q hq => h q (hled q hq)
      obtain ⟨vsS, mS, hSU, hvS⟩ := G.su p hp
      have hvl : vs.length ≤ 50 := by rw [hv.len]; simp only [nds, List.length_map, List.length_reverse]; omega
      have hrl : (refs fs).length ≤ 50 := by simp only [refs, List.length_map, List.length_reverse]; omega
      have hkl : kvs.length ≤ 50 := by
        have := congrArg List.length hk
        simp only [List.length_map, nds, List.length_reverse] at this
        omega
      generalize hT : [(It, oI)] ++ (fled fs ++ base) = T at hsub hoff
      have hbT : ∀ q ∈ base, q ∈ T := fun q hq => by rw [← hT]; (first | ((repeat (first | exact hq | exact memH hq | exact List.mem_append_left _ hq | refine List.mem_cons_of_mem _ ?_ | refine List.mem_append_right _ ?_)); done) | simp [hq])
      refine SX.expr (WE.bmeth (id := "set.add") (Ex.name hm.2.2.2.1) (fun pl => Rd.setAdd (hsub _ (List.mem_cons_of_mem _ (List.mem_cons_of_mem _ (List.mem_cons_self ..)))) hE (by omega) pl) (Ex.nameI hnode) fun v hv1 => ?_)
      refine Wx.setAdd (a := aE) (o := oE) (r := (aS, listOf vs.toArray n1) :: (aI, listOf (refs fs).toArray n2) :: (aD, oD) :: T) hv1 (fun q hq => hsub q ?_) (fun q hq => ?_) hE (by omega) fun oE' hE' => ⟨rfl, ?_⟩
      · repeat (first | (rcases List.mem_cons.mp hq with h | hq; focus (repeat (first | exact h | exact memH h | exact List.mem_append_left _ h | refine List.mem_cons_of_mem _ ?_ | refine List.mem_append_right _ ?_))) | (rcases List.mem_append.mp hq with h | hq; focus (repeat (first | exact h | exact memH h | exact List.mem_append_left _ h | refine List.mem_cons_of_mem _ ?_ | refine List.mem_append_right _ ?_))) | (focus (repeat (first | exact hq | exact memH hq | exact List.mem_append_left _ hq | refine List.mem_cons_of_mem _ ?_ | refine List.mem_append_right _ ?_))) | exact absurd hq List.not_mem_nil)
      · rcases List.mem_cons.mp hq with rfl | hq
        rotate_left 1
        rcases List.mem_cons.mp hq with rfl | hq
        rotate_right 1
        rotate_left 2
        rcases List.mem_cons.mp hq with rfl | h
        rotate_right 2
        · exact Nat.ne_of_lt (Nat.lt_trans d1 d2)
        · exact Nat.ne_of_lt d2
        · exact Nat.ne_of_gt d3
        · exact (hoff q h).2.2.1
      have hb1 : ∀ q ∈ led, q ∈ (aE, oE') :: (aS, listOf vs.toArray n1) :: (aI, listOf (refs fs).toArray n2) :: (aD, oD) :: T := hbs fun q hq => List.mem_cons_of_mem _ (List.mem_cons_of_mem _ (List.mem_cons_of_mem _ (List.mem_cons_of_mem _ (hbT q hq))))
      refine SX.expr (WE.bmethW (id := "list.append") (Ex.name hm.2.2.1) (fun pl => Rd.append (vs := refs fs) (List.mem_cons_of_mem _ (List.mem_cons_of_mem _ (List.mem_cons_self ..))) pl) (WE.nextOf (WE.iterL (Ex.blt (by k_is) (by boot_by_name)) (Ex.attrT (Ex.ditem G hp hb1 (Ex.name hm.1) (Ex.nameI hnode)) (fun v hv => by cases hv; exact Rd.nSu G hp hb1)) (hb1 _ hSU) fun it ltit => ⟨it, _, rfl, List.mem_cons_self .., fun wr ltw => ?_⟩)))
      have i1 : aE < it := ltit _ (List.mem_cons_self ..)
      have i2 : aS < it := ltit _ (List.mem_cons_of_mem _ (List.mem_cons_self ..))
      have i3 : aI < it := ltit _ (List.mem_cons_of_mem _ (List.mem_cons_of_mem _ (List.mem_cons_self ..)))
      have i4 : aD < it := ltit _ (List.mem_cons_of_mem _ (List.mem_cons_of_mem _ (List.mem_cons_of_mem _ (List.mem_cons_self ..))))
      have i5 : ∀ q ∈ T, q.1 < it := fun q hq => ltit q (List.mem_cons_of_mem _ (List.mem_cons_of_mem _ (List.mem_cons_of_mem _ (List.mem_cons_of_mem _ hq))))
      have iw : it < wr := ltw _ (List.mem_cons_self ..)
      refine Wx.append (D := aI) (l := refs fs) (n := n2) (r := (wr, LI.wrap it) :: (it, { cls := .type "list_iterator", data := .fields #[.ref (z.SU p), .int 0 0] }) :: (aE, oE') :: (aS, listOf vs.toArray n1) :: (aD, oD) :: T) (fun q hq => ?_) (fun q hq => ?_) (by omega) ⟨rfl, ?_⟩
      · repeat (first | (rcases List.mem_cons.mp hq with h | hq; focus (repeat (first | exact h | exact memH h | exact List.mem_append_left _ h | refine List.mem_cons_of_mem _ ?_ | refine List.mem_append_right _ ?_))) | (rcases List.mem_append.mp hq with h | hq; focus (repeat (first | exact h | exact memH h | exact List.mem_append_left _ h | refine List.mem_cons_of_mem _ ?_ | refine List.mem_append_right _ ?_))) | (focus (repeat (first | exact hq | exact memH hq | exact List.mem_append_left _ hq | refine List.mem_cons_of_mem _ ?_ | refine List.mem_append_right _ ?_))) | exact absurd hq List.not_mem_nil)
      · rcases List.mem_cons.mp hq with rfl | hq
        rotate_left 1
        rcases List.mem_cons.mp hq with rfl | hq
        rotate_right 1
        rotate_left 2
        rcases List.mem_cons.mp hq with rfl | hq
        rotate_right 2
        rotate_left 3
        rcases List.mem_cons.mp hq with rfl | hq
        rotate_right 3
        rotate_left 4
        rcases List.mem_cons.mp hq with rfl | h
        rotate_right 4
        · exact Nat.ne_of_gt (Nat.lt_trans i3 iw)
        · exact Nat.ne_of_gt i3
        · exact Nat.ne_of_gt d2
        · exact Nat.ne_of_lt d1
        · exact Nat.ne_of_gt (Nat.lt_trans d2 d3)
        · exact (hoff q h).2.1
      refine SX.setI (Ex.call1 (Ex.blt (by k_is) (by boot_by_name)) (Ex.name hm.2.1) (fun v hv => by cases hv; exact Rd.lenL (vs := vs) (n := n1) (by first | ((repeat (first | exact List.Mem.head _ | refine List.mem_cons_of_mem _ ?_ | refine List.mem_append_right _ ?_)); done) | simp) (by omega))) (Ex.name hm.2.2.2.2) (Ex.nameI hnode) fun v dv iv hv2 hdv hiv => ?_
      cases hdv
      refine Wx.dictSet (a := aD) (o := oD) (r := (aI, listOf (refs fs ++ [Value.ref wr]).toArray (n2 + 1)) :: (wr, LI.wrap it) :: (it, { cls := .type "list_iterator", data := .fields #[.ref (z.SU p), .int 0 0] }) :: (aE, oE') :: (aS, listOf vs.toArray n1) :: T) hiv (fun q hq => ?_) (fun q hq => ?_) hD (by omega) fun oD' hD' => ?_
      · repeat (first | (rcases List.mem_cons.mp hq with h | hq; focus (repeat (first | exact h | exact memH h | exact List.mem_append_left _ h | refine List.mem_cons_of_mem _ ?_ | refine List.mem_append_right _ ?_))) | (rcases List.mem_append.mp hq with h | hq; focus (repeat (first | exact h | exact memH h | exact List.mem_append_left _ h | refine List.mem_cons_of_mem _ ?_ | refine List.mem_append_right _ ?_))) | (focus (repeat (first | exact hq | exact memH hq | exact List.mem_append_left _ hq | refine List.mem_cons_of_mem _ ?_ | refine List.mem_append_right _ ?_))) | exact absurd hq List.not_mem_nil)
      · rcases List.mem_cons.mp hq with rfl | hq
        rotate_left 1
        rcases List.mem_cons.mp hq with rfl | hq
        rotate_right 1
        rotate_left 2
        rcases List.mem_cons.mp hq with rfl | hq
        rotate_right 2
        rotate_left 3
        rcases List.mem_cons.mp hq with rfl | hq
        rotate_right 3
        rotate_left 4
        rcases List.mem_cons.mp hq with rfl | h
        rotate_right 4
        · exact Nat.ne_of_lt (Nat.lt_trans d2 d3)
        · exact Nat.ne_of_gt (Nat.lt_trans i4 iw)
        · exact Nat.ne_of_gt i4
        · exact Nat.ne_of_lt d3
        · exact Nat.ne_of_lt (Nat.lt_trans d1 (Nat.lt_trans d2 d3))
        · exact (hoff q h).2.2.2
      refine SX.expr (WE.bmeth (id := "list.append") (Ex.name hm.2.1) (fun pl => Rd.append (vs := vs) (n := n1) (by first | ((repeat (first | exact List.Mem.head _ | refine List.mem_cons_of_mem _ ?_ | refine List.mem_append_right _ ?_)); done) | simp) pl) (Ex.nameI hnode) fun v hv3 => ?_)
      obtain ⟨t3, rfl⟩ := hv3
      refine Wx.append (D := aS) (l := vs) (n := n1) (r := (aD, oD') :: (aI, listOf (refs fs ++ [Value.ref wr]).toArray (n2 + 1)) :: (wr, LI.wrap it) :: (it, { cls := .type "list_iterator", data := .fields #[.ref (z.SU p), .int 0 0] }) :: (aE, oE') :: T) (fun q hq => ?_) (fun q hq => ?_) (by omega) ⟨rfl, SX.nil ⟨rfl, hm, ⟨p, 0, it, wr, { cls := .type "list_iterator", data := .fields #[.ref (z.SU p), .int 0 0] }⟩ :: fs, fun j => S j || decide (j = (p : Int)), ?_, ?_⟩⟩
      · repeat (first | (rcases List.mem_cons.mp hq with h | hq; focus (repeat (first | exact h | exact memH h | exact List.mem_append_left _ h | refine List.mem_cons_of_mem _ ?_ | refine List.mem_append_right _ ?_))) | (rcases List.mem_append.mp hq with h | hq; focus (repeat (first | exact h | exact memH h | exact List.mem_append_left _ h | refine List.mem_cons_of_mem _ ?_ | refine List.mem_append_right _ ?_))) | (focus (repeat (first | exact hq | exact memH hq | exact List.mem_append_left _ hq | refine List.mem_cons_of_mem _ ?_ | refine List.mem_append_right _ ?_))) | exact absurd hq List.not_mem_nil)
      · rcases List.mem_cons.mp hq with rfl | hq
        rotate_left 1
        rcases List.mem_cons.mp hq with rfl | hq
        rotate_right 1
        rotate_left 2
        rcases List.mem_cons.mp hq with rfl | hq
        rotate_right 2
        rotate_left 3
        rcases List.mem_cons.mp hq with rfl | hq
        rotate_right 3
        rotate_left 4
        rcases List.mem_cons.mp hq with rfl | h
        rotate_right 4
        · exact Nat.ne_of_gt (Nat.lt_trans d1 (Nat.lt_trans d2 d3))
        · exact Nat.ne_of_gt d1
        · exact Nat.ne_of_gt (Nat.lt_trans i2 iw)
        · exact Nat.ne_of_gt i2
        · exact Nat.ne_of_gt (Nat.lt_trans d1 d2)
        · exact (hoff q h).1
      · have hu := uns_add h g.n hp
        have hpk : (p : Int) ∉ kvs.map (·.1) := by
          rw [hk]
          intro hmem
          obtain ⟨q, hq, e⟩ := List.mem_map.mp hmem
          obtain ⟨f, hf', rfl⟩ := mem_nds hq
          have := hlt f hf'
          omega
        rw [h] at hE'
        refine ⟨vs ++ [Value.int (p : Int) t3], n1 + 1, n2 + 1, oE', nn + 1, oD', _, fun q hq => ?_, ?_, hE', by omega, hD', ?_, ⟨hp, ⟨rfl, rfl⟩, Nat.zero_le _, fun a ha => ?_, fun q hq => i5 q (by rw [← hT]; (first | ((repeat (first | exact hq | exact memH hq | exact List.mem_append_left _ hq | refine List.mem_cons_of_mem _ ?_ | refine List.mem_append_right _ ?_)); done) | simp [hq])), iw, hlt⟩, hf⟩
        · rw [refs_cons] at hq
          simp only [fled, List.cons_append] at hq
          have hq : q ∈ (aS, listOf (vs ++ [Value.int (p : Int) t3]).toArray (n1 + 1)) :: (aI, listOf (refs fs ++ [Value.ref wr]).toArray (n2 + 1)) :: (aE, oE') :: (aD, oD') :: (It, oI) :: (wr, LI.wrap it) :: (it, { cls := .type "list_iterator", data := .fields #[.ref (z.SU p), .int 0 0] }) :: (fled fs ++ base) := hq
          rw [← hT]
          repeat (first | (rcases List.mem_cons.mp hq with h | hq; focus (repeat (first | exact h | exact memH h | exact List.mem_append_left _ h | refine List.mem_cons_of_mem _ ?_ | refine List.mem_append_right _ ?_))) | (rcases List.mem_append.mp hq with h | hq; focus (repeat (first | exact h | exact memH h | exact List.mem_append_left _ h | refine List.mem_cons_of_mem _ ?_ | refine List.mem_append_right _ ?_))) | (focus (repeat (first | exact hq | exact memH hq | exact List.mem_append_left _ hq | refine List.mem_cons_of_mem _ ?_ | refine List.mem_append_right _ ?_))) | exact absurd hq List.not_mem_nil)
        · rw [nds_cons]; exact hv.app p t3
        · rw [keys_stored hpk, hk, nds_cons, List.map_append]; rfl
        · simp only [List.mem_cons, List.map_cons, List.map_nil, List.not_mem_nil, or_false] at ha
          rcases ha with h | h | h | h | h
          · rw [h]; exact i2
          · rw [h]; exact i3
          · rw [h]; exact i1
          · rw [h]; exact i4
          · rw [h]; exact i5 (It, oI) (by rw [← hT]; simp)
      · have hu := uns_add h g.n hp
        have hs1 := (hs p hp).1
        have er : rem g (⟨p, 0, it, wr, { cls := .type "list_iterator", data := .fields #[.ref (z.SU p), .int 0 0] }⟩ :: fs) = (g.su p).length - 0 + rem g fs := by simp [rem]
        rw [er]
        omega
    · clear hsub hv hE hnn hD hk hf hoff hlen
      rintro m' N' ⟨hm', fs', S', F', hμ'⟩
      refine SX.while_ (J := fun d m N => ∃ fs3, fs3.length = d ∧ Nm m z aS aI aE aD ∧ Fc w g z base aS aI aE aD [(It, oI)] fs3 S' N ∧ rem g fs3 ≤ rem g fs') _ ⟨fs', rfl, hm', F', Nat.le_refl _⟩ ?_
      rintro d m3 N3 ⟨fs3, rfl, hm3, F3, hr3⟩
      obtain ⟨vs3, k1, k2, oE3, nn3, oD3, kvs3, hsub3, hv3, hE3, hnn3, hD3, hk3, hf3⟩ := id F3
      have hoff3 := cw.off hf3
      have hl3 : fs3.length ≤ g.n := hf3.len g.n hf3.nd
      have hvl3 : vs3.length = fs3.length := by rw [hv3.len]; simp [nds]
      refine ⟨!vs3.isEmpty, Tst.list (Ex.name hm3.2.1) (hsub3 _ (List.mem_cons_self ..)) (by omega), fun h => ?_, fun h => ?_⟩
      · cases fs3 with
        | nil => cases vs3 with
          | nil => cases h
          | cons a b => cases hvl3
        | cons f r =>
          refine SX.abs fun C3 hC3 => ?_
          have hf1 := hf3.1
          obtain ⟨vsS, mS, hSU, hvS⟩ := G.su f.nd hf1.1
          rw [refs_cons] at hsub3
          have hsub4 : ∀ q ∈ (aS, listOf vs3.toArray k1) :: (aI, listOf (refs r ++ [Value.ref f.wr]).toArray k2) :: (aE, oE3) :: (aD, oD3) :: (It, oI) :: (f.wr, LI.wrap f.it) :: (f.it, f.o) :: (fled r ++ base), q ∈ N3 := hsub3
          have offI : ∀ q ∈ (aS, listOf vs3.toArray k1) :: (aI, listOf (refs r ++ [Value.ref f.wr]).toArray k2) :: (aE, oE3) :: (aD, oD3) :: (It, oI) :: (f.wr, LI.wrap f.it) :: (fled r ++ base), q.1 ≠ f.it := fun q hq => by
            have hlow := hf1.2.2.2.1
            simp only [List.mem_cons, List.mem_append] at hq
            rcases hq with rfl | rfl | rfl | rfl | rfl | rfl | hq | hq
            · exact Nat.ne_of_lt (hlow _ (by first | ((repeat (first | exact List.Mem.head _ | refine List.mem_cons_of_mem _ ?_ | refine List.mem_append_right _ ?_)); done) | simp))
            · exact Nat.ne_of_lt (hlow _ (by first | ((repeat (first | exact List.Mem.head _ | refine List.mem_cons_of_mem _ ?_ | refine List.mem_append_right _ ?_)); done) | simp))
            · exact Nat.ne_of_lt (hlow _ (by first | ((repeat (first | exact List.Mem.head _ | refine List.mem_cons_of_mem _ ?_ | refine List.mem_append_right _ ?_)); done) | simp))
            · exact Nat.ne_of_lt (hlow _ (by first | ((repeat (first | exact List.Mem.head _ | refine List.mem_cons_of_mem _ ?_ | refine List.mem_append_right _ ?_)); done) | simp))
            · exact Nat.ne_of_lt (hlow _ (by first | ((repeat (first | exact List.Mem.head _ | refine List.mem_cons_of_mem _ ?_ | refine List.mem_append_right _ ?_)); done) | simp))
            · exact Nat.ne_of_gt hf1.2.2.2.2.2.1
            · exact Nat.ne_of_lt (hf1.2.2.2.2.1 q hq)
            · exact Nat.ne_of_lt (Nat.lt_trans (ltS q hq) (hlow aS (by first | ((repeat (first | exact List.Mem.head _ | refine List.mem_cons_of_mem _ ?_ | refine List.mem_append_right _ ?_)); done) | simp)))
          have hrl : (refs r).length ≤ 50 := by
            simp only [refs, List.length_map, List.length_reverse]
            simp only [List.length_cons] at hl3
            omega
          have subI : ∀ q ∈ (f.it, f.o) :: (aS, listOf vs3.toArray k1) :: (aI, listOf (refs r ++ [Value.ref f.wr]).toArray k2) :: (aE, oE3) :: (aD, oD3) :: (It, oI) :: (f.wr, LI.wrap f.it) :: (fled r ++ base), q ∈ N3 := fun q hq => hsub4 q (by
            repeat (first | (rcases List.mem_cons.mp hq with h | hq; focus (repeat (first | exact h | exact memH h | exact List.mem_append_left _ h | refine List.mem_cons_of_mem _ ?_ | refine List.mem_append_right _ ?_))) | (rcases List.mem_append.mp hq with h | hq; focus (repeat (first | exact h | exact memH h | exact List.mem_append_left _ h | refine List.mem_cons_of_mem _ ?_ | refine List.mem_append_right _ ?_))) | (focus (repeat (first | exact hq | exact memH hq | exact List.mem_append_left _ hq | refine List.mem_cons_of_mem _ ?_ | refine List.mem_append_right _ ?_))) | exact absurd hq List.not_mem_nil))
          by_cases hj : f.j < (g.su f.nd).length
          · have hjl : f.j < vsS.length := by rw [hvS.len]; exact hj
            obtain ⟨pk, tk, hpk, hval⟩ := hvS.get (List.getElem?_eq_getElem hjl)
            have hsp := (hs f.nd hf1.1).2 pk (List.mem_of_getElem? hpk)
            refine SX.try_ (SX.assignW (WE.nextItem (W := f.wr) (it := f.it) (o := f.o) (l := z.SU f.nd) (i := f.j) (items := vsS) (nl := mS) (Ex.last (l := refs r) (x := .ref f.wr) (n := k2) (Ex.name hm3.2.2.1) (hsub4 _ (List.mem_cons_of_mem _ (List.mem_cons_self ..))) (by omega)) subI offI (by first | ((repeat (first | exact List.Mem.head _ | refine List.mem_cons_of_mem _ ?_ | refine List.mem_append_right _ ?_)); done) | simp) (by simp [hled _ hSU]) hf1.2.1 (List.getElem?_eq_getElem hjl) fun o' ho' => SX.brk (hC3 _ _ _ (SX.nil (hC2 _ _ _ ?_)))))
            rw [hval]
            refine ⟨_, ?_, ⟨f.nd, f.j + 1, f.it, f.wr, o'⟩ :: r, S', pk, tk, rfl, hm3, ?_, hsp.2, fun f' hf' => ?_, rfl⟩
            · have e1 : rem g (⟨f.nd, f.j + 1, f.it, f.wr, o'⟩ :: r) = (g.su f.nd).length - (f.j + 1) + rem g r := by simp [rem]
              have e2 : rem g (f :: r) = (g.su f.nd).length - f.j + rem g r := by simp [rem]
              rw [e1]
              rw [e2] at hr3
              omega
            · refine ⟨vs3, k1, k2, oE3, nn3, oD3, kvs3, fun q hq => ?_, by rw [nds_cons] at hv3 ⊢; exact hv3, hE3, hnn3, hD3, by rw [nds_cons] at hk3 ⊢; exact hk3, ⟨hf1.1, ho', hj, hf1.2.2.2.1, hf1.2.2.2.2.1, hf1.2.2.2.2.2.1, hf1.2.2.2.2.2.2⟩, hf3.2⟩
              rw [refs_cons] at hq
              have hq : q ∈ (aS, listOf vs3.toArray k1) :: (aI, listOf (refs r ++ [Value.ref f.wr]).toArray k2) :: (aE, oE3) :: (aD, oD3) :: (It, oI) :: (f.wr, LI.wrap f.it) :: (f.it, o') :: (fled r ++ base) := hq
              repeat (first | (rcases List.mem_cons.mp hq with h | hq; focus (repeat (first | exact h | exact memH h | exact List.mem_append_left _ h | refine List.mem_cons_of_mem _ ?_ | refine List.mem_append_right _ ?_))) | (rcases List.mem_append.mp hq with h | hq; focus (repeat (first | exact h | exact memH h | exact List.mem_append_left _ h | refine List.mem_cons_of_mem _ ?_ | refine List.mem_append_right _ ?_))) | (focus (repeat (first | exact hq | exact memH hq | exact List.mem_append_left _ hq | refine List.mem_cons_of_mem _ ?_ | refine List.mem_append_right _ ?_))) | exact absurd hq List.not_mem_nil)
            · rcases List.mem_cons.mp hf' with rfl | hf'
              · exact hsp.1
              · exact Nat.lt_trans (hf1.2.2.2.2.2.2 f' hf') hsp.1
          · rw [nds_cons] at hv3
            obtain ⟨vs', t', rfl, hv'⟩ := AreN.snoc hv3
            have hnk : (f.nd : Int) ∉ (nds r).map (fun k : Nat => (k : Int)) := fun hmem => by
              obtain ⟨q, hq, e⟩ := List.mem_map.mp hmem
              obtain ⟨f', hf', rfl⟩ := mem_nds hq
              have := hf1.2.2.2.2.2.2 f' hf'
              omega
            have hk4 : kvs3.map (·.1) = (nds r).map (fun k : Nat => (k : Int)) ++ [(f.nd : Int)] := by rw [hk3, nds_cons, List.map_append]; rfl
            have hkl : kvs3.length ≤ 50 := by
              have := congrArg List.length hk3
              simp only [List.length_map, nds, List.length_reverse] at this
              omega
            have hvl' : vs'.length ≤ 50 := by
              simp only [List.length_append, List.length_singleton] at hvl3
              omega
            refine SX.tryEnd (W := f.wr) (it := f.it) (o := f.o) (l := z.SU f.nd) (i := f.j) (items := vsS) (nl := mS) Tu (Ex.last (l := refs r) (x := .ref f.wr) (n := k2) (Ex.name hm3.2.2.1) (hsub4 _ (List.mem_cons_of_mem _ (List.mem_cons_self ..))) (by omega)) subI offI (by first | ((repeat (first | exact List.Mem.head _ | refine List.mem_cons_of_mem _ ?_ | refine List.mem_append_right _ ?_)); done) | simp) (by simp [hled _ hSU]) hf1.2.1 (List.getElem?_eq_none (by rw [hvS.len]; omega)) (fun p' lo' mg' mb' => test_name (.inr ⟨by k_is, by boot_by_name, by decide⟩) (by first | rfl | decide +kernel) rfl rfl (by decide)) (fun e => ?_)
            refine WxM.pops (aS := aS) (aI := aI) (aD := aD) (l := vs') (ws := refs r) (p := (f.nd : Int)) (t := t') (y := .ref f.wr) (n1 := k1) (n2 := k2) (oD := oD3) (kvs := kvs3) (r := (aE, oE3) :: (It, oI) :: (fled r ++ base)) hm3.2.2.2.2 hm3.2.1 hm3.2.2.1 (fun q hq => ?_) (Nat.ne_of_lt d1) (Nat.ne_of_lt (Nat.lt_trans d1 (Nat.lt_trans d2 d3))) (Nat.ne_of_lt (Nat.lt_trans d2 d3)) (fun q hq => ?_) hD3 (key_some (by rw [hk4]; simp)) (by omega) (by omega) (by omega) fun oD' hD' => SX.nil (hC3 _ _ _ ⟨r.length, by simp, r, rfl, hm3, ⟨vs', k1 + 1, k2 + 1, oE3, nn3, oD', _, fun q hq => ?_, hv', hE3, hnn3, hD', keys_without hk4 hnk, hf3.2⟩, ?_⟩)
            · repeat (first | (rcases List.mem_cons.mp hq with h | hq; focus (repeat (first | exact h | exact memH h | exact List.mem_append_left _ h | refine List.mem_cons_of_mem _ ?_ | refine List.mem_append_right _ ?_))) | (rcases List.mem_append.mp hq with h | hq; focus (repeat (first | exact h | exact memH h | exact List.mem_append_left _ h | refine List.mem_cons_of_mem _ ?_ | refine List.mem_append_right _ ?_))) | (focus (repeat (first | exact hq | exact memH hq | exact List.mem_append_left _ hq | refine List.mem_cons_of_mem _ ?_ | refine List.mem_append_right _ ?_))) | exact absurd hq List.not_mem_nil)
            · have ho2 := cw.off hf3.2
              rcases List.mem_cons.mp hq with rfl | hq
              · exact ⟨Nat.ne_of_gt (Nat.lt_trans d1 d2), Nat.ne_of_gt d2, Nat.ne_of_lt d3⟩
              · have := ho2 q hq
                exact ⟨this.1, this.2.1, this.2.2.2⟩
            · have hq : q ∈ (aS, listOf vs'.toArray (k1 + 1)) :: (aI, listOf (refs r).toArray (k2 + 1)) :: (aE, oE3) :: (aD, oD') :: (It, oI) :: (fled r ++ base) := hq
              repeat (first | (rcases List.mem_cons.mp hq with h | hq; focus (repeat (first | exact h | exact memH h | exact List.mem_append_left _ h | refine List.mem_cons_of_mem _ ?_ | refine List.mem_append_right _ ?_))) | (rcases List.mem_append.mp hq with h | hq; focus (repeat (first | exact h | exact memH h | exact List.mem_append_left _ h | refine List.mem_cons_of_mem _ ?_ | refine List.mem_append_right _ ?_))) | (focus (repeat (first | exact hq | exact memH hq | exact List.mem_append_left _ hq | refine List.mem_cons_of_mem _ ?_ | refine List.mem_append_right _ ?_))) | exact absurd hq List.not_mem_nil)
            · have e2 : rem g (f :: r) = (g.su f.nd).length - f.j + rem g r := by simp [rem]
              rw [e2] at hr3
              omega
      · cases fs3 with
        | nil => exact SX.brk (hC2 _ _ _ (SX.nil (hC' _ _ _ (endT hm3 F3))))
        | cons f r => cases vs3 with
          | nil => cases hvl3
          | cons a b => cases h
  · rintro m₁ N₁ ⟨_, S, vs, n1, n2, oE, nn, oD, kvs, hsub, _⟩
    refine SX.ret (Ex.noneE.wx fun v hv => hC _ _ _ ⟨hv, fun p hp => hsub p ?_⟩)
    exact List.mem_cons_of_mem _ (List.mem_cons_of_mem _ (List.mem_cons_of_mem _ (List.mem_cons_of_mem _ hp)))

end Mine
end
section
open PySem PySem.W PyProof.Rows PySem.Calls
set_option maxRecDepth 100000
set_option maxHeartbeats 8000000
namespace Mine
set_option linter.unusedVariables false
section
variable {w : World} {dn : Nat} {b : Bs w dn} {k : Cd} {m : Map} {N : Led} {C : Flow → Map → Led → Prop} {rest : List Stmt} {en : Env}
-- names and tests of a block
theorem XE.blk {x : Str} {pos : Pos} {v : Value} {C₀ : Addr} {oC : Obj} {m₂ : Map} {scope : Scope} {cl : List (Str × Addr)} (hm : (C₀, oC) ∈ N) (hns : PyProof.Rows.LCg.NsObj oC m₂) (hv : m₂ x = some v) (hk : autoParam ((compEnvC scope cl C₀ en).scope.kind = .function) tRfl) (hx : autoParam ((compEnvC scope cl C₀ en).kindOf x = some .local) tRfl) (hd : autoParam ((x == ("__debug__" : Str)) = false) tDec) : XE b k (compEnvC scope cl C₀ en) m N (.Name x pos) (IsV v) :=
  fun s Q F N' hQ => wpAny_Name (wpAny_loadName_local hk hx (hns.ns (N' _ hm).1) hv (hQ v s.toks rfl)) hd
theorem Wx.testsNil {C : Bool → Map → Led → Prop} (h : C true m N) : Wx b k m N (testsOf [] en) C := fun s Q F N' hQ => wpAny_tests_nil (hQ true m N s.heap s.toks h F N')
theorem Wx.testsOne {c : Expr} {C : Bool → Map → Led → Prop} (h : Wx b k m N (isTrue c en (eval c en)) C) : Wx b k m N (testsOf [c] en) C := fun s Q F N' hQ => wpAny_tests_one (h s Q F N' hQ)
theorem SX.setAW {o e : Expr} {name : Str} {op pos : Pos} (he : WE b k m N e (fun v m' N' => ∃ ov, Ex b k m' N' o (IsV ov) ∧ Wx b k m' N' (setAttr ov name v) (fun _ m' N' => SX b k m' N' rest C))) (hs : autoParam (swapsWith e (some (.Attribute o name op)) pos.line (k.env b.L) = pure false) tRfl) :
    SX b k m N (.Assign [.Attribute o name op] e pos :: rest) C :=
  SX.cons (C' := C) fun s Q F N hQ => plainObj_wpAny_Assign_Attribute (he s _ F N fun v m' N' h' tk c F' N'' => by
    obtain ⟨ov, ho, hk⟩ := c
    exact ho _ _ F' N'' fun ov' tk2 p2 => by
      cases p2
      exact hk _ _ F' N'' fun _ m' N' h' tk c F' N'' => hQ .next m' N' h' tk c F' N'') hs
/-- d.values() of a dict with int keys -/
theorem WE.dvals {o : Expr} {ap pos : Pos} {d : Addr} {od : Obj} {kvs : List (Int × Value)} {C : Value → Map → Led → Prop} (ho : XE b k en m N o (IsV (.ref d))) (hm : (d, od) ∈ N) (hd : od.IsDictOf (intKind prog w) kvs) (lo : (d == sysModules) = false) (h : ∀ x, (∀ p ∈ N, p.1 < x) → C (.ref x) m ((x, { cls := .type "dict_values", data := .fields #[.ref d] }) :: N))
    (h1 : ∃ pl, eval (.Call (.Attribute o (Str.ofString "values") ap) [] [] pos) en = (do
      let ov ← eval o en
      standAt ap.atName
      let (f, first) ← holding [ov] (getMethod ov (Str.ofString "values") pl)
      callWith pos f first (backTo pos (starEach [] en)) []) := by exact ⟨_, rfl⟩) : WXE b k en m N (.Call (.Attribute o (Str.ofString "values") ap) [] [] pos) C := fun s Q F N' hQ => by
  obtain ⟨pl, h1⟩ := h1
  refine MethodCall_ (pl := pl) (ho s _ F N' fun ov tk p => ?_) h1
  cases p
  refine kob_method (knd := PySem.intKind _ _) PySem.F.slot_dict_values PySem.F.type_dict_values N' hm hd ?_
  refine callWith_builtin rfl (evalArgs_nil3 ?_)
  have hD : s.heap.DictOf (intKind prog w) d kvs := kda_dict N' hm hd
  exact call_meetsIn PySem.F.slot_dict_values (s := { s with heap := s.heap, toks := _ }) hD.typeIs PySem.F.entry_dict_values (PySem.F.args_dict_values_1 _) (meets_dict_values (PySem.intKind prog w) d lo) ⟨⟨kvs, hD⟩, hQ _ m _ _ _ (h _ fun p hp => Heap.lt_size (N' p hp).1) (F.of (F.fr.push _)) (News.push F.fr N' _ rfl)⟩
end
theorem Gs.setNew {w : World} {g : St} {z : Wires} {led : Led} (G : Gs w g z led) (hf : Fun led) (hr : g.rd = none) {D : Addr} {ys : List Value} {mD : Nat} {l : List Nat} {k1 k2 k3 k4 t3 t4 k1' k2' k3' k4' t3' t4' : Tok} (hm : (z.DS, sortO w k1 k2 k3 k4 z.N .none g.P g.F t3 t4) ∈ led) (hD : ∀ p ∈ led, p.1 ≠ D) (hv : AreN ys l) :
    Gs w { g with rd := some l } { z with RD := D } ((D, listOf ys.toArray mD) :: put led z.DS (sortO w k1' k2' k3' k4' z.N (.ref D) g.P g.F t3' t4')) where
  s := List.mem_cons_of_mem _ (put_keep hf hm G.s (by intro e; cases e))
  d := ⟨k1', k2', k3', k4', t3', t4', List.mem_cons_of_mem _ (List.mem_cons_self ..)⟩
  nn := by obtain ⟨o, h, ho⟩ := G.nn; exact ⟨o, List.mem_cons_of_mem _ (put_keep' h G.sn), ho⟩
  lo := G.lo
  sn := G.sn
  node := fun j hj => by obtain ⟨a, b, h⟩ := G.node j hj; exact ⟨a, b, List.mem_cons_of_mem _ (put_keep hf hm h (by intro e; cases e))⟩
  nd := fun j hj => List.mem_cons_of_mem _ (put_keep hf hm (G.nd j hj) sort_ne)
  dn := fun j hj => G.dn j hj
  su := fun j hj => by obtain ⟨vs, m, h, hv⟩ := G.su j hj; exact ⟨vs, m, List.mem_cons_of_mem _ (put_keep hf hm h dict_ne_lst.symm), hv⟩
  inj := fun j hj i hi => G.inj j hj i hi
  rd := fun l₂ hl₂ => by
    cases hl₂
    exact ⟨⟨ys, mD, List.mem_cons_self .., hv⟩, fun j hj => by
      obtain ⟨vs, m, h, _⟩ := G.su j hj
      exact fun e => hD _ h e.symm⟩
theorem Wx.setNew {w : World} {dn : Nat} {b : Bs w dn} {k : Cd} {m : Map} {N : Led} {g : St} {z : Wires} {led rl : Led} {D : Addr} {ys : List Value} {mD : Nat} {l : List Nat} {C : Unit → Map → Led → Prop} (G : Gs w g z led) (hr : g.rd = none) (ap : Apart led ((D, listOf ys.toArray mD) :: rl)) (hD : ∀ r ∈ rl, D ≠ r.1) (hs : ∀ p ∈ led ++ (D, listOf ys.toArray mD) :: rl, p ∈ N) (hv : AreN ys l) (h : ∀ led', Apart led' rl → Gs w { g with rd := some l } { z with RD := D } led' → C () m (led' ++ rl)) :
    Wx b k m N (setAttr (.ref z.S) (Str.ofString "_ready_nodes") (.ref D)) C := fun s Q F N' hQ => by
  obtain ⟨k1, k2, k3, k4, t3, t4, hm⟩ := G.d
  have hrv : g.rv z = .none := by simp only [St.rv, hr]
  rw [hrv] at hm
  have hf : Fun led := fun_of N' fun p hp => hs p (List.mem_append_left _ hp)
  have I := InstAt.of_news N' (hs _ (List.mem_append_left _ G.s)) (hs _ (List.mem_append_left _ hm))
  refine' set_dict (C := 137) F.fr F.amb.inK (News.sub N' (put_subR hm hs)) I rfl ?k6 ?k7 ?k8 ?k9 ?k10 ?k11 (put_upd hm ap) ?k13 ?_
  case k6 => k_is
  case k7 => k_is
  case k8 => k_is
  case k9 => k_is
  case k10 => exact rfl
  case k11 => exact rfl
  case k13 => exact Nat.le_of_ble_eq_true rfl
  intro h' F' N''
  have G' := G.setNew hf hr (ys := ys) (mD := mD) hm (fun p hp e => ap p hp _ (List.mem_cons_self ..) e) hv (k1' := k1) (k2' := k2) (k3' := k3) (k4' := k4) (t3' := t3) (t4' := t4)
  refine hQ () m _ h' _ (h _ (fun p hp r hr => ?_) G') (F.of F') (News.sub N'' fun p hp => ?_)
  · rcases List.mem_cons.mp hp with rfl | hp
    · exact hD r hr
    · exact put_apart hm (apart_tail ap) p hp r hr
  · simp only [List.cons_append, List.mem_cons] at hp
    rcases hp with rfl | hp
    · simp
    · rcases List.mem_append.mp hp with hp | hp
      · exact List.mem_append_left _ hp
      · exact List.mem_append_right _ (List.mem_cons_of_mem _ hp)

end Mine
end
section
open PySem PySem.W PyProof.Rows PySem.Calls
set_option maxRecDepth 100000
set_option maxHeartbeats 8000000
namespace Mine
set_option linter.unusedVariables false
theorem Tst.noneV {w : World} {dn : Nat} {b : Bs w dn} {k : Cd} {m : Map} {N : Led} {e : Expr} (h : Ex b k m N e (IsV .none)) (he : autoParam (isTrue e (k.env b.L) (eval e (k.env b.L)) = (do let v ← eval e (k.env b.L); standAt e.pos; holding [v] (truthy v))) tRfl) : Tst b k m N e false :=
  Tst.val h (fun v hv s Q F N' hQ => by cases hv; exact fun _ _ _ => hQ false s.toks rfl) he
theorem filt_next {p : Nat → Bool} (i : Nat) : (List.range (i + 1)).filter p = (List.range i).filter p ++ (if p i then [i] else []) := by
  rw [List.range_succ, List.filter_append]
  cases h : p i <;> simp [h]
def St.prepS (g : St) : St := { g with rd := some ((List.range g.n).filter fun k => g.np k == 0) }
theorem prep_spec (w : World) (g : St) (z : Wires) (led rl : Led) (G : Gs w g z led) (ap : Apart led rl) (hr : g.rd = none) (hn : g.n ≤ 50) (hs : ∀ j, j < g.n → (g.su j).length ≤ 50 ∧ ∀ p ∈ g.su j, j < p ∧ p < g.n) :
  SpecT w 92 2 [.ref z.S] (led ++ rl) (fun r n' => r = .none ∧ ∃ D led', (∀ p ∈ led' ++ rl, p ∈ n') ∧ Apart led' rl ∧ Gs w g.prepS { z with RD := D } led') := by
  k_dflt (refine' enterT (binds := [(Str.ofString "self", .ref z.S)]) ?k6 ?k7 ?k9 ?kB ?c2 ?c3 ?c4 ?c5 ?_; (case k6 => k_is); (case k7 => k_is); (case k9 => exact fun _ _ => BindsTo.of_eq rfl); (case c5 => decide); (case kB => exact locs rfl); (case c2 => exact rfl); (case c3 => exact rfl); (case c4 => exact rfl); k_whole)
  intro b Tu

  have hled : ∀ p ∈ led, p ∈ led ++ rl := fun p hp => List.mem_append_left _ hp
  refine SX.abs fun C hC => ?_
  refine SX.if_ (Tst.isNotNone (Ex.sReady G (Ex.name rfl) hled) Ex.noneE) (fun h => ?_) (fun _ => SX.nil ?_)
  · simp only [St.rv, hr] at h; cases h
  obtain ⟨oN, hNm, hNd⟩ := G.nn
  have hkl : (kvsOf g.n z.I).length = g.n := by simp [kvsOf]
  refine SX.setAW (WXE.comp1 (n := (kvsOf g.n z.I).length) (P := fun i v => ∃ c, (kvsOf g.n z.I)[i]? = some (c, v)) (objs := [(z.N, oN)]) (fun i ys N₁ => ∃ x, (∀ p ∈ led ++ rl, p.1 < x) ∧ N₁ = (x, { cls := .type "dict_values", data := .fields #[.ref z.N] }) :: (led ++ rl) ∧ AreN ys ((List.range i).filter fun k => g.np k == 0))
    (WE.dvals (Ex.sInfo G (Ex.name rfl) hled) (hled _ hNm) hNd G.lo fun x hx => ⟨rfl, Srcs.dictVals (List.mem_cons_self ..) rfl (List.mem_cons_of_mem _ (hled _ hNm)) hNd, x, hx, rfl, trivial⟩) ?_ (by omega) ?_ ?_)
  · rintro i ys N₁ ⟨x, hx, rfl, _⟩ p hp
    rw [List.mem_singleton.mp hp]
    exact List.mem_cons_of_mem _ (hled _ hNm)
  · rintro i v ys N₁ X C₀ oC m₂ hi ⟨c, hc⟩ ⟨x, hx, rfl, hy⟩ hX hns hv hap
    have hc2 : v = .ref (z.I i) := by
      have := kvs_at hc
      unfold kvsOf at hc
      rw [List.getElem?_map, List.getElem?_range this.2] at hc
      cases hc; rfl
    subst hc2
    have hi' : i < g.n := by rw [← hkl]; exact hi
    have hsub : ∀ p ∈ led, p ∈ X ++ (x, { cls := .type "dict_values", data := .fields #[.ref z.N] }) :: (led ++ rl) := fun p hp => List.mem_append_right _ (List.mem_cons_of_mem _ (hled p hp))
    have hX' : (C₀, oC) ∈ X ++ (x, { cls := .type "dict_values", data := .fields #[.ref z.N] }) :: (led ++ rl) := List.mem_append_left _ hX
    have hnx := filt_next (p := fun k => g.np k == 0) i
    refine Wx.testsOne (Rd.wx (Tst.eqI (Ex.nNp G hi' (XE.blk hX' hns hv) hsub) Ex.lit) fun ok hok => ?_)
    cases h0 : (g.np i == (0 : Int)) with
    | true =>
      rw [h0] at hok
      subst hok
      rw [if_pos rfl]
      refine (Ex.nNode G hi' (XE.blk hX' hns hv) hsub).wx fun y hy' => ⟨rfl, _, fun p hp => hp, hap, x, hx, rfl, ?_⟩
      obtain ⟨t, rfl⟩ := hy'
      rw [hnx, if_pos h0]
      exact hy.app i t
    | false =>
      rw [h0] at hok
      subst hok
      rw [if_neg (by decide)]
      refine ⟨rfl, _, fun p hp => hp, hap, x, hx, rfl, ?_⟩
      rw [hnx, if_neg (by rw [h0]; decide), List.append_nil]
      exact hy
  · rintro D ys N₁ ⟨x, hx, rfl, hy⟩ hD
    rw [hkl] at hy
    have hDl : ∀ p ∈ led ++ rl, p.1 ≠ D := fun p hp => hD p (List.mem_cons_of_mem _ hp)
    refine ⟨.ref z.S, Ex.name rfl, Wx.setNew (ys := ys) (mD := ys.length) (rl := rl) G hr (apart_cons ap fun p hp => hDl p (List.mem_append_left _ hp)) (fun r hr' e => hDl r (List.mem_append_right _ hr') e.symm) (fun p hp => ?_) hy fun led' ap' G' => ?_⟩
    · rcases List.mem_append.mp hp with hp | hp
      · exact List.mem_cons_of_mem _ (List.mem_cons_of_mem _ (List.mem_append_left _ hp))
      · rcases List.mem_cons.mp hp with rfl | hp
        · exact List.mem_cons_self ..
        · exact List.mem_cons_of_mem _ (List.mem_cons_of_mem _ (List.mem_append_right _ hp))
    obtain ⟨k1, k2, k3, k4, t3, t4, hd⟩ := G'.d
    refine SX.assignW (WE.meth0 (Ex.name rfl) (List.mem_append_left _ G'.s) (List.mem_append_left _ hd) (by k_is) (by k_is) (by k_is) rfl (by k_is) (Wx.specT Tu (cyc_spec w g.prepS { z with RD := D } led' rl G' hn hs) fun r n' hrn => ?_))
    obtain ⟨rfl, hsub⟩ := hrn
    exact SX.if_ (Tst.noneV (Ex.name rfl)) (fun h => by cases h) (fun _ => SX.nil (SX.nil (hC _ _ _ ⟨rfl, D, led', hsub, ap', G'⟩)))

end Mine
end
section
open PySem PySem.W PyProof.Rows PySem.Calls
set_option maxRecDepth 100000
set_option maxHeartbeats 8000000
set_option linter.unusedVariables false
namespace Mine
section
variable {w : World} {dn : Nat} {b : Bs w dn} {k : Cd} {m : Map} {N : Led} {rest : List Stmt} {en : Env}
abbrev WT (b : Bs w dn) (k : Cd) (en : Env) (m : Map) (N : Led) (e : Expr) (C : Bool → Map → Led → Prop) : Prop := Wx b k m N (isTrue e en (eval e en)) C
theorem Bs.units (b : Bs w dn) (k : Cd) : (b.A k).units < cLine := units_lt (dn := dn) b.hun
theorem SX.whileW {C : Flow → Map → Led → Prop} {test : Expr} {body orelse : List Stmt} {pos : Pos} (J : Nat → Map → Led → Prop) (i₀ : Nat) (hj : J i₀ m N)
    (turn : ∀ i m₁ N₁, J i m₁ N₁ → WT b k (k.env b.L) m₁ N₁ test (fun c m₂ N₂ => (c = true → SX b k m₂ N₂ body (fun f m' N' => match f with
      | .ret v => C (.ret v) m' N'
      | .brk => SX b k m' N' rest C
      | _ => ∃ i', i' < i ∧ J i' m' N')) ∧ (c = false → SX b k m₂ N₂ orelse (Cn b k rest C)))) : SX b k m N (.While test body orelse pos :: rest) C := by
  refine SX.cons (C' := C) fun s Q F N' hQ => wpAny_While ?_
  refine codeAny_whileLoop (fun n s' => ∃ h' tk m₁ N₁, ∃ F : FrB b h' m₁, s' = { s with heap := h', toks := tk } ∧ News F.g b.L h' N₁ ∧ J n m₁ N₁) (fun n s' hI => ?_) i₀ ⟨_, _, m, N, F, rfl, N', hj⟩
  obtain ⟨h', tk, m₁, N₁, F₁, rfl, NN₁, hJ⟩ := hI
  refine wpAny_mono (turn n m₁ N₁ hJ { s with heap := h', toks := tk } (fun v s₂ => ∃ h₂ tk₂ m₂ N₂, ∃ F : FrB b h₂ m₂, s₂ = { s with heap := h₂, toks := tk₂ } ∧ News F.g b.L h₂ N₂ ∧ (v = true → SX b k m₂ N₂ body (fun f m' N' => match f with
      | .ret v => C (.ret v) m' N'
      | .brk => SX b k m' N' rest C
      | _ => ∃ i', i' < n ∧ J i' m' N')) ∧ (v = false → SX b k m₂ N₂ orelse (Cn b k rest C))) F₁ NN₁ fun v m₂ N₂ h₂ tk₂ c F₂ NN₂ => ⟨h₂, tk₂, m₂, N₂, F₂, rfl, NN₂, c⟩) (fun v s₂ hv => ?_) fun _ _ x => x.elim
  obtain ⟨h₂, tk₂, m₂, N₂, F₂, rfl, NN₂, c1, c2⟩ := hv
  cases v with
  | true =>
    simp only [if_true]
    refine wpAny_mono (c1 rfl { s with heap := h₂, toks := tk₂ } (fun f s₃ => match f with
      | .ret v => Q (.ret v) s₃
      | .brk => Q .next s₃
      | _ => ∃ i', i' < n ∧ ∃ h₃ tk₃ m₂ N₂, ∃ F : FrB b h₃ m₂, s₃ = { s with heap := h₃, toks := tk₃ } ∧ News F.g b.L h₃ N₂ ∧ J i' m₂ N₂) F₂ NN₂ fun f m' N'' h'' tk'' c F'' N3 => ?_) (fun f s₃ x => ?_) fun _ _ x => x.elim
    · cases f with
      | ret v => exact hQ (.ret v) m' N'' h'' tk'' c F'' N3
      | brk => exact hQ .next m' N'' h'' tk'' c F'' N3
      | next => obtain ⟨i', hi, hj⟩ := c; exact ⟨i', hi, h'', tk'', m', N'', F'', rfl, N3, hj⟩
      | cont => obtain ⟨i', hi, hj⟩ := c; exact ⟨i', hi, h'', tk'', m', N'', F'', rfl, N3, hj⟩
    cases f with
    | ret v => exact x
    | brk => exact x
    | next => exact x
    | cont => exact x
  | false =>
    simp only [Bool.false_eq_true, if_false]
    refine wpAny_mono (c2 rfl { s with heap := h₂, toks := tk₂ } (fun f s₃ => Q f s₃) F₂ NN₂ fun f m' N'' h'' tk'' c F'' N3 => hQ f m' N'' h'' tk'' c F'' N3) (fun f s₃ x => x) fun _ _ x => x.elim
theorem WT.and {x : Expr} {r : List Expr} {pos : Pos} {C : Bool → Map → Led → Prop} (h : WT b k en m N x (fun c m' N' => (c = true → WT b k en m' N' (.BoolOp .And r pos) C) ∧ (c = false → C false m' N'))) : WT b k en m N (.BoolOp .And (x :: r) pos) C := fun s Q F N' hQ =>
  isTrue_and (h s _ F N' fun c m' N'' h' tk hc F' NN => by
    cases c with
    | true => exact hc.1 rfl _ Q F' NN fun v m2 N2 h2 tk2 c2 F2 NN2 => hQ v m2 N2 h2 tk2 c2 F2 NN2
    | false => exact hQ false m' N'' h' tk (hc.2 rfl) F' NN)
theorem WT.andNil {pos : Pos} {C : Bool → Map → Led → Prop} (h : C true m N) : WT b k en m N (.BoolOp .And [] pos) C := fun s Q F N' hQ => isTrue_and_nil (hQ true m N s.heap s.toks h F N')
theorem WT.or {x : Expr} {r : List Expr} {pos : Pos} {C : Bool → Map → Led → Prop} (h : WT b k en m N x (fun c m' N' => (c = false → WT b k en m' N' (.BoolOp .Or r pos) C) ∧ (c = true → C true m' N'))) : WT b k en m N (.BoolOp .Or (x :: r) pos) C := fun s Q F N' hQ =>
  isTrue_or (h s _ F N' fun c m' N'' h' tk hc F' NN => by
    cases c with
    | false => exact hc.1 rfl _ Q F' NN fun v m2 N2 h2 tk2 c2 F2 NN2 => hQ v m2 N2 h2 tk2 c2 F2 NN2
    | true => exact hQ true m' N'' h' tk (hc.2 rfl) F' NN)
theorem WT.orNil {pos : Pos} {C : Bool → Map → Led → Prop} (h : C false m N) : WT b k en m N (.BoolOp .Or [] pos) C := fun s Q F N' hQ => isTrue_or_nil (hQ false m N s.heap s.toks h F N')
theorem WT.of {e : Expr} {c : Bool} {C : Bool → Map → Led → Prop} (h : TE b k en m N e c) (hC : C c m N) : WT b k en m N e C := Rd.wx h fun v e => by subst e; exact hC
theorem WT.cmp {x y : Expr} {op : CmpOp} {pos : Pos} {va : Value} {C : Bool → Map → Led → Prop} (ha : XE b k en m N x (IsV va)) (hb : WXE b k en m N y (fun vb m' N' => ∃ c, Rd b k m' N' (compareOp op va vb) (IsV (.bool c)) ∧ C c m' N')) (hm : autoParam (behindInMarks op y = false) tUn) : WT b k en m N (.Compare x [op] [y] pos) C := fun s Q F N' hQ =>
  wpAny_isTrue_Compare1 (ha s _ F N' fun va' tk pa => by
    cases pa
    exact hb _ _ F N' fun vb m' N'' h' tk2 hc F' NN => by
      obtain ⟨c, ho, hC⟩ := hc
      exact ho _ _ F' NN fun v tk3 p => by cases p; exact wpAny_truthy_bool (hQ c m' N'' h' tk3 hC F' NN)) hm
theorem WXE.cmp {x y : Expr} {op : CmpOp} {pos : Pos} {C : Value → Map → Led → Prop} (ha : WXE b k en m N x (fun va m' N' => WXE b k en m' N' y (fun vb m' N' => ∃ c, Rd b k m' N' (compareOp op va vb) (IsV (.bool c)) ∧ C (.bool c) m' N'))) (hm : autoParam (behindInMarks op y = false) tUn) : WXE b k en m N (.Compare x [op] [y] pos) C := fun s Q F N' hQ =>
  wpAny_Compare1 (ha s _ F N' fun va m1 N1 h1 tk1 hb F1 NN1 => hb _ _ F1 NN1 fun vb m' N'' h' tk2 hc F' NN => by
      obtain ⟨c, ho, hC⟩ := hc
      exact ho _ _ F' NN fun v tk3 p => by cases p; exact hQ _ m' N'' h' tk3 hC F' NN) hm
theorem WXE.and {x y : Expr} {r : List Expr} {pos : Pos} {C : Value → Map → Led → Prop} (h : WXE b k en m N x (fun v m' N' => ∃ c, v = .bool c ∧ (c = true → WXE b k en m' N' (.BoolOp .And (y :: r) pos) C) ∧ (c = false → C (.bool false) m' N'))) : WXE b k en m N (.BoolOp .And (x :: y :: r) pos) C := fun s Q F N' hQ =>
  BoolOp_and (h s _ F N' fun v m' N'' h' tk hc F' NN => by
    obtain ⟨c, rfl, h1, h2⟩ := hc
    refine wpAny_truthy_bool ?_
    cases c with
    | true => exact h1 rfl _ Q F' NN fun v m2 N2 h2 tk2 c2 F2 NN2 => hQ v m2 N2 h2 tk2 c2 F2 NN2
    | false => exact hQ _ m' N'' h' tk (h2 rfl) F' NN)
theorem WXE.boolLast {op : BoolOp} {x : Expr} {pos : Pos} {C : Value → Map → Led → Prop} (h : WXE b k en m N x C) : WXE b k en m N (.BoolOp op [x] pos) C := fun s Q F N' hQ => h s Q F N' hQ
theorem WXE.addL {x y : Expr} {pos : Pos} {a : Addr} {vs : List Value} {n : Nat} {C : Value → Map → Led → Prop} (ha : XE b k en m N x (IsV (.ref a))) (hb : WXE b k en m N y (fun vb m' N' => ∃ c ws n2, vb = .ref c ∧ (a, listOf vs.toArray n) ∈ N' ∧ (c, listOf ws.toArray n2) ∈ N' ∧ vs.length + ws.length ≤ 1000 ∧ ∀ D, (∀ p ∈ N', p.1 < D) → C (.ref D) m' ((D, listOf (vs ++ ws).toArray 0) :: N'))) : WXE b k en m N (.BinOp x .Add y pos) C := fun s Q F N' hQ =>
  wpAny_BinOp (ha s _ F N' fun va tk pa => by
    cases pa
    exact hb _ _ F N' fun vb m' N'' h' tk2 hc F' NN => by
      obtain ⟨c, ws, n2, rfl, hm1, hm2, hz, hC⟩ := hc
      exact add_lists F'.fr NN ⟨_, (NN _ hm1).1, rfl, n, rfl⟩ ⟨_, (NN _ hm2).1, rfl, n2, rfl⟩ (fun h2 F2 NN2 => hQ _ m' _ h2 _ (hC _ fun p hp => Heap.lt_size (NN p hp).1) (F'.of F2) NN2) (by rw [sizeLine_eq]; omega))
theorem WXE.tup0 {u : Nat} {pos : Pos} {C : Value → Map → Led → Prop} (h : ∀ T, (∀ p ∈ N, p.1 < T) → C (.ref T) m ((T, tupO []) :: N)) : WXE b k en m N (.Tuple [] u pos) C := fun s Q F N' hQ =>
  Tuple_ (args_nil (newTuple_N F.fr N' (fun h' F1 N1 => hQ _ m _ h' _ (h _ fun p hp => Heap.lt_size (N' p hp).1) (F.of F1) N1) (by show 0 ≤ sizeLine; omega)))
theorem Rd.neNil {a c : Addr} {vs : List Value} {n n2 : Nat} (ha : (a, listOf vs.toArray n) ∈ N) (hc : (c, listOf ([] : List Value).toArray n2) ∈ N) : Rd b k m N (compareOp .NotEq (.ref a) (.ref c)) (IsV (.bool (!vs.isEmpty))) := fun s Q F N' hQ => by
  have h1 : s.heap.IsList a vs.toArray := ⟨_, (N' _ ha).1, rfl, n, rfl⟩
  have h2 : s.heap.IsList c ([] : List Value).toArray := ⟨_, (N' _ hc).1, rfl, n2, rfl⟩
  cases vs with
  | nil => exact SeqAt.RcNeAt.lists (e := fun _ => true) h1 h2 rfl (b.units k) (fun j h => absurd h (Nat.not_lt_zero _)) _ _ _ _ (hQ _ s.toks rfl)
  | cons x xs => exact SeqAt.RcNeAt.lists_lengths h1 h2 (by simp) (b.units k) _ _ _ _ (hQ _ s.toks rfl)
theorem Rd.neTup0 {a c : Addr} {vs : List Value} (ha : (a, tupO vs) ∈ N) (hc : (c, tupO []) ∈ N) : Rd b k m N (compareOp .NotEq (.ref a) (.ref c)) (IsV (.bool (!vs.isEmpty))) := fun s Q F N' hQ => by
  have h1 : s.heap.IsTuple a vs.toArray := ⟨_, (N' _ ha).1, rfl, _, rfl⟩
  have h2 : s.heap.IsTuple c ([] : List Value).toArray := ⟨_, (N' _ hc).1, rfl, _, rfl⟩
  refine SeqAt.RcNeAt.tuples (e := fun _ => true) h1 h2 (b.units k) (fun j h h' => absurd h' (Nat.not_lt_zero _)) _ _ _ _ ?_
  have e : (!((List.range (min vs.toArray.size ([] : List Value).toArray.size)).all (fun _ => true) && vs.toArray.size == ([] : List Value).toArray.size)) = !vs.isEmpty := by cases vs <;> simp
  rw [e]
  exact hQ _ s.toks rfl
theorem Rd.eqTup0 {a c : Addr} {vs : List Value} (ha : (a, tupO vs) ∈ N) (hc : (c, tupO []) ∈ N) : Rd b k m N (compareOp .Eq (.ref a) (.ref c)) (IsV (.bool vs.isEmpty)) := fun s Q F N' hQ => by
  have h1 : s.heap.IsTuple a vs.toArray := ⟨_, (N' _ ha).1, rfl, _, rfl⟩
  have h2 : s.heap.IsTuple c ([] : List Value).toArray := ⟨_, (N' _ hc).1, rfl, _, rfl⟩
  refine SeqAt.eq_tupleAt (e := fun _ => true) h1 h2 (b.units k) (fun j h h' => absurd h' (Nat.not_lt_zero _)) ?_
  have e : ((List.range (min vs.toArray.size ([] : List Value).toArray.size)).all (fun _ => true) && vs.toArray.size == ([] : List Value).toArray.size) = vs.isEmpty := by cases vs <;> simp
  rw [e]
  exact hQ _ s.toks rfl
theorem Ex.typeOf1 {f e : Expr} {pos : Pos} {a : Addr} {o : Obj} {T : String} (hf : XE b k en m N f (IsV (.type "type"))) (ha : XE b k en m N e (IsV (.ref a))) (hm : (a, o) ∈ N) (hc : o.cls = .type T) (hn : autoParam ((Value.type T == Value.type "builtin_function_or_method") = false) tDec)
    (h1 : autoParam (eval (.Call f [e] [] pos) en = (do callWith pos (← eval f en) [] (backTo pos (starEach [e] en)) (backToKw pos (keywordEach [] en)))) tRfl)
    (he : autoParam (starEach [e] en = (false, eval e en) :: starEach [] en) tRfl) : XE b k en m N (.Call f [e] [] pos) (IsV (.type T)) := fun s Q F N' hQ =>
  Call_ (hf s _ F N' fun fv tk p => by
    cases p
    refine PyProof.Rows.callWith_type1 (Ars.one ha he pos _ _ F N' fun us tk2 p2 => ?_) he rfl
    obtain ⟨v, rfl, p3⟩ := p2
    cases p3
    exact kto_cont ⟨o, (N' _ hm).1, hc⟩ hn (hQ _ _ rfl)) h1
end
end Mine
end
section
open PySem PySem.W PyProof.Rows PySem.Calls
set_option maxRecDepth 100000
set_option maxHeartbeats 8000000
set_option linter.unusedVariables false
namespace Mine
section
variable {w : World} {dn : Nat} {b : Bs w dn} {k : Cd} {m : Map} {N : Led} {rest : List Stmt} {en : Env}
/-- arguments that may write -/
def WArs (b : Bs w dn) (k : Cd) (en : Env) (m : Map) (N : Led) (es : List Expr) (C : List Value → Map → Led → Prop) : Prop := ∀ pos : Pos, Wx b k m N (spliced (backTo pos (starEach es en))) C
theorem WArs.nil {C : List Value → Map → Led → Prop} (h : C [] m N) : WArs b k en m N [] C := fun pos s Q F N' hQ => args_nil (hQ [] m N s.heap s.toks h F N')
theorem WArs.cons {e : Expr} {es : List Expr} {C : List Value → Map → Led → Prop} (he : WXE b k en m N e (fun v m' N' => WArs b k en m' N' es (fun vs => C (v :: vs)))) (hp : autoParam (starEach (e :: es) en = (false, eval e en) :: starEach es en) tRfl) : WArs b k en m N (e :: es) C := fun pos s Q F N' hQ =>
  args_cons (he s _ F N' fun v m' N'' h' tk c F' NN => c pos _ _ F' NN fun us m2 N2 h2 tk2 c2 F2 NN2 => hQ _ m2 N2 h2 tk2 c2 F2 NN2) hp
theorem WXE.tupW {es : List Expr} {u : Nat} {pos : Pos} {C : Value → Map → Led → Prop} (h : WArs b k en m N es (fun vs m' N' => vs.length ≤ 1000 ∧ ∀ T, (∀ p ∈ N', p.1 < T) → C (.ref T) m' ((T, tupO vs) :: N'))) : WXE b k en m N (.Tuple es u pos) C := fun s Q F N' hQ =>
  Tuple_ (h _ _ _ F N' fun vs m' N'' h' tk c F' NN => newTuple_N F'.fr NN (fun h2 F2 NN2 => hQ _ m' _ h2 _ (c.2 _ fun p hp => Heap.lt_size (NN p hp).1) (F'.of F2) NN2) (by rw [sizeLine_eq]; have := c.1; omega))
theorem WXE.listW {es : List Expr} {pos : Pos} {C : Value → Map → Led → Prop} (h : WArs b k en m N es (fun vs m' N' => vs.length ≤ 1000 ∧ ∀ l, (∀ p ∈ N', p.1 < l) → C (.ref l) m' ((l, listOf vs.toArray 0) :: N'))) : WXE b k en m N (.List es pos) C := fun s Q F N' hQ =>
  List_ (h _ _ _ F N' fun vs m' N'' h' tk c F' NN => newList_K (s := { s with heap := h', toks := tk }) F'.fr NN (fun l h2 F2 NN2 hlt => hQ _ m' _ h2 tk (c.2 l hlt) (F'.of F2) NN2) (by rw [sizeLine_eq]; have := c.1; omega))
/-- names set in order -/
def setsv (m : Map) : List (Str × Value) → Map
  | [] => m
  | p :: r => setsv (setv m p.1 p.2) r
/-- writers that store these names -/
def Sto (b : Bs w dn) (k : Cd) : List (Value → Sem Unit) → List (Str × Value) → Prop
  | [], [] => True
  | t :: ts, p :: ps => ((∀ (v : Value) (s : Shared) (Q : Unit → Shared → Prop), wpAny (model prog w) (b.A k) (storeName (k.env b.L) p.1 v) Q (fun _ _ => False) s → wpAny (model prog w) (b.A k) (t v) Q (fun _ _ => False) s) ∧ (k.env b.L).kindOf p.1 = some .local) ∧ Sto b k ts ps
  | _, _ => False
theorem stores {ps : List (Str × Value)} : ∀ {m : Map} {s : Shared} {Q : Unit → Shared → Prop} {ts : List (Value → Sem Unit)} (F : FrB b s.heap m), News F.g b.L s.heap N → Sto b k ts ps → (∀ h' tk (F' : FrB b h' (setsv m ps)), News F'.g b.L h' N → Q () { s with heap := h', toks := tk }) →
      wpAny (model prog w) (b.A k) (assignInOrder ts (ps.map (·.2))) Q (fun _ _ => False) s := by
  induction ps with
  | nil => intro m s Q ts F NN ht hQ; cases ts with
    | nil => exact assignInOrder_nil (hQ s.heap s.toks F NN)
    | cons a c => exact ht.elim
  | cons p r ih =>
    intro m s Q ts F NN ht hQ
    cases ts with
    | nil => exact ht.elim
    | cons t ts =>
      refine assignInOrder_cons (ht.1.1 _ _ _ (wpAny_storeName_local ht.1.2 F.fr.ns (fun h' hn hs => ?_) (by show (k.scope.kind == .class || (k.scope.kind == .module && b.L != mainGlobals)) = false; rw [k.fn]; rfl)))
      exact ih (s := { s with heap := h', toks := _ }) (F.of (F.fr.set hn hs)) (NN.set hs) ht.2 (fun h2 tk F2 N2 => hQ h2 tk F2 N2)
theorem SX.unpackT {elts : List Expr} {u : Nat} {tp pos : Pos} {e : Expr} {C : Flow → Map → Led → Prop} (he : WE b k m N e (fun v m' N' => ∃ t ps, v = .ref t ∧ ((t, tupO (ps.map (·.2))) ∈ N' ∨ ∃ n, (t, listOf (ps.map (·.2)).toArray n) ∈ N') ∧ ps.length = (assignEach elts (k.env b.L)).length ∧ Sto b k ((assignEach elts (k.env b.L)).map (·.2)) ps ∧ SX b k (setsv m' ps) N' rest C))
    (hst : autoParam ((assignEach elts (k.env b.L)).findIdx? (·.1) = none) tRfl)
    (hs : autoParam (swapsWithSole [.Tuple elts u tp] e pos.line (k.env b.L) = pure false) tRfl) (hw : autoParam (swappedStores [.Tuple elts u tp] e (k.env b.L) = pure none) tRfl) : SX b k m N (.Assign [.Tuple elts u tp] e pos :: rest) C :=
  SX.cons (C' := C) fun s Q F N' hQ => Assign_Tuple (he s _ F N' fun v m' N'' h' tk c F' NN => by
    obtain ⟨t, ps, rfl, hm, hlen, hst', hk⟩ := c
    rcases hm with hm | ⟨n, hm⟩
    · exact unpackN_ (s := { s with heap := h', toks := tk }) (items := (ps.map (·.2)).toArray) F'.fr NN ⟨_, (NN _ hm).1, rfl, _, rfl⟩ rfl (by rw [List.size_toArray, List.length_map, hlen]) hst fun h₂ F₂ NN₂ => stores (b := b) (k := k) (s := { s with heap := h₂, toks := tk }) (F'.of F₂) NN₂ hst' fun h3 tk3 F3 N3 => hQ .next _ _ h3 tk3 hk F3 N3
    · exact kun_list (s := { s with heap := h', toks := tk }) (items := (ps.map (·.2)).toArray) F'.fr NN ⟨_, (NN _ hm).1, rfl, n, rfl⟩ rfl (by rw [List.size_toArray, List.length_map, hlen]) hst fun h₂ F₂ NN₂ => stores (b := b) (k := k) (s := { s with heap := h₂, toks := tk }) (F'.of F₂) NN₂ hst' fun h3 tk3 F3 N3 => hQ .next _ _ h3 tk3 hk F3 N3) hs hw
theorem SX.swapT {elts : List Expr} {u : Nat} {tp pos : Pos} {e : Expr} {names : List Str} {C : Flow → Map → Led → Prop} (he : WE b k m N e (fun v m' N' => ∃ t ps, v = .ref t ∧ (t, tupO ((ps.map (·.2)).reverse)) ∈ N' ∧ ps.length = names.length ∧ Sto b k (names.reverse.map fun n => bindName (k.env b.L) n) ps ∧ SX b k (setsv m' ps) N' rest C))
    (hs : autoParam (swapsWithSole [.Tuple elts u tp] e pos.line (k.env b.L) = pure false) tRfl) (hw : autoParam (swappedStores [.Tuple elts u tp] e (k.env b.L) = pure (some names)) tRfl) : SX b k m N (.Assign [.Tuple elts u tp] e pos :: rest) C :=
  SX.cons (C' := C) fun s Q F N' hQ => Assign_Tuple_swapped (he s _ F N' fun v m' N'' h' tk c F' NN => by
    obtain ⟨t, ps, rfl, hm, hlen, hst', hk⟩ := c
    refine unpackItemsN_ (s := { s with heap := h', toks := tk }) (items := ((ps.map (·.2)).reverse).toArray) F'.fr NN ⟨_, (NN _ hm).1, rfl, _, rfl⟩ rfl (by rw [List.size_toArray, List.length_reverse, List.length_map, hlen]) fun h₂ F₂ NN₂ => ?_
    have := stores (b := b) (k := k) (s := { s with heap := h₂, toks := tk }) (Q := fun _ s' => Q .next s') (F'.of F₂) NN₂ hst' fun h3 tk3 F3 N3 => hQ .next _ _ h3 tk3 hk F3 N3
    show wpAny _ _ (assignInOrder _ ((ps.map (·.2)).reverse.toArray.toList.reverse)) _ _ _
    rw [List.toList_toArray, List.reverse_reverse]
    exact this) hs hw
theorem WE.range {f e : Expr} {pos : Pos} {n : Int} {C : Value → Map → Led → Prop} (hf : XE b k en m N f (IsV (.type "range"))) (he : XE b k en m N e (IsI n)) (h : ∀ r t u v, (∀ p ∈ N, p.1 < r) → C (.ref r) m ((r, { cls := .type "range", data := .fields #[.int 0 t, .int n u, .int 1 v] }) :: N))
    (h1 : autoParam (eval (.Call f [e] [] pos) en = (do callWith pos (← eval f en) [] (backTo pos (starEach [e] en)) (backToKw pos (keywordEach [] en)))) tRfl)
    (hse : autoParam (starEach [e] en = (false, eval e en) :: starEach [] en) tRfl) : WXE b k en m N (.Call f [e] [] pos) C := fun s Q F N' hQ =>
  Call_ (hf s _ F N' fun fv tk p => by
    cases p
    refine PyProof.Rows.callWith_type1 (Ars.one he hse pos _ _ F N' fun us tk2 p2 => ?_) hse rfl
    obtain ⟨v, rfl, p3⟩ := p2
    obtain ⟨t, rfl⟩ := p3
    exact call_range_1 (hQ _ m _ _ _ (h _ _ _ _ fun p hp => Heap.lt_size (N' p hp).1) (F.of (F.fr.push _)) (News.push F.fr N' _ rfl))) h1
theorem Ex.item {o i : Expr} {pos : Pos} {a : Addr} {l : List Value} {n : Nat} {j : Nat} {x : Value} (ho : XE b k en m N o (IsV (.ref a))) (hi : XE b k en m N i (IsI (j : Int))) (hm : (a, listOf l.toArray n) ∈ N) (hx : l[j]? = some x) (hj : j < 2 ^ 62)
    (hsu : autoParam (∀ d key, subscripted i false (.ref d) key = operate [.ref d, key] (getItem (.ref d) key)) tIIUn) : XE b k en m N (.Subscript o i pos) (IsV x) := fun s Q F N' hQ =>
  Subscript_ (ho s _ F N' fun v tk p => by
    cases p
    exact hi _ _ F N' fun v tk2 p2 => by
      obtain ⟨t, rfl⟩ := p2
      have hL : s.heap.IsList a l.toArray := ⟨_, (N' _ hm).1, rfl, n, rfl⟩
      refine subTail (s := { s with heap := s.heap, toks := _ }) hL.typeIs slot_list_getitem.lookup ?_ (hsu _ _)
      exact wpAny_getItem_list (s := { s with heap := s.heap, toks := _ }) hL (by omega) (by omega) (by simpa using hx) (hQ _ _ rfl))
end
end Mine
end
section
open PySem PySem.W PyProof.Rows PySem.Calls
set_option linter.unusedVariables false
namespace Mine
theorem len_le_sub : ∀ {l₁ l₂ : List Nat}, l₁.Nodup → (∀ x ∈ l₁, x ∈ l₂) → l₁.length ≤ l₂.length := by
  intro l₁
  induction l₁ with
  | nil => intro l₂ _ _; exact Nat.zero_le _
  | cons a l ih =>
    intro l₂ hn hs
    obtain ⟨ha, hn⟩ := List.nodup_cons.mp hn
    have hm := hs a (List.mem_cons_self ..)
    have h1 := ih (l₂ := l₂.erase a) hn fun x hx => by
      have hne : x ≠ a := fun e => ha (e ▸ hx)
      exact (List.mem_erase_of_ne hne).mpr (hs x (List.mem_cons_of_mem _ hx))
    have h2 := List.length_erase_of_mem hm
    have h3 : 0 < l₂.length := List.length_pos_of_mem hm
    simp only [List.length_cons]
    omega
theorem len_le_range {l : List Nat} {n : Nat} (h : l.Nodup) (hl : ∀ x ∈ l, x < n) : l.length ≤ n := by
  have := len_le_sub (l₂ := List.range n) h fun x hx => List.mem_range.mpr (hl x hx)
  simpa using this
theorem perm_of {l₁ l₂ : List Nat} (h1 : l₁.Nodup) (h2 : l₂.Nodup) (h : ∀ x, x ∈ l₁ ↔ x ∈ l₂) : l₁.Perm l₂ := by
  refine List.perm_iff_count.mpr fun a => ?_
  rw [List.Nodup.count h1, List.Nodup.count h2]
  by_cases ha : a ∈ l₁
  · rw [if_pos ha, if_pos ((h a).mp ha)]
  · rw [if_neg ha, if_neg fun x => ha ((h a).mpr x)]
end Mine
end
section
open PySem PySem.W PyProof.Rows PySem.Calls
set_option linter.unusedVariables false
namespace Mine
structure Needs (needs : Nat → List Nat) : Prop where
  lt : ∀ k, k < 5 → ∀ j ∈ needs k, j < k
  nd : ∀ k, k < 5 → (needs k).Nodup
def gAdd (needs : Nat → List Nat) : Nat → St
  | 0 => St.zero
  | k + 1 => (needs k).foldl (fun g j => g.addAll k [j]) ((gAdd needs k).addAll k [])
def gIn (needs : Nat → List Nat) (k i : Nat) : St := ((needs k).take i).foldl (fun g j => g.addAll k [j]) ((gAdd needs k).addAll k [])
def sucOf (needs : Nat → List Nat) (n j : Nat) : List Nat := (List.range n).filter fun k => (needs k).contains j
def avail (needs : Nat → List Nat) (d : List Nat) : List Nat := (List.range 5).filter fun k => !d.contains k && (needs k).all d.contains
def ltP (names : Nat → Str) (a c : Nat) : Prop := (names a).cps.toList < (names c).cps.toList
def GreedyOk (names : Nat → Str) (needs : Nat → List Nat) (d : List Nat) : Prop := ∀ i (h : i < d.length), d[i] ∈ avail needs (d.take i) ∧ ∀ a ∈ avail needs (d.take i), a ≠ d[i] → ltP names d[i] a
theorem GreedyOk.snoc {names : Nat → Str} {needs : Nat → List Nat} {d : List Nat} {p : Nat} (h : GreedyOk names needs d) (hp : p ∈ avail needs d) (hm : ∀ a ∈ avail needs d, a ≠ p → ltP names p a) : GreedyOk names needs (d ++ [p]) := by
  intro i hi
  by_cases e : i < d.length
  · have e1 : (d ++ [p])[i] = d[i] := List.getElem_append_left e
    have e2 : (d ++ [p]).take i = d.take i := List.take_append_of_le_length (Nat.le_of_lt e)
    rw [e1, e2]
    exact h i e
  · simp only [List.length_append, List.length_singleton] at hi
    obtain rfl : i = d.length := by omega
    have e1 : (d ++ [p])[d.length] = p := by simp
    have e2 : (d ++ [p]).take d.length = d := by simp
    rw [e1, e2]
    exact ⟨hp, hm⟩
structure Inv (needs : Nat → List Nat) (g : St) (d H l : List Nat) : Prop where
  n : g.n = 5
  su : ∀ j, j < 5 → g.su j = sucOf needs 5 j
  rd : g.rd = some []
  F : g.F = d.length
  P : g.P = d.length + H.length + l.length
  nd : (d ++ (H ++ l)).Nodup
  lt : ∀ k ∈ d ++ (H ++ l), k < 5
  np1 : ∀ k ∈ H ++ l, g.np k = -1
  np2 : ∀ k, k < 5 → k ∉ d ++ (H ++ l) → g.np k = ((needs k).filter fun j => !d.contains j).length ∧ ((needs k).filter fun j => !d.contains j) ≠ []
  av : ∀ k ∈ d ++ (H ++ l), ∀ j ∈ needs k, j ∈ d
theorem sucOf_succ (needs : Nat → List Nat) (k j : Nat) : sucOf needs (k + 1) j = sucOf needs k j ++ (if j ∈ needs k then [k] else []) := by
  unfold sucOf
  rw [List.range_succ, List.filter_append]
  by_cases h : j ∈ needs k
  · simp [h]
  · simp [h]
structure AddAt (needs : Nat → List Nat) (k : Nat) (pre : List Nat) (g : St) : Prop where
  n : g.n = k + 1
  rd : g.rd = none
  F : g.F = 0
  P : g.P = 0
  su : ∀ j, g.su j = sucOf needs k j ++ (if j ∈ pre then [k] else [])
  np : ∀ j, j < k → g.np j = (needs j).length
  npk : g.np k = pre.length
theorem AddAt.step {needs : Nat → List Nat} {k q : Nat} {pre : List Nat} {g : St} (A : AddAt needs k pre g) (hq : q ∉ pre) (hqk : q < k) : AddAt needs k (pre ++ [q]) (g.addAll k [q]) := by
  have hg : g.grow k = g := by unfold St.grow; rw [if_pos (by rw [A.n]; omega)]
  have e : g.addAll k [q] = (g.setNp k (g.np k + 1)).addSu q k := by
    show ((g.grow k).setNp k ((g.grow k).np k + (([q] : List Nat).length : Int))).addSu q k = _
    rw [hg]; rfl
  rw [e]
  refine ⟨A.n, A.rd, A.F, A.P, fun j => ?_, fun j hj => ?_, ?_⟩
  · show upd g.su q (g.su q ++ [k]) j = _
    by_cases h : j = q
    · subst h
      rw [upd_eq, A.su]
      simp [hq]
    · rw [upd_ne h, A.su]
      simp [h]
  · show upd g.np k (g.np k + 1) j = _
    rw [upd_ne (by omega)]
    exact A.np j hj
  · show upd g.np k (g.np k + 1) k = _
    rw [upd_eq, A.npk, List.length_append, List.length_singleton]
    omega
theorem AddAt.many {needs : Nat → List Nat} {k : Nat} : ∀ (qs pre : List Nat) {g : St}, AddAt needs k pre g → (pre ++ qs).Nodup → (∀ q ∈ qs, q < k) → AddAt needs k (pre ++ qs) (qs.foldl (fun g j => g.addAll k [j]) g) := by
  intro qs
  induction qs with
  | nil => intro pre g A _ _; rw [List.append_nil]; exact A
  | cons q qs ih =>
    intro pre g A hn hl
    have e : pre ++ q :: qs = (pre ++ [q]) ++ qs := by simp
    rw [e] at hn ⊢
    refine ih (pre ++ [q]) (A.step (fun h => ?_) (hl q (List.mem_cons_self ..))) hn fun x hx => hl x (List.mem_cons_of_mem _ hx)
    have h1 := (List.nodup_append.mp hn).1
    have h2 := (List.nodup_append.mp h1).2.2 q h q (List.mem_singleton.mpr rfl)
    exact h2 rfl
theorem gAdd_all {needs : Nat → List Nat} (hN : Needs needs) : ∀ k, k ≤ 5 → ((gAdd needs k).n = k ∧ (gAdd needs k).rd = none ∧ (gAdd needs k).F = 0 ∧ (gAdd needs k).P = 0 ∧ (∀ j, (gAdd needs k).su j = sucOf needs k j) ∧ (∀ j, j < k → (gAdd needs k).np j = (needs j).length)) ∧ (k < 5 → AddAt needs k [] ((gAdd needs k).addAll k [])) := by
  intro k
  have first : ∀ k, k < 5 → ((gAdd needs k).n = k ∧ (gAdd needs k).rd = none ∧ (gAdd needs k).F = 0 ∧ (gAdd needs k).P = 0 ∧ (∀ j, (gAdd needs k).su j = sucOf needs k j) ∧ (∀ j, j < k → (gAdd needs k).np j = (needs j).length)) → AddAt needs k [] ((gAdd needs k).addAll k []) := by
    intro k hk ⟨h1, h2, h3, h4, h5, h6⟩
    have e : (gAdd needs k).grow k = { gAdd needs k with n := k + 1, np := upd (gAdd needs k).np k 0, su := upd (gAdd needs k).su k [] } := by
      unfold St.grow
      rw [if_neg (by rw [h1]; omega)]
    have hz : sucOf needs k k = [] := by
      unfold sucOf
      refine List.filter_eq_nil_iff.mpr fun a ha h => ?_
      have ha' : a < k := by simpa using ha
      have := hN.lt a (by omega) k (by simpa using h)
      omega
    show AddAt needs k [] (((gAdd needs k).grow k).setNp k (((gAdd needs k).grow k).np k + (([] : List Nat).length : Int)))
    rw [e]
    refine ⟨rfl, h2, h3, h4, fun j => ?_, fun j hj => ?_, ?_⟩
    · show upd (gAdd needs k).su k [] j = _
      by_cases h : j = k
      · subst h
        rw [upd_eq, hz]; rfl
      · rw [upd_ne h, h5]; simp
    · show upd (upd (gAdd needs k).np k 0) k _ j = _
      rw [upd_ne (by omega), upd_ne (by omega)]
      exact h6 j hj
    · show upd (upd (gAdd needs k).np k 0) k (upd (gAdd needs k).np k 0 k + _) k = _
      rw [upd_eq, upd_eq]; rfl
  induction k with
  | zero =>
    intro _
    have h0 : ((gAdd needs 0).n = 0 ∧ (gAdd needs 0).rd = none ∧ (gAdd needs 0).F = 0 ∧ (gAdd needs 0).P = 0 ∧ (∀ j, (gAdd needs 0).su j = sucOf needs 0 j) ∧ (∀ j, j < 0 → (gAdd needs 0).np j = (needs j).length)) := ⟨rfl, rfl, rfl, rfl, fun j => rfl, fun j h => absurd h (Nat.not_lt_zero _)⟩
    exact ⟨h0, fun h => first 0 h h0⟩
  | succ k ih =>
    intro hk
    have A := (ih (by omega)).2 (by omega)
    have A2 := A.many (needs k) [] (by rw [List.nil_append]; exact hN.nd k (by omega)) (hN.lt k (by omega))
    rw [List.nil_append] at A2
    have h1 : ((gAdd needs (k + 1)).n = k + 1 ∧ (gAdd needs (k + 1)).rd = none ∧ (gAdd needs (k + 1)).F = 0 ∧ (gAdd needs (k + 1)).P = 0 ∧ (∀ j, (gAdd needs (k + 1)).su j = sucOf needs (k + 1) j) ∧ (∀ j, j < k + 1 → (gAdd needs (k + 1)).np j = (needs j).length)) := by
      refine ⟨A2.n, A2.rd, A2.F, A2.P, fun j => (A2.su j).trans (sucOf_succ needs k j).symm, fun j hj => ?_⟩
      rcases Nat.lt_or_eq_of_le (Nat.le_of_lt_succ hj) with h | rfl
      · exact A2.np j h
      · exact A2.npk
    exact ⟨h1, fun h => first (k + 1) h h1⟩
theorem gAdd_ok {needs : Nat → List Nat} (hN : Needs needs) (k : Nat) (hk : k ≤ 5) : (gAdd needs k).n = k ∧ (gAdd needs k).rd = none ∧ (gAdd needs k).F = 0 ∧ (gAdd needs k).P = 0 ∧ (∀ j, (gAdd needs k).su j = sucOf needs k j) ∧ (∀ j, j < k → (gAdd needs k).np j = (needs j).length) := (gAdd_all hN k hk).1
theorem sucOf_len (needs : Nat → List Nat) (k j : Nat) : (sucOf needs k j).length ≤ k := by
  unfold sucOf
  exact Nat.le_trans (List.length_filter_le _ _) (by simp)
theorem gIn_ok {needs : Nat → List Nat} (hN : Needs needs) {k i : Nat} (hk : k < 5) (hi : i ≤ (needs k).length) : (gIn needs k i).n = k + 1 ∧ (gIn needs k i).rd = none ∧ (∀ j, ((gIn needs k i).su j).length ≤ 50) := by
  have A := (gAdd_all hN k (by omega)).2 hk
  have A2 := A.many ((needs k).take i) [] (by rw [List.nil_append]; exact (List.take_sublist i _).nodup (hN.nd k hk)) fun q hq => hN.lt k hk q (List.mem_of_mem_take hq)
  refine ⟨A2.n, A2.rd, fun j => ?_⟩
  show ((List.foldl (fun g j => g.addAll k [j]) ((gAdd needs k).addAll k []) ((needs k).take i)).su j).length ≤ 50
  rw [A2.su, List.length_append]
  have := sucOf_len needs k j
  split <;> simp <;> omega
end Mine
end
section
namespace Mine
/-- the way up: the smaller child into the hole, as long as there is one -/
def supC (lt : Nat → Nat → Bool) (l : List Nat) (pos : Nat) : Nat :=
  if 2 * pos + 2 < l.length && !lt (l.getD (2 * pos + 1) 0) (l.getD (2 * pos + 2) 0) then 2 * pos + 2 else 2 * pos + 1
def sup (lt : Nat → Nat → Bool) : Nat → List Nat → Nat → List Nat × Nat
  | 0, l, pos => (l, pos)
  | f + 1, l, pos => if 2 * pos + 1 < l.length then sup lt f (l.set pos (l.getD (supC lt l pos) 0)) (supC lt l pos) else (l, pos)
theorem sup_stop {lt : Nat → Nat → Bool} {l : List Nat} {pos : Nat} (f : Nat) (h : ¬ 2 * pos + 1 < l.length) : sup lt f l pos = (l, pos) := by
  cases f with
  | zero => rfl
  | succ f => rw [sup, if_neg h]
theorem sup_go {lt : Nat → Nat → Bool} {l : List Nat} {pos : Nat} {f : Nat} (hf : 0 < f) (h : 2 * pos + 1 < l.length) : sup lt f l pos = sup lt (f - 1) (l.set pos (l.getD (supC lt l pos) 0)) (supC lt l pos) := by
  cases f with
  | zero => exact absurd hf (Nat.lt_irrefl _)
  | succ f => rw [sup, if_pos h]; rfl
theorem supC_lt {lt : Nat → Nat → Bool} {l : List Nat} {pos : Nat} (h : 2 * pos + 1 < l.length) : supC lt l pos < l.length ∧ pos < supC lt l pos := by
  unfold supC
  split
  · rename_i q; simp only [Bool.and_eq_true, decide_eq_true_eq] at q; omega
  · omega
/-- a hole filled: the items are the same -/
theorem swap_perm (l : List Nat) (x p c : Nat) (hp : p < l.length) (hc : c < l.length) (hne : p ≠ c) : ((l.set p (l.getD c 0)).set c x).Perm (l.set p x) := by
  rw [List.perm_iff_count]
  intro a
  have e1 : l.getD c 0 = l[c] := by rw [List.getD_eq_getElem?_getD, List.getElem?_eq_getElem hc]; rfl
  rw [e1, List.count_set (by simpa using hc), List.count_set hp, List.count_set hp, List.getElem_set_ne (by omega)]
  have h1 : (if l[c] == a then 1 else 0) ≤ l.count a - (if l[p] == a then 1 else 0) + (if l[c] == a then 1 else 0) := Nat.le_add_left ..
  split <;> split <;> split <;> omega
end Mine
end
section
open PySem PySem.W PyProof.Rows PySem.Calls
set_option maxRecDepth 100000
set_option maxHeartbeats 8000000
namespace Mine

theorem sdown_stop (lt : Nat → Nat → Bool) (x : Nat) (f : Nat) (l : List Nat) : sdown lt x f l 0 = l.set 0 x := by cases f <;> simp [sdown]
theorem sdown_no {lt : Nat → Nat → Bool} {x : Nat} {f : Nat} {l : List Nat} {n : Nat} (h0 : 0 < n) (hf : n ≤ f) (h : lt x (l.getD ((n - 1) / 2) 0) = false) : sdown lt x f l n = l.set n x := by
  obtain ⟨f, rfl⟩ : ∃ f', f = f' + 1 := ⟨f - 1, by omega⟩
  rw [sdown, if_neg (by omega), h]; simp
theorem sdown_yes {lt : Nat → Nat → Bool} {x : Nat} {f : Nat} {l : List Nat} {n : Nat} (h0 : 0 < n) (hf : n ≤ f) (h : lt x (l.getD ((n - 1) / 2) 0) = true) :
    sdown lt x f l n = sdown lt x (f - 1) (l.set n (l.getD ((n - 1) / 2) 0)) ((n - 1) / 2) := by
  obtain ⟨f, rfl⟩ : ∃ f', f = f' + 1 := ⟨f - 1, by omega⟩
  rw [sdown, if_neg (by omega), h]; simp
theorem getD_mem_of {l : List Nat} {k : Nat} (h : k < l.length) : l.getD k 0 ∈ l := by
  rw [List.getD_eq_getElem?_getD, List.getElem?_eq_getElem h]; simp
theorem getD_ne {l : List Nat} (hn : l.Nodup) {i j : Nat} (hi : i < l.length) (hj : j < l.length) (h : i ≠ j) : l.getD i 0 ≠ l.getD j 0 := by
  rw [List.getD_eq_getElem?_getD, List.getElem?_eq_getElem hi, List.getD_eq_getElem?_getD, List.getElem?_eq_getElem hj]
  simp only [Option.getD_some]
  intro e
  exact h ((List.getElem_inj hn).mp e)
theorem half_is (n : Nat) (h : 0 < n) : ((n : Int) - 1).fdiv (2 ^ Int.toNat 1) = (((n - 1) / 2 : Nat) : Int) := by
  have : ((n : Int) - 1) = ((n - 1 : Nat) : Int) := by omega
  rw [this]
  show Int.fdiv _ 2 = _
  rw [Int.fdiv_eq_ediv_of_nonneg _ (by omega)]
  omega
/-- a place in a list that an int names -/
def AtIdx (k : Int) (l : List Value) (x : Value) : Prop := ∃ j : Nat, k = (j : Int) ∧ j < 2 ^ 62 ∧ l[j]? = some x
def SetIdx (k : Int) (l : List Value) (v : Value) (l' : List Value) : Prop := ∃ j : Nat, k = (j : Int) ∧ j < l.length ∧ j < 2 ^ 62 ∧ l.set j v = l'
theorem AtIdx.ref {l : List Addr} {j : Nat} (h : j < l.length) (hl : l.length ≤ 10) {k : Int} (e : k = (j : Int)) : AtIdx k (l.map Value.ref) (.ref (l.getD j 0)) := ⟨j, e, by omega, by simp [h]⟩
theorem SetIdx.ref {l : List Addr} {j : Nat} (h : j < l.length) (hl : l.length ≤ 10) {k : Int} (e : k = (j : Int)) (x : Addr) : SetIdx k (l.map Value.ref) (.ref x) ((l.set j x).map Value.ref) := ⟨j, e, by simpa using h, by omega, by simp⟩
/-- the loop's word -/
def SdJ (nm : Addr → Str) (H X : Addr) (its : List Addr) (nn pos : Nat) (ts : Tok) (rest : Led) (n : Nat) (m : Str → Option Value) (news : Led) : Prop :=
  ∃ (l : List Addr) (f : Nat) (t : Tok), n ≤ f ∧ n < l.length ∧ l.length = its.length ∧ sdown (ltN nm) X f l n = sdown (ltN nm) X 10 its pos ∧ (∀ j, j < n → l[j]? = its[j]?) ∧ n ≤ pos ∧
    m (Str.ofString "pos") = some (.int n t) ∧ m (Str.ofString "newitem") = some (.ref X) ∧ m (Str.ofString "startpos") = some (.int 0 ts) ∧ m (Str.ofString "heap") = some (.ref H) ∧
    news = (H, listOf (l.map Value.ref).toArray nn) :: rest
/-- what a turn asks, where the place is not the first -/
theorem sd_facts {nm : Addr → Str} {kk : Addr → Int} {H X : Addr} {its l : List Addr} {nn pos n : Nat} {rest : Led} (hpos : pos < its.length) (hlen : its.length ≤ 10) (hit : ∀ a ∈ its, IsItem rest a (nm a) (kk a)) (hnd : its.Nodup) (hnm : ∀ a ∈ its, ∀ b ∈ its, a ≠ b → nm a ≠ nm b)
    (hX : its.getD pos 0 = X) (h0 : 0 < n) (hn : n < l.length) (hl : l.length = its.length) (heq : ∀ j, j < n → l[j]? = its[j]?) (hnp : n ≤ pos) :
    ∃ P, l.getD ((n - 1) / 2) 0 = P ∧ AtIdx (((n : Int) - 1).fdiv (2 ^ Int.toNat 1)) (l.map Value.ref) (.ref P) ∧ nm X ≠ nm P ∧ SetIdx n (l.map Value.ref) (.ref P) ((l.set n P).map Value.ref) ∧
      IsItem ((H, listOf (l.map Value.ref).toArray nn) :: rest) X (nm X) (kk X) ∧ IsItem ((H, listOf (l.map Value.ref).toArray nn) :: rest) P (nm P) (kk P) := by
  have hpp : (n - 1) / 2 < n := by omega
  have hget : l.getD ((n - 1) / 2) 0 = its.getD ((n - 1) / 2) 0 := by rw [List.getD_eq_getElem?_getD, heq _ hpp, ← List.getD_eq_getElem?_getD]
  have hin : l.getD ((n - 1) / 2) 0 ∈ its := by rw [hget]; exact getD_mem_of (by omega)
  have hXin : X ∈ its := by rw [← hX]; exact getD_mem_of hpos
  have hdiff : X ≠ l.getD ((n - 1) / 2) 0 := by rw [hget, ← hX]; exact getD_ne hnd hpos (by omega) (by omega)
  exact ⟨_, rfl, AtIdx.ref (by omega) (by omega) (half_is n h0), hnm _ hXin _ hin hdiff, SetIdx.ref hn (by omega) rfl _, (hit _ hXin).tail, (hit _ hin).tail⟩
theorem sd_again {nm : Addr → Str} {H X P : Addr} {its l : List Addr} {nn pos n f : Nat} {ts t : Tok} {rest : Led} {m : Str → Option Value} (h0 : 0 < n) (hf : n ≤ f) (hn : n < l.length) (hl : l.length = its.length) (hsd : sdown (ltN nm) X f l n = sdown (ltN nm) X 10 its pos) (heq : ∀ j, j < n → l[j]? = its[j]?) (hnp : n ≤ pos)
    (hP : l.getD ((n - 1) / 2) 0 = P) (hlt : ltN nm X P = true) (e1 : m (Str.ofString "pos") = some (.int (((n : Int) - 1).fdiv (2 ^ Int.toNat 1)) t)) (e2 : m (Str.ofString "newitem") = some (.ref X)) (e3 : m (Str.ofString "startpos") = some (.int 0 ts)) (e4 : m (Str.ofString "heap") = some (.ref H)) :
    SdJ nm H X its nn pos ts rest ((n - 1) / 2) m ((H, listOf ((l.set n P).map Value.ref).toArray nn) :: rest) :=
  ⟨l.set n P, f - 1, t, by omega, by simpa using (by omega : (n - 1) / 2 < l.length), by simpa using hl, by rw [← hsd, sdown_yes h0 hf (by rw [hP]; exact hlt), hP],
    fun j hj => by rw [List.getElem?_set_ne (by omega)]; exact heq j (by omega), by omega, by rw [← half_is n h0]; exact e1, e2, e3, e4, rfl⟩

local macro_rules | `(tactic| walk_at "subscriptTail") => `(tactic| (k_here; (with_reducible show wpAny _ _ (subscriptTail _ _ (Value.ref _) (Value.int _ _)) _ _ _); k_dflt (refine' itemS (l := List.map Value.ref _) ?N ?hm ?hx ?_; (case N => k_asm); (case hm => k_mem); (case hx => assumption))))
local macro_rules | `(tactic| walk_at "setItem ref int ref") => `(tactic| (k_here; k_dflt (refine' setS ?F ?N ?e ?U ?_; (case F => k_asm); (case N => k_asm); (case e => assumption); (case U => k_upd)); intro h' F' N'; (try dsimp only)))
local macro_rules | `(tactic| walk_at "compareOp Lt ref ref") => `(tactic| (k_here; k_dflt (refine' ltS _ _ ?N ?a ?b ?n ?u ?_; (case N => k_asm); (case a => assumption); (case b => assumption); (case n => assumption); (case u => exact units_lt (by assumption)))))
local macro_rules | `(tactic| k_all) => `(tactic| assumption)
local macro_rules | `(tactic| walk_at "exec While Compare cons nil") => `(tactic| change Halt _)
local macro_rules | `(tactic| walk_at "eval Name") => `(tactic| (k_here; k_dflt (refine' ld ?k1 ?k2 ?_; (case k1 => k_asm); (case k2 => first | exact rfl | assumption); k_whole)))
local macro_rules | `(tactic| walk_at "WStep") => `(tactic| (dsimp only [WStep]))

theorem siftdown_spec (w : World) (H : Addr) (its : List Addr) (nn : Nat) (pos : Nat) (tp ts : Tok) (rest : Led) (hpos : pos < its.length) (hlen : its.length ≤ 10) (hrest : ∀ p ∈ rest, p.1 ≠ H)
  (nm : Addr → Str) (kk : Addr → Int) (hit : ∀ a ∈ its, IsItem rest a (nm a) (kk a)) (hnd : its.Nodup) (hnm : ∀ a ∈ its, ∀ b ∈ its, a ≠ b → nm a ≠ nm b) :
  Spec w 162 1 [.ref H, .int 0 ts, .int pos tp] ((H, listOf (its.map Value.ref).toArray nn) :: rest) (fun r n' => r = .none ∧ n' = (H, listOf ((sdown (ltN nm) (its.getD pos 0) 10 its pos).map Value.ref).toArray nn) :: rest) := by
  k_dflt (refine' enter (binds := [(Str.ofString "heap", .ref H), (Str.ofString "startpos", .int 0 ts), (Str.ofString "pos", .int pos tp)]) ?k6 ?k7 ?k9 ?kB ?c2 ?c3 ?c4 ?c5 ?_; (case k6 => k_is); (case k7 => k_is); (case k9 => exact fun _ _ => BindsTo.of_eq rfl); (case c5 => decide); (case kB => exact locs rfl); (case c2 => exact rfl); (case c3 => exact rfl); (case c4 => exact rfl); k_whole; intro q g L s Qf hA hF hN hdp hun hend; (have hX := hA.inK); (obtain ⟨v₀, lo, mean, mg, mb, hT⟩ := hA.top); (try dsimp only))

  have hx0 : AtIdx pos (its.map Value.ref) (.ref (its.getD pos 0)) := AtIdx.ref hpos hlen rfl
  generalize hX : its.getD pos 0 = Y at *
  k_steps
  refine Halt.go ?_
  (rename Fr g L _ _ => F1); (rename News g L _ _ => N1)
  refine While_J (n₀ := pos) (SdJ nm H Y its nn pos ts rest) F1 N1 ⟨its, 10, _, by omega, hpos, rfl, rfl, fun _ _ => rfl, Nat.le_refl _, rfl, rfl, rfl, rfl, rfl⟩ ?_
  clear F1 N1
  rintro n m₁ news₁ h₁ tk₁ F1 N1 ⟨l, f, t, hf, hn, hl, hsd, heq, hnp, e1, e2, e3, e4, rfl⟩
  have hs2 : SetIdx n (l.map Value.ref) (.ref Y) ((l.set n Y).map Value.ref) := SetIdx.ref hn (by omega) rfl Y
  rcases Nat.eq_zero_or_pos n with h0 | h0
  · subst h0
    rw [sdown_stop] at hsd
    have hno : ¬ ((0 : Int) < ((0 : Nat) : Int)) := by omega
    k_steps
    exact hend.next ⟨rfl, by rw [← hsd]⟩ (by k_asm) (by k_asm)
  · have hyes : ((0 : Int) < (n : Int)) := by omega
    obtain ⟨P, hP, hxi, hnmne, hs1, hI1, hI2⟩ := sd_facts (H := H) (nn := nn) hpos hlen hit hnd hnm hX h0 hn hl heq hnp
    k_steps
    · (rename ltN nm Y P = true => hlt)
      refine' WAgain.intro (n' := (n - 1) / 2) ?kF ?kN (by omega) ?_
      (case kF => k_asm)
      (case kN => k_asm)
      exact sd_again h0 hf hn hl hsd heq hnp hP hlt rfl e2 e3 e4
    · have hlt : ltN nm Y P = false := by assumption
      rw [sdown_no h0 hf (by rw [hP]; exact hlt)] at hsd
      exact hend.next ⟨rfl, by rw [← hsd]⟩ (by k_asm) (by k_asm)

end Mine
end
section
open PySem PySem.W PyProof.Rows PySem.Calls
set_option maxRecDepth 100000
set_option maxHeartbeats 8000000
namespace Mine

/-- the loop's word -/
def SuJ (nm : Addr → Str) (H X : Addr) (its : List Addr) (nn : Nat) (rest : Led) (n : Nat) (m : Str → Option Value) (news : Led) : Prop :=
  ∃ (l : List Addr) (f p : Nat) (t t2 te ts : Tok), p < l.length ∧ l.length = its.length ∧ n = its.length - p ∧ n ≤ f ∧ sup (ltN nm) f l p = sup (ltN nm) 10 its 0 ∧ (l.set p X).Perm its ∧
    m (Str.ofString "pos") = some (.int p t) ∧ m (Str.ofString "childpos") = some (.int (2 * p + 1) t2) ∧ m (Str.ofString "newitem") = some (.ref X) ∧ m (Str.ofString "endpos") = some (.int its.length te) ∧ m (Str.ofString "startpos") = some (.int 0 ts) ∧ m (Str.ofString "heap") = some (.ref H) ∧
    news = (H, listOf (l.map Value.ref).toArray nn) :: rest
def supR (nm : Addr → Str) (its : List Addr) : List Addr := sdown (ltN nm) (its.getD 0 0) 10 ((sup (ltN nm) 10 its 0).1.set (sup (ltN nm) 10 its 0).2 (its.getD 0 0)) (sup (ltN nm) 10 its 0).2
theorem getD_set_self {l : List Nat} {p x : Nat} (h : p < l.length) : (l.set p x).getD p 0 = x := by
  rw [List.getD_eq_getElem?_getD, List.getElem?_set_self h]; rfl
theorem getD_set_ne {l : List Nat} {p k x : Nat} (h : p ≠ k) : (l.set p x).getD k 0 = l.getD k 0 := by
  rw [List.getD_eq_getElem?_getD, List.getElem?_set_ne h, ← List.getD_eq_getElem?_getD]
/-- what the place behind asks -/
theorem su_end {w : World} {nm : Addr → Str} {kk : Addr → Int} {H X : Addr} {its l : List Addr} {nn p f : Nat} {rest : Led} {t ts : Tok} (hlen : its.length ≤ 10) (hrest : ∀ p ∈ rest, p.1 ≠ H) (hit : ∀ a ∈ its, IsItem rest a (nm a) (kk a)) (hnd : its.Nodup) (hnm : ∀ a ∈ its, ∀ b ∈ its, a ≠ b → nm a ≠ nm b)
    (hX : its.getD 0 0 = X) (hp : p < l.length) (hl : l.length = its.length) (hsu : sup (ltN nm) f l p = sup (ltN nm) 10 its 0) (hpm : (l.set p X).Perm its) (hst : ¬ 2 * p + 1 < l.length) :
    SetIdx p (l.map Value.ref) (.ref X) ((l.set p X).map Value.ref) ∧
    Spec w 162 1 [.ref H, .int 0 ts, .int p t] ((H, listOf ((l.set p X).map Value.ref).toArray nn) :: rest) (fun r n' => r = .none ∧ n' = (H, listOf ((supR nm its).map Value.ref).toArray nn) :: rest) := by
  refine ⟨SetIdx.ref hp (by omega) rfl X, ?_⟩
  have S := siftdown_spec w H (l.set p X) nn p t ts rest (by simpa using hp) (by simpa using (by omega : l.length ≤ 10)) hrest nm kk (fun a ha => hit a (hpm.mem_iff.mp ha)) (hpm.nodup_iff.mpr hnd) (fun a ha b hb => hnm a (hpm.mem_iff.mp ha) b (hpm.mem_iff.mp hb))
  rw [sup_stop f hst] at hsu
  unfold supR
  rw [← hsu, hX]
  rw [getD_set_self hp] at S
  exact S
/-- what a turn asks -/
theorem su_turn {nm : Addr → Str} {kk : Addr → Int} {H X : Addr} {its l : List Addr} {nn p c : Nat} {rest : Led} (hlen : its.length ≤ 10) (hit : ∀ a ∈ its, IsItem rest a (nm a) (kk a)) (hl : l.length = its.length) (hpm : (l.set p X).Perm its) (hp : p < l.length) (hc : c < l.length) (hne : p ≠ c) {k : Int} (e : k = (c : Int)) :
    ∃ P, l.getD c 0 = P ∧ AtIdx k (l.map Value.ref) (.ref P) ∧ SetIdx p (l.map Value.ref) (.ref P) ((l.set p P).map Value.ref) ∧ IsItem ((H, listOf (l.map Value.ref).toArray nn) :: rest) P (nm P) (kk P) ∧ P ∈ its ∧ ((l.set p P).set c X).Perm its := by
  have hin : l.getD c 0 ∈ its := by
    refine hpm.mem_iff.mp ?_
    rw [← getD_set_ne (x := X) hne]
    exact getD_mem_of (by simpa using hc)
  exact ⟨_, rfl, AtIdx.ref hc (by omega) e, SetIdx.ref hp (by omega) rfl _, (hit _ hin).tail, hin, (swap_perm l X p c hp hc hne).trans hpm⟩
theorem su_ne {X : Nat} {its l : List Nat} {p c d : Nat} (hnd : its.Nodup) (hpm : (l.set p X).Perm its) (hc : c < l.length) (hd : d < l.length) (h1 : p ≠ c) (h2 : p ≠ d) (h : c ≠ d) : l.getD c 0 ≠ l.getD d 0 := by
  rw [← getD_set_ne (x := X) h1, ← getD_set_ne (x := X) h2]
  exact getD_ne (hpm.nodup_iff.mpr hnd) (by simpa using hc) (by simpa using hd) h
theorem su_again {nm : Addr → Str} {H X P : Addr} {its l : List Addr} {nn n f p c : Nat} {rest : Led} {t t2 te ts : Tok} {m : Str → Option Value} {k : Int} (hk : k = (c : Int)) (hp : p < l.length) (hl : l.length = its.length) (hn : n = its.length - p) (hf : n ≤ f) (hsu : sup (ltN nm) f l p = sup (ltN nm) 10 its 0) (hgo : 2 * p + 1 < l.length)
    (hcc : supC (ltN nm) l p = c) (hP : l.getD c 0 = P) (hpm : ((l.set p P).set c X).Perm its)
    (e1 : m (Str.ofString "pos") = some (.int k t)) (e2 : m (Str.ofString "childpos") = some (.int (2 * k + 1) t2)) (e3 : m (Str.ofString "newitem") = some (.ref X)) (e4 : m (Str.ofString "endpos") = some (.int its.length te)) (e5 : m (Str.ofString "startpos") = some (.int 0 ts)) (e6 : m (Str.ofString "heap") = some (.ref H)) :
    SuJ nm H X its nn rest (its.length - c) m ((H, listOf ((l.set p P).map Value.ref).toArray nn) :: rest) ∧ its.length - c < n := by
  subst hk
  obtain ⟨q1, q2⟩ := supC_lt (lt := ltN nm) hgo
  rw [hcc] at q1 q2
  refine ⟨⟨l.set p P, f - 1, c, t, t2, te, ts, by simpa using q1, by simpa using hl, rfl, by omega, ?_, hpm, e1, e2, e3, e4, e5, e6, rfl⟩, by omega⟩
  rw [← hsu, sup_go (by omega) hgo, hcc, hP]
theorem su_step {g : Heap} {L : Addr} {s : Shared} {nm : Addr → Str} {H X P : Addr} {its l : List Addr} {nn n f p c : Nat} {rest : Led} {t t2 te ts : Tok} {m : Str → Option Value} {h' : Heap} {tk : Nat} {k : Int}
    (F : Fr g L h' m) (N : News g L h' ((H, listOf ((l.set p P).map Value.ref).toArray nn) :: rest)) (hp : p < l.length) (hl : l.length = its.length) (hn : n = its.length - p) (hf : n ≤ f) (hsu : sup (ltN nm) f l p = sup (ltN nm) 10 its 0) (hgo : 2 * p + 1 < l.length)
    (hcc : supC (ltN nm) l p = c) (hP : l.getD c 0 = P) (hpm : ((l.set p P).set c X).Perm its)
    (e1 : m (Str.ofString "pos") = some (.int k t)) (e2 : m (Str.ofString "childpos") = some (.int (2 * k + 1) t2)) (e3 : m (Str.ofString "newitem") = some (.ref X)) (e4 : m (Str.ofString "endpos") = some (.int its.length te)) (e5 : m (Str.ofString "startpos") = some (.int 0 ts)) (e6 : m (Str.ofString "heap") = some (.ref H)) (hk : k = (c : Int)) :
    WAgain g L s (SuJ nm H X its nn rest) n { s with heap := h', toks := tk } :=
  have z := su_again (nn := nn) (rest := rest) hk hp hl hn hf hsu hgo hcc hP hpm e1 e2 e3 e4 e5 e6
  WAgain.intro F N z.2 z.1

local macro_rules | `(tactic| k_all) => `(tactic| assumption)
local macro_rules | `(tactic| walk_at "exec While Compare cons nil") => `(tactic| change Halt _)
local macro_rules | `(tactic| walk_at "eval Name") => `(tactic| (k_here; k_dflt (refine' ld ?k1 ?k2 ?_; (case k1 => k_asm); (case k2 => first | exact rfl | assumption); k_whole)))
local macro_rules | `(tactic| k_mem) => `(tactic| first | assumption | exact mem_head | (refine' mem_tail ?_; k_mem))
example : True := by
  k_with "subscriptTail" => ((with_reducible show wpAny _ _ (subscriptTail _ _ (Value.ref _) (Value.int _ _)) _ _ _); k_dflt (refine' itemS ?N ?hm ?hx ?_; (case N => k_asm); (case hx => assumption); (case hm => k_mem)))
  k_with "setItem ref int ref" => (k_dflt (refine' setS ?F ?N ?e ?U ?_; (case F => k_asm); (case N => k_asm); (case e => assumption); (case U => k_upd)); intro h' F' N'; (try dsimp only))
  k_with "compareOp Lt ref ref" => (k_dflt (refine' ltS _ _ ?N ?a ?b ?n ?u ?_; (case N => k_asm); (case a => assumption); (case b => assumption); (case n => assumption); (case u => exact units_lt (by assumption))))
  k_with "call builtin:len" => ((with_reducible show wpAny _ _ (call (Value.builtin "len") [Value.ref _]) _ _ _); k_dflt (refine' lenT ?N ?hm ?hk ?_; (case N => k_asm); (case hm => k_mem); (case hk => assumption)))
  k_with "call ref" => (k_dflt (refine' spec_use ?S ?A ?k ?F ?N ?s ?d ?u ?_; (case A => assumption); (case S => first | assumption | exact hCa _ | exact hCa _ _ | exact hCa _ _ _ | exact hCb _ | exact hCb _ _ | exact hCb _ _ _); (case k => exact rfl); (case F => k_asm); (case N => k_asm); (case s => first | exact fun _ h => h | exact sub_swap | exact sub_tail | assumption); (case d => omega); (case u => omega)); intro r9 l9 h9 tk9 hp9 hF9 hN9; (try k_extra "post"); (try dsimp only))
  k_with "call builtin:list.append" => ((with_reducible show wpAny _ _ (call (Value.builtin _) [Value.ref _, _]) _ _ _); k_dflt (refine' appendS ?F ?N ?e ?U ?_; (case F => k_asm); (case N => k_asm); (case e => assumption); (case U => k_upd)); intro h' F' N'; (try dsimp only))
  k_with "call builtin:list.pop" => ((with_reducible show wpAny _ _ (call (Value.builtin _) [Value.ref _]) _ _ _); k_dflt (refine' popS ?F ?N ?e ?U ?_; (case F => k_asm); (case N => k_asm); (case e => assumption); (case U => k_upd)); intro h' F' N'; (try dsimp only))
  k_with "truthy ref" => (k_dflt (refine' truthyS ?N ?hm ?e ?_; (case N => k_asm); (case e => assumption); (case hm => k_mem)))
  k_with "getMethod ref" => ((with_reducible show wpAny _ _ (getMethod (Value.ref _) (Str.ofString "get") _) _ _ _); k_dflt (refine kdg_method (knd := PySem.intKind _ _) (by k_asm) (by k_mem) (by k_asm) ?_))
  k_with "call builtin:dict.get" => (k_dflt (refine' kdg_get1 (knd := PySem.intKind _ _) ?N ?m ?d ?lo (intKind_is _ _ _ _) _ ?v ?_; (case N => k_asm); (case v => assumption); (case m => k_mem); (case d => k_asm); (case lo => k_asm)); (try dsimp only [Option.getD]))
  k_with "subscriptTail" => ((with_reducible show wpAny _ _ (subscriptTail _ _ (Value.ref _) (Value.int _ _)) _ _ _); k_dflt (refine' kda_item (knd := PySem.intKind _ _) ?N ?m ?d (intKind_is _ _ _ _) ?v ?_; (case N => k_asm); (case m => k_mem); (case d => k_asm); (case v => assumption)))
  k_with "setItem ref int ref" => (k_dflt (refine' kda_set (knd := PySem.intKind _ _) ?F ?N ?U ?d (intKind_is _ _ _ _) ?z ?_; (case F => k_asm); (case N => k_asm); (case U => k_updF); (case d => k_asm); (case z => rw [sizeLine_eq]; omega)); intro h' o' F' N' hd'; (try dsimp only at N'))
  k_with "post" => (obtain ⟨rfl, rfl⟩ := hp9)
  k_with "WStep" => (dsimp only [WStep])
  trivial

theorem siftup_spec (w : World) (H : Addr) (its : List Addr) (nn : Nat) (tp : Tok) (rest : Led) (hne : 0 < its.length) (hlen : its.length ≤ 10) (hrest : ∀ p ∈ rest, p.1 ≠ H)
  (nm : Addr → Str) (kk : Addr → Int) (hit : ∀ a ∈ its, IsItem rest a (nm a) (kk a)) (hnd : its.Nodup) (hnm : ∀ a ∈ its, ∀ b ∈ its, a ≠ b → nm a ≠ nm b) :
  Spec w 169 2 [.ref H, .int 0 tp] ((H, listOf (its.map Value.ref).toArray nn) :: rest) (fun r n' => r = .none ∧ n' = (H, listOf ((supR nm its).map Value.ref).toArray nn) :: rest) := by
  k_dflt (refine' enter (binds := [(Str.ofString "heap", .ref H), (Str.ofString "pos", .int 0 tp)]) ?k6 ?k7 ?k9 ?kB ?c2 ?c3 ?c4 ?c5 ?_; (case k6 => k_is); (case k7 => k_is); (case k9 => exact fun _ _ => BindsTo.of_eq rfl); (case c5 => decide); (case kB => exact locs rfl); (case c2 => exact rfl); (case c3 => exact rfl); (case c4 => exact rfl); k_whole; intro q g L s Qf hA hF hN hdp hun hend; (have hX := hA.inK); (obtain ⟨v₀, lo, mean, mg, mb, hT⟩ := hA.top); (try dsimp only))

  have hx0 : AtIdx 0 (its.map Value.ref) (.ref (its.getD 0 0)) := AtIdx.ref (j := 0) hne hlen rfl
  have hln : LenIs (its.map Value.ref) its.length := ⟨by simp, by omega⟩
  have hpm0 : (its.set 0 (its.getD 0 0)).Perm its := by
    cases its with
    | nil => exact absurd hne (Nat.lt_irrefl _)
    | cons a r => exact List.Perm.refl _
  generalize hX : its.getD 0 0 = Y at *
  k_steps
  refine Halt.go ?_
  (rename Fr g L _ _ => F1); (rename News g L _ _ => N1)
  refine While_J (n₀ := its.length) (SuJ nm H Y its nn rest) F1 N1 ⟨its, 10, 0, _, _, _, _, hne, rfl, rfl, hlen, rfl, hpm0, rfl, rfl, rfl, rfl, rfl, rfl, rfl⟩ ?_
  clear F1 N1
  rintro n m₁ news₁ h₁ tk₁ F1 N1 ⟨l, f, p, t, t2, te, ts, hp, hl, hn, hf, hsu, hpm, e1, e2, e3, e4, e5, e6, rfl⟩
  by_cases hgo : 2 * p + 1 < l.length
  · have hyes : (2 * (p : Int) + 1) < (its.length : Int) := by omega
    obtain ⟨P, hP, hxi, hs1, hI1, hin1, hpm1⟩ := su_turn (H := H) (nn := nn) (c := 2 * p + 1) (k := 2 * (p : Int) + 1) hlen hit hl hpm hp hgo (by omega) (by omega)
    by_cases hr : 2 * p + 2 < l.length
    · have hyes2 : (2 * (p : Int) + 1 + 1) < (its.length : Int) := by omega
      obtain ⟨P2, hP2, hxi2, hs2, hI2, hin2, hpm2⟩ := su_turn (H := H) (nn := nn) (c := 2 * p + 2) (k := 2 * (p : Int) + 1 + 1) hlen hit hl hpm hp hr (by omega) (by omega)
      have hne2 := hnm P hin1 P2 hin2 (by rw [← hP, ← hP2]; exact su_ne hnd hpm hgo hr (by omega) (by omega) (by omega))
      k_steps
      · have hlt : ltN nm P P2 = true := by assumption
        have hcc : supC (ltN nm) l p = 2 * p + 1 := by unfold supC; rw [if_neg (by rw [hP, hP2, hlt]; simp)]
        exact su_step (by k_asm) (by k_asm) hp hl hn hf hsu hgo hcc hP hpm1 (by exact rfl) (by exact rfl) (by exact e3) (by exact e4) (by exact e5) (by exact e6) (by omega)
      · have hlt : ltN nm P P2 = false := by assumption
        have hcc : supC (ltN nm) l p = 2 * p + 2 := by unfold supC; rw [if_pos (by rw [hP, hP2, hlt]; simpa using hr)]
        exact su_step (by k_asm) (by k_asm) hp hl hn hf hsu hgo hcc hP2 hpm2 (by exact rfl) (by exact rfl) (by exact e3) (by exact e4) (by exact e5) (by exact e6) (by omega)
    · have hno2 : ¬ (2 * (p : Int) + 1 + 1) < (its.length : Int) := by omega
      k_steps
      have hcc : supC (ltN nm) l p = 2 * p + 1 := by unfold supC; rw [if_neg (by simp; omega)]
      exact su_step (by k_asm) (by k_asm) hp hl hn hf hsu hgo hcc hP hpm1 (by exact rfl) (by exact rfl) (by exact e3) (by exact e4) (by exact e5) (by exact e6) (by omega)
  · have hno : ¬ (2 * (p : Int) + 1) < (its.length : Int) := by omega
    obtain ⟨hs1, S⟩ := su_end (w := w) (t := t) (ts := ts) (nn := nn) hlen hrest hit hnd hnm hX hp hl hsu hpm hgo
    k_steps
    exact hend.next ⟨rfl, rfl⟩ (by k_asm) (by k_asm)

end Mine
end
section
open PySem PySem.W PyProof.Rows PySem.Calls
set_option maxRecDepth 100000
set_option maxHeartbeats 8000000
namespace Mine

def pushL (nm : Addr → Str) (its : List Addr) (it : Addr) : List Addr := sdown (ltN nm) it 10 (its ++ [it]) its.length

local macro_rules | `(tactic| k_all) => `(tactic| assumption)
local macro_rules | `(tactic| walk_at "exec While Compare cons nil") => `(tactic| change Halt _)
local macro_rules | `(tactic| walk_at "eval Name") => `(tactic| (k_here; k_dflt (refine' ld ?k1 ?k2 ?_; (case k1 => k_asm); (case k2 => first | exact rfl | assumption); k_whole)))
local macro_rules | `(tactic| k_mem) => `(tactic| first | assumption | exact mem_head | (refine' mem_tail ?_; k_mem))
example : True := by
  k_with "subscriptTail" => ((with_reducible show wpAny _ _ (subscriptTail _ _ (Value.ref _) (Value.int _ _)) _ _ _); k_dflt (refine' itemS ?N ?hm ?hx ?_; (case N => k_asm); (case hx => assumption); (case hm => k_mem)))
  k_with "setItem ref int ref" => (k_dflt (refine' setS ?F ?N ?e ?U ?_; (case F => k_asm); (case N => k_asm); (case e => assumption); (case U => k_upd)); intro h' F' N'; (try dsimp only))
  k_with "compareOp Lt ref ref" => (k_dflt (refine' ltS _ _ ?N ?a ?b ?n ?u ?_; (case N => k_asm); (case a => assumption); (case b => assumption); (case n => assumption); (case u => exact units_lt (by assumption))))
  k_with "call builtin:len" => ((with_reducible show wpAny _ _ (call (Value.builtin "len") [Value.ref _]) _ _ _); k_dflt (refine' lenT ?N ?hm ?hk ?_; (case N => k_asm); (case hm => k_mem); (case hk => assumption)))
  k_with "call ref" => (k_dflt (refine' spec_use ?S ?A ?k ?F ?N ?s ?d ?u ?_; (case A => assumption); (case S => first | assumption | exact hCa _ | exact hCa _ _ | exact hCa _ _ _ | exact hCb _ | exact hCb _ _ | exact hCb _ _ _); (case k => exact rfl); (case F => k_asm); (case N => k_asm); (case s => first | exact fun _ h => h | exact sub_swap | exact sub_tail | assumption); (case d => omega); (case u => omega)); intro r9 l9 h9 tk9 hp9 hF9 hN9; (try k_extra "post"); (try dsimp only))
  k_with "call builtin:list.append" => ((with_reducible show wpAny _ _ (call (Value.builtin _) [Value.ref _, _]) _ _ _); k_dflt (refine' appendS ?F ?N ?e ?U ?_; (case F => k_asm); (case N => k_asm); (case e => assumption); (case U => k_upd)); intro h' F' N'; (try dsimp only))
  k_with "call builtin:list.pop" => ((with_reducible show wpAny _ _ (call (Value.builtin _) [Value.ref _]) _ _ _); k_dflt (refine' popS ?F ?N ?e ?U ?_; (case F => k_asm); (case N => k_asm); (case e => assumption); (case U => k_upd)); intro h' F' N'; (try dsimp only))
  k_with "truthy ref" => (k_dflt (refine' truthyS ?N ?hm ?e ?_; (case N => k_asm); (case e => assumption); (case hm => k_mem)))
  k_with "getMethod ref" => ((with_reducible show wpAny _ _ (getMethod (Value.ref _) (Str.ofString "get") _) _ _ _); k_dflt (refine kdg_method (knd := PySem.intKind _ _) (by k_asm) (by k_mem) (by k_asm) ?_))
  k_with "call builtin:dict.get" => (k_dflt (refine' kdg_get1 (knd := PySem.intKind _ _) ?N ?m ?d ?lo (intKind_is _ _ _ _) _ ?v ?_; (case N => k_asm); (case v => assumption); (case m => k_mem); (case d => k_asm); (case lo => k_asm)); (try dsimp only [Option.getD]))
  k_with "subscriptTail" => ((with_reducible show wpAny _ _ (subscriptTail _ _ (Value.ref _) (Value.int _ _)) _ _ _); k_dflt (refine' kda_item (knd := PySem.intKind _ _) ?N ?m ?d (intKind_is _ _ _ _) ?v ?_; (case N => k_asm); (case m => k_mem); (case d => k_asm); (case v => assumption)))
  k_with "setItem ref int ref" => (k_dflt (refine' kda_set (knd := PySem.intKind _ _) ?F ?N ?U ?d (intKind_is _ _ _ _) ?z ?_; (case F => k_asm); (case N => k_asm); (case U => k_updF); (case d => k_asm); (case z => rw [sizeLine_eq]; omega)); intro h' o' F' N' hd'; (try dsimp only at N'))
  k_with "post" => (obtain ⟨rfl, rfl⟩ := hp9)
  k_with "WStep" => (dsimp only [WStep])
  trivial

theorem heappush_spec (w : World) (H it : Addr) (its : List Addr) (nn : Nat) (rest : Led) (hlen : its.length ≤ 9) (hrest : ∀ p ∈ rest, p.1 ≠ H)
  (nm : Addr → Str) (kk : Addr → Int) (hit : ∀ a ∈ its ++ [it], IsItem rest a (nm a) (kk a)) (hnd : (its ++ [it]).Nodup) (hnm : ∀ a ∈ its ++ [it], ∀ b ∈ its ++ [it], a ≠ b → nm a ≠ nm b) :
  Spec w 148 2 [.ref H, .ref it] ((H, listOf (its.map Value.ref).toArray nn) :: rest) (fun r n' => r = .none ∧ n' = (H, listOf ((pushL nm its it).map Value.ref).toArray (nn + 1)) :: rest) := by
  k_dflt (refine' enter (binds := [(Str.ofString "heap", .ref H), (Str.ofString "item", .ref it)]) ?k6 ?k7 ?k9 ?kB ?c2 ?c3 ?c4 ?c5 ?_; (case k6 => k_is); (case k7 => k_is); (case k9 => exact fun _ _ => BindsTo.of_eq rfl); (case c5 => decide); (case kB => exact locs rfl); (case c2 => exact rfl); (case c3 => exact rfl); (case c4 => exact rfl); k_whole; intro q g L s Qf hA hF hN hdp hun hend; (have hX := hA.inK); (obtain ⟨v₀, lo, mean, mg, mb, hT⟩ := hA.top); (try dsimp only))

  have ha : AppIs (its.map Value.ref) (.ref it) ((its ++ [it]).map Value.ref) := ⟨by simp, by simp; omega⟩
  have hln : LenIs ((its ++ [it]).map Value.ref) (its.length + 1) := ⟨by simp, by omega⟩
  have hCa : ∀ ts tp, Spec w 162 1 [.ref H, .int 0 ts, .int (((its.length + 1 : Nat) : Int) - 1) tp] ((H, listOf ((its ++ [it]).map Value.ref).toArray (nn + 1)) :: rest) (fun r n' => r = .none ∧ n' = (H, listOf ((pushL nm its it).map Value.ref).toArray (nn + 1)) :: rest) := by
    intro ts tp
    have S := siftdown_spec w H (its ++ [it]) (nn + 1) its.length tp ts rest (by simp) (by simp; omega) hrest nm kk hit hnd hnm
    have e : (its ++ [it]).getD its.length 0 = it := by simp [List.getD_eq_getElem?_getD]
    rw [e] at S
    have e2 : ((its.length + 1 : Nat) : Int) - 1 = (its.length : Int) := by omega
    rw [e2]
    exact S
  k_steps
  exact hend.next ⟨rfl, rfl⟩ (by k_asm) (by k_asm)

def popV (its : List Addr) (x : Addr) : Addr := if its = [] then x else its.getD 0 0
def popL (nm : Addr → Str) (its : List Addr) (x : Addr) : List Addr := if its = [] then [] else supR nm (its.set 0 x)
theorem heappop_spec (w : World) (H x : Addr) (its : List Addr) (nn : Nat) (rest : Led) (hlen : its.length ≤ 9) (hrest : ∀ p ∈ rest, p.1 ≠ H)
  (nm : Addr → Str) (kk : Addr → Int) (hit : ∀ a ∈ its ++ [x], IsItem rest a (nm a) (kk a)) (hnd : (its ++ [x]).Nodup) (hnm : ∀ a ∈ its ++ [x], ∀ b ∈ its ++ [x], a ≠ b → nm a ≠ nm b) :
  Spec w 155 3 [.ref H] ((H, listOf ((its ++ [x]).map Value.ref).toArray nn) :: rest) (fun r n' => r = .ref (popV its x) ∧ n' = (H, listOf ((popL nm its x).map Value.ref).toArray (nn + 1)) :: rest) := by
  k_dflt (refine' enter (binds := [(Str.ofString "heap", .ref H)]) ?k6 ?k7 ?k9 ?kB ?c2 ?c3 ?c4 ?c5 ?_; (case k6 => k_is); (case k7 => k_is); (case k9 => exact fun _ _ => BindsTo.of_eq rfl); (case c5 => decide); (case kB => exact locs rfl); (case c2 => exact rfl); (case c3 => exact rfl); (case c4 => exact rfl); k_whole; intro q g L s Qf hA hF hN hdp hun hend; (have hX := hA.inK); (obtain ⟨v₀, lo, mean, mg, mb, hT⟩ := hA.top); (try dsimp only))

  have hp : PopIs ((its ++ [x]).map Value.ref) (its.map Value.ref) (.ref x) := ⟨by simp, by simp; omega⟩
  rcases its with _ | ⟨a, r⟩
  · have ht : TruthIs (([] : List Addr).map Value.ref) false := ⟨rfl, by simp⟩
    k_steps
    refine' hend.ret ?zp ?zF ?zN
    (case zF => k_asm)
    (case zN => k_asm)
    exact ⟨by simp [popV], by simp [popL]⟩
  · have ht : TruthIs ((a :: r).map Value.ref) true := ⟨rfl, by simp at hlen ⊢; omega⟩
    have hx0 : AtIdx 0 ((a :: r).map Value.ref) (.ref a) := ⟨0, rfl, by decide, rfl⟩
    have hs0 : SetIdx 0 ((a :: r).map Value.ref) (.ref x) ((x :: r).map Value.ref) := ⟨0, rfl, by simp, by decide, rfl⟩
    have hmem : ∀ b ∈ x :: r, b ∈ (a :: r) ++ [x] := fun b hb => by simp only [List.mem_cons, List.mem_append, List.not_mem_nil, or_false] at hb ⊢; rcases hb with e | e <;> simp [e]
    have hCa : ∀ tp, Spec w 169 2 [.ref H, .int 0 tp] ((H, listOf ((x :: r).map Value.ref).toArray (nn + 1)) :: rest) (fun r' n' => r' = .none ∧ n' = (H, listOf ((supR nm (x :: r)).map Value.ref).toArray (nn + 1)) :: rest) := fun tp =>
      siftup_spec w H (x :: r) (nn + 1) tp rest (by simp) (by simp at hlen ⊢; omega) hrest nm kk (fun b hb => hit b (hmem b hb)) (by
        have h1 : ((a :: r) ++ [x]).Perm (x :: a :: r) := List.perm_append_singleton ..
        have h2 := h1.nodup_iff.mp hnd
        simp only [List.nodup_cons, List.mem_cons, not_or] at h2 ⊢
        exact ⟨h2.1.2, h2.2.2⟩) (fun b hb c hc => hnm b (hmem b hb) c (hmem c hc))
    k_steps
    exact hend.ret ⟨by simp [popV], by simp only [popL]; rfl⟩ (by k_asm) (by k_asm)

end Mine
end
section
open PySem
set_option linter.unusedVariables false
namespace Mine
def HeapL (lt : Nat → Nat → Bool) (its : List Nat) : Prop := ∀ i, 0 < i → i < its.length → lt (its.getD ((i - 1) / 2) 0) (its.getD i 0) = true
structure Lin (lt : Nat → Nat → Bool) (l : List Nat) : Prop where
  tr : ∀ a b c, lt a b = true → lt b c = true → lt a c = true
  tot : ∀ a ∈ l, ∀ b ∈ l, a ≠ b → lt a b = false → lt b a = true
theorem heap2 {lt : Nat → Nat → Bool} {a b : Nat} : HeapL lt [a, b] ↔ lt a b = true := by
  constructor
  · intro h; exact h 1 (by decide) (by simp)
  · intro h i h0 h1
    match i, h0, h1 with
    | 1, _, _ => exact h
theorem heap3 {lt : Nat → Nat → Bool} {a b c : Nat} : HeapL lt [a, b, c] ↔ lt a b = true ∧ lt a c = true := by
  constructor
  · intro h; exact ⟨h 1 (by decide) (by simp), h 2 (by decide) (by simp)⟩
  · rintro ⟨h, h'⟩ i h0 h1
    match i, h0, h1 with
    | 1, _, _ => exact h
    | 2, _, _ => exact h'
theorem heap4 {lt : Nat → Nat → Bool} {a b c d : Nat} : HeapL lt [a, b, c, d] ↔ lt a b = true ∧ lt a c = true ∧ lt b d = true := by
  constructor
  · intro h; exact ⟨h 1 (by decide) (by simp), h 2 (by decide) (by simp), h 3 (by decide) (by simp)⟩
  · rintro ⟨h, h', h3⟩ i h0 h1
    match i, h0, h1 with
    | 1, _, _ => exact h
    | 2, _, _ => exact h'
    | 3, _, _ => exact h3
theorem heap5 {lt : Nat → Nat → Bool} {a b c d e : Nat} : HeapL lt [a, b, c, d, e] ↔ lt a b = true ∧ lt a c = true ∧ lt b d = true ∧ lt b e = true := by
  constructor
  · intro h; exact ⟨h 1 (by decide) (by simp), h 2 (by decide) (by simp), h 3 (by decide) (by simp), h 4 (by decide) (by simp)⟩
  · rintro ⟨h, h', h3, h4⟩ i h0 h1
    match i, h0, h1 with
    | 1, _, _ => exact h
    | 2, _, _ => exact h'
    | 3, _, _ => exact h3
    | 4, _, _ => exact h4
theorem push_heap {lt : Nat → Nat → Bool} {its : List Nat} {x : Nat} (L : Lin lt (its ++ [x])) (hn : (its ++ [x]).Nodup) (h : HeapL lt its) (hl : its.length ≤ 4) : HeapL lt (sdown lt x 10 (its ++ [x]) its.length) ∧ (sdown lt x 10 (its ++ [x]) its.length).Perm (its ++ [x]) := by
  match its, hl, L, hn, h with
  | [], _, _, _, _ => exact ⟨fun i h0 h1 => by have : i < 1 := h1; omega, List.Perm.refl _⟩
  | [a], _, L, hn, h =>
    have e : sdown lt x 10 ([a] ++ [x]) [a].length = if lt x a = true then [x, a] else [a, x] := by simp [sdown]
    rw [e]
    split
    · rename_i h1
      exact ⟨heap2.mpr h1, List.Perm.swap a x []⟩
    · rename_i h1
      exact ⟨heap2.mpr (L.tot x (by simp) a (by simp) (by simp at hn; exact fun q => hn q.symm) (by simpa using h1)), List.Perm.refl _⟩
  | [a, b], _, L, hn, h =>
    have e : sdown lt x 10 ([a, b] ++ [x]) [a, b].length = if lt x a = true then [x, b, a] else [a, b, x] := by simp [sdown]
    rw [e]
    have h := heap2.mp h
    split
    · rename_i h1
      exact ⟨heap3.mpr ⟨L.tr _ _ _ h1 h, h1⟩, by rw [List.perm_iff_count]; intro y; simp [List.count_cons]; omega⟩
    · rename_i h1
      exact ⟨heap3.mpr ⟨h, L.tot x (by simp) a (by simp) (by simp at hn; exact fun q => hn.1.2 q.symm) (by simpa using h1)⟩, List.Perm.refl _⟩
  | [a, b, c], _, L, hn, h =>
    have e : sdown lt x 10 ([a, b, c] ++ [x]) [a, b, c].length = if lt x b = true then (if lt x a = true then [x, a, c, b] else [a, x, c, b]) else [a, b, c, x] := by simp [sdown]
    rw [e]
    obtain ⟨h2, h3⟩ := heap3.mp h
    split
    · rename_i h1
      split
      · rename_i h0
        exact ⟨heap4.mpr ⟨h0, L.tr _ _ _ h0 h3, h2⟩, by rw [List.perm_iff_count]; intro y; simp [List.count_cons]; omega⟩
      · rename_i h0
        exact ⟨heap4.mpr ⟨L.tot x (by simp) a (by simp) (by simp at hn; exact fun q => hn.1.2.2 q.symm) (by simpa using h0), h3, h1⟩, by rw [List.perm_iff_count]; intro y; simp [List.count_cons]; omega⟩
    · rename_i h1
      exact ⟨heap4.mpr ⟨h2, h3, L.tot x (by simp) b (by simp) (by simp at hn; exact fun q => hn.2.1.2 q.symm) (by simpa using h1)⟩, List.Perm.refl _⟩
  | [a, b, c, d], _, L, hn, h =>
    have e : sdown lt x 10 ([a, b, c, d] ++ [x]) [a, b, c, d].length = if lt x b = true then (if lt x a = true then [x, a, c, d, b] else [a, x, c, d, b]) else [a, b, c, d, x] := by simp [sdown]
    rw [e]
    obtain ⟨h2, h3, h4⟩ := heap4.mp h
    split
    · rename_i h1
      split
      · rename_i h0
        exact ⟨heap5.mpr ⟨h0, L.tr _ _ _ h0 h3, L.tr _ _ _ h2 h4, h2⟩, by rw [List.perm_iff_count]; intro y; simp [List.count_cons]; omega⟩
      · rename_i h0
        exact ⟨heap5.mpr ⟨L.tot x (by simp) a (by simp) (by simp at hn; exact fun q => hn.1.2.2.2 q.symm) (by simpa using h0), h3, L.tr _ _ _ h1 h4, h1⟩, by rw [List.perm_iff_count]; intro y; simp [List.count_cons]; omega⟩
    · rename_i h1
      exact ⟨heap5.mpr ⟨h2, h3, h4, L.tot x (by simp) b (by simp) (by simp at hn; exact fun q => hn.2.1.2.2 q.symm) (by simpa using h1)⟩, List.Perm.refl _⟩
def popG (lt : Nat → Nat → Bool) (l : List Nat) : List Nat := sdown lt (l.getD 0 0) 10 ((sup lt 10 l 0).1.set (sup lt 10 l 0).2 (l.getD 0 0)) (sup lt 10 l 0).2
theorem pop_heap {lt : Nat → Nat → Bool} {its : List Nat} {x a : Nat} (L : Lin lt (a :: its ++ [x])) (hn : (a :: its ++ [x]).Nodup) (h : HeapL lt (a :: its ++ [x])) (hl : its.length ≤ 3) : HeapL lt (popG lt (x :: its)) ∧ (a :: popG lt (x :: its)).Perm (a :: its ++ [x]) ∧ ∀ y ∈ a :: its ++ [x], y ≠ a → lt a y = true := by
  match its, hl, L, hn, h with
  | [], _, L, hn, h =>
    have e : popG lt [x] = [x] := by simp [popG, sup, sdown]
    rw [e]
    have h := heap2.mp h
    refine ⟨fun i h0 h1 => by have : i < 1 := h1; omega, List.Perm.refl _, fun y hy hne => ?_⟩
    simp at hy
    rcases hy with rfl | rfl
    · exact absurd rfl hne
    · exact h
  | [b], _, L, hn, h =>
    obtain ⟨h1, h2⟩ := heap3.mp h
    have e : popG lt [x, b] = if lt x b = true then [x, b] else [b, x] := by simp [popG, sup, supC, sdown]
    rw [e]
    refine ⟨?_, ?_, fun y hy hne => ?_⟩
    · split
      · rename_i q; exact heap2.mpr q
      · rename_i q; exact heap2.mpr (L.tot x (by simp) b (by simp) (by simp at hn; exact fun q => hn.2 q.symm) (by simpa using q))
    · split <;> (rw [List.perm_iff_count]; intro y; simp [List.count_cons]; try omega)
    · simp at hy
      rcases hy with rfl | rfl | rfl
      · exact absurd rfl hne
      · exact h1
      · exact h2
  | [b, c], _, L, hn, h =>
    obtain ⟨h1, h2, h3⟩ := heap4.mp h
    have hbc : b ≠ c := by simp at hn; exact hn.2.1.1
    have hxc : x ≠ c := by simp at hn; exact fun q => hn.2.2 q.symm
    have hmin : ∀ y ∈ a :: [b, c] ++ [x], y ≠ a → lt a y = true := fun y hy hne => by
      simp at hy
      rcases hy with rfl | rfl | rfl | rfl
      · exact absurd rfl hne
      · exact h1
      · exact h2
      · exact L.tr _ _ _ h1 h3
    cases hb : lt b c with
    | true =>
      have e : popG lt [x, b, c] = if lt x b = true then [x, b, c] else [b, x, c] := by simp [popG, sup, supC, sdown, hb]
      rw [e]
      refine ⟨?_, ?_, hmin⟩
      · split
        · rename_i q; exact heap3.mpr ⟨q, L.tr _ _ _ q hb⟩
        · exact heap3.mpr ⟨h3, hb⟩
      · split <;> (rw [List.perm_iff_count]; intro y; simp [List.count_cons]; try omega)
    | false =>
      have hcb := L.tot b (by simp) c (by simp) hbc hb
      have e : popG lt [x, b, c] = if lt x c = true then [x, b, c] else [c, b, x] := by simp [popG, sup, supC, sdown, hb]
      rw [e]
      refine ⟨?_, ?_, hmin⟩
      · split
        · rename_i q; exact heap3.mpr ⟨L.tr _ _ _ q hcb, q⟩
        · rename_i q; exact heap3.mpr ⟨hcb, L.tot x (by simp) c (by simp) hxc (by simpa using q)⟩
      · split <;> (rw [List.perm_iff_count]; intro y; simp [List.count_cons]; try omega)
  | [b, c, d], _, L, hn, h =>
    obtain ⟨h1, h2, h3, h4⟩ := heap5.mp h
    have hbc : b ≠ c := by simp at hn; exact hn.2.1.1
    have hxc : x ≠ c := by simp at hn; exact fun q => hn.2.2.1.2 q.symm
    have hxd : x ≠ d := by simp at hn; exact fun q => hn.2.2.2 q.symm
    have hmin : ∀ y ∈ a :: [b, c, d] ++ [x], y ≠ a → lt a y = true := fun y hy hne => by
      simp at hy
      rcases hy with rfl | rfl | rfl | rfl | rfl
      · exact absurd rfl hne
      · exact h1
      · exact h2
      · exact L.tr _ _ _ h1 h3
      · exact L.tr _ _ _ h1 h4
    cases hb : lt b c with
    | true =>
      have e : popG lt [x, b, c, d] = if lt x d = true then (if lt x b = true then [x, b, c, d] else [b, x, c, d]) else [b, d, c, x] := by simp [popG, sup, supC, sdown, hb]
      rw [e]
      refine ⟨?_, ?_, hmin⟩
      · split
        · rename_i q
          split
          · rename_i q2; exact heap4.mpr ⟨q2, L.tr _ _ _ q2 hb, h3⟩
          · exact heap4.mpr ⟨h4, hb, q⟩
        · rename_i q; exact heap4.mpr ⟨h3, hb, L.tot x (by simp) d (by simp) hxd (by simpa using q)⟩
      · split
        · split <;> (rw [List.perm_iff_count]; intro y; simp [List.count_cons]; try omega)
        · rw [List.perm_iff_count]; intro y; simp [List.count_cons]; try omega
    | false =>
      have hcb := L.tot b (by simp) c (by simp) hbc hb
      have e : popG lt [x, b, c, d] = if lt x c = true then [x, b, c, d] else [c, b, x, d] := by simp [popG, sup, supC, sdown, hb]
      rw [e]
      refine ⟨?_, ?_, hmin⟩
      · split
        · rename_i q; exact heap4.mpr ⟨L.tr _ _ _ q hcb, q, h3⟩
        · rename_i q; exact heap4.mpr ⟨hcb, L.tot x (by simp) c (by simp) hxc (by simpa using q), h3⟩
      · split <;> (rw [List.perm_iff_count]; intro y; simp [List.count_cons]; try omega)
theorem cps_ne {a c : Str} (h : a ≠ c) : a.cps.toList ≠ c.cps.toList := fun e => h (by
  obtain ⟨⟨a⟩⟩ := a
  obtain ⟨⟨c⟩⟩ := c
  simp at e
  rw [e])
theorem lt_tot {a c : Str} (h : a ≠ c) (h1 : ¬ a.cps.toList < c.cps.toList) : c.cps.toList < a.cps.toList := by
  refine Classical.byContradiction fun h2 => cps_ne h ?_
  exact List.le_antisymm (List.not_lt.mp h2) (List.not_lt.mp h1)
theorem ltN_lin {nm : Nat → Str} {l : List Nat} (hnm : ∀ a ∈ l, ∀ c ∈ l, a ≠ c → nm a ≠ nm c) : Lin (ltN nm) l where
  tr := fun a b c h1 h2 => decide_eq_true (List.lt_trans (of_decide_eq_true h1) (of_decide_eq_true h2))
  tot := fun a ha b hb hne h => decide_eq_true (lt_tot (hnm a ha b hb hne) (of_decide_eq_false h))
end Mine
end
section
open PySem PySem.W PyProof.Rows PySem.Calls
set_option maxRecDepth 100000
set_option maxHeartbeats 8000000
set_option linter.unusedVariables false
namespace Mine
theorem gAdd_prep {needs : Nat → List Nat} (hN : Needs needs) : ∀ j, j < (gAdd needs 5).n → ((gAdd needs 5).su j).length ≤ 50 ∧ ∀ p ∈ (gAdd needs 5).su j, j < p ∧ p < (gAdd needs 5).n := by
  obtain ⟨h1, _, _, _, h5, _⟩ := gAdd_ok hN 5 (Nat.le_refl _)
  intro j hj
  rw [h5, h1]
  refine ⟨Nat.le_trans (sucOf_len _ _ _) (by omega), fun p hp => ?_⟩
  unfold sucOf at hp
  obtain ⟨hp1, hp2⟩ := List.mem_filter.mp hp
  have hp1 : p < 5 := by simpa using hp1
  have := hN.lt p hp1 j (by simpa using hp2)
  omega
theorem outS_np : ∀ (l : List Nat) (g : St) (k : Nat), (g.outS l).np k = if k ∈ l then -1 else g.np k := by
  intro l
  induction l with
  | nil => intro g k; simp [St.outS]
  | cons s l ih =>
    intro g k
    show ((g.setNp s (-1)).outS l).np k = _
    rw [ih]
    by_cases h : k ∈ l
    · simp [h]
    · by_cases e : k = s
      · subst e
        rw [if_neg h, if_pos (List.mem_cons_self ..)]
        exact upd_eq
      · rw [if_neg h, if_neg (by simp [h, e])]
        exact upd_ne e
theorem Inv.start {needs : Nat → List Nat} (hN : Needs needs) : ∃ l, (gAdd needs 5).prepS.rd = some l ∧ l.length ≤ 50 ∧ (∀ p ∈ l, p < (gAdd needs 5).prepS.n) ∧ Inv needs (((gAdd needs 5).prepS.readyS l).readyS []) [] [] l := by
  obtain ⟨h1, h2, h3, h4, h5, h6⟩ := gAdd_ok hN 5 (Nat.le_refl _)
  refine ⟨_, rfl, ?_, fun p hp => ?_, ?_⟩
  · exact Nat.le_trans (List.length_filter_le _ _) (by rw [List.length_range, h1]; decide)
  · have := (List.mem_filter.mp hp).1
    rw [List.mem_range] at this
    exact this
  generalize hl : (List.range (gAdd needs 5).n).filter (fun k => (gAdd needs 5).np k == 0) = l
  have hm : ∀ k, k ∈ l ↔ k < 5 ∧ needs k = [] := fun k => by
    rw [← hl, List.mem_filter, List.mem_range, h1]
    constructor
    · rintro ⟨hk, h0⟩
      rw [h6 k hk] at h0
      refine ⟨hk, List.length_eq_zero_iff.mp ?_⟩
      have := eq_of_beq h0
      omega
    · rintro ⟨hk, h0⟩
      rw [h6 k hk, h0]
      exact ⟨hk, rfl⟩
  have hnd : l.Nodup := by rw [← hl]; exact List.filter_sublist.nodup List.nodup_range
  obtain ⟨o1, o2, o3, o4, o5⟩ := outS_keeps l (gAdd needs 5).prepS
  have np : ∀ k, ((((gAdd needs 5).prepS.readyS l).readyS []).np k) = if k ∈ l then -1 else (gAdd needs 5).np k := fun k => outS_np l (gAdd needs 5).prepS k
  refine ⟨o1.trans h1, fun j hj => ?_, rfl, ?_, ?_, by simpa using hnd, fun k hk => ?_, fun k hk => ?_, fun k hk hn => ?_, fun k hk j hj => ?_⟩
  · show ((gAdd needs 5).prepS.outS l).su j = _
    rw [o2]; exact h5 j
  · show ((gAdd needs 5).prepS.outS l).F = _
    rw [o3]; exact h3
  · show (gAdd needs 5).P + (l.length : Int) + (([] : List Nat).length : Int) = _
    rw [h4]; simp
  · exact ((hm k).mp (by simpa using hk)).1
  · rw [np, if_pos (by simpa using hk)]
  · have hk2 : k ∉ l := by simpa using hn
    rw [np, if_neg hk2, h6 k hk]
    have e : (needs k).filter (fun j => !([] : List Nat).contains j) = needs k := by simp
    rw [e]
    exact ⟨rfl, fun h => hk2 ((hm k).mpr ⟨hk, h⟩)⟩
  · have := ((hm k).mp (by simpa using hk)).2
    rw [this] at hj
    cases hj
theorem Inv.move {needs : Nat → List Nat} {g : St} {d H l H' : List Nat} {k : Nat} (I : Inv needs g d H (k :: l)) (hp : H'.Perm (H ++ [k])) : Inv needs g d H' l := by
  have e : (H' ++ l).Perm (H ++ k :: l) := (hp.append_right l).trans (by simp)
  have e2 : (d ++ (H' ++ l)).Perm (d ++ (H ++ k :: l)) := e.append_left d
  refine ⟨I.n, I.su, I.rd, I.F, ?_, e2.nodup_iff.mpr I.nd, fun x hx => I.lt x (e2.mem_iff.mp hx), fun x hx => I.np1 x (e.mem_iff.mp hx), fun x hx hn => I.np2 x hx fun h => hn (e2.mem_iff.mpr h), fun x hx => I.av x (e2.mem_iff.mp hx)⟩
  have := hp.length_eq
  rw [I.P]
  simp at this ⊢
  omega
theorem stepS_fold : ∀ (ss : List Nat), ss.Nodup → ∀ (g : St) (r : List Nat), g.rd = some r → (∀ k, (ss.foldl St.stepS g).np k = if k ∈ ss then g.np k - 1 else g.np k) ∧ (ss.foldl St.stepS g).rd = some (r ++ ss.filter fun s => decide (g.np s - 1 = 0)) := by
  intro ss
  induction ss with
  | nil => intro _ g r hr; exact ⟨fun k => by simp, by simpa using hr⟩
  | cons s ss ih =>
    intro hn g r hr
    obtain ⟨hs, hn⟩ := List.nodup_cons.mp hn
    have np1 : ∀ k, (g.stepS s).np k = upd g.np s (g.np s - 1) k := fun k => by
      unfold St.stepS
      split <;> rfl
    have rd1 : (g.stepS s).rd = some (r ++ if g.np s - 1 = 0 then [s] else []) := by
      unfold St.stepS
      split
      · show g.rd.map (· ++ [s]) = _
        rw [hr]; rfl
      · show g.rd = _
        rw [hr, List.append_nil]
    obtain ⟨a1, a2⟩ := ih hn (g.stepS s) _ rd1
    refine ⟨fun k => ?_, ?_⟩
    · show (ss.foldl St.stepS (g.stepS s)).np k = _
      rw [a1, np1]
      by_cases e : k = s
      · subst e
        rw [if_neg hs, if_pos (List.mem_cons_self ..), upd_eq]
      · rw [upd_ne e]
        by_cases h : k ∈ ss
        · rw [if_pos h, if_pos (List.mem_cons_of_mem _ h)]
        · rw [if_neg h, if_neg (by simp [h, e])]
    · show (ss.foldl St.stepS (g.stepS s)).rd = _
      rw [a2]
      have e : ss.filter (fun s' => decide ((g.stepS s).np s' - 1 = 0)) = ss.filter (fun s' => decide (g.np s' - 1 = 0)) := List.filter_congr fun x hx => by
        have hne : x ≠ s := fun e => hs (by rw [← e]; exact hx)
        rw [np1, upd_ne hne]
      rw [e, List.filter_cons]
      by_cases h : g.np s - 1 = 0
      · simp [h]
      · simp [h]
theorem cnt_add {ns d : List Nat} {p : Nat} (hn : ns.Nodup) (hp : p ∈ ns) (hd : p ∉ d) : (ns.filter fun j => !(d ++ [p]).contains j).length + 1 = (ns.filter fun j => !d.contains j).length := by
  have e : ns.filter (fun j => !(d ++ [p]).contains j) = (ns.filter fun j => !d.contains j).erase p := by
    rw [(List.filter_sublist.nodup hn).erase_eq_filter, List.filter_filter]
    refine List.filter_congr fun x _ => ?_
    by_cases h1 : x ∈ d <;> by_cases h2 : x = p <;> simp [h1, h2]
  rw [e]
  have hm : p ∈ ns.filter fun j => !d.contains j := List.mem_filter.mpr ⟨hp, by simpa using hd⟩
  have h2 := List.length_erase_of_mem hm
  have h3 := List.length_pos_of_mem hm
  omega
theorem cnt_same {ns d : List Nat} {p : Nat} (hp : p ∉ ns) : (ns.filter fun j => !(d ++ [p]).contains j) = ns.filter fun j => !d.contains j := List.filter_congr fun x hx => by
  have : x ≠ p := fun e => hp (e ▸ hx)
  by_cases h1 : x ∈ d <;> simp [h1, this]
theorem Inv.step {needs : Nat → List Nat} (hN : Needs needs) {g : St} {d H H' : List Nat} {p : Nat} (I : Inv needs g d H []) (hp : (p :: H').Perm H) : ∃ l, (g.doneS p).rd = some l ∧ l.length ≤ 50 ∧ (∀ q ∈ l, q < (g.doneS p).n) ∧ Inv needs (((g.doneS p).readyS l).readyS []) (d ++ [p]) H' l := by
  have hpH : p ∈ H := hp.mem_iff.mp (List.mem_cons_self ..)
  have hnd := I.nd
  rw [List.append_nil] at hnd
  have hpd : p ∉ d := fun h => (List.nodup_append.mp hnd).2.2 p h p hpH rfl
  have hp5 : p < 5 := I.lt p (by simp [hpH])
  have hss : (sucOf needs 5 p).Nodup := List.filter_sublist.nodup List.nodup_range
  have hsm : ∀ s, s ∈ sucOf needs 5 p ↔ s < 5 ∧ p ∈ needs s := fun s => by unfold sucOf; simp
  have hsn : ∀ s, s ∈ sucOf needs 5 p → s ∉ d ++ (H ++ []) := fun s hs hm => hpd (I.av s hm p ((hsm s).mp hs).2)
  have hsp : ∀ s, s ∈ sucOf needs 5 p → s ≠ p := fun s hs e => hsn s hs (by rw [e]; simp [hpH])
  obtain ⟨f1, f2⟩ := stepS_fold _ hss (g.setNp p (-2)) [] I.rd
  rw [List.nil_append] at f2
  generalize hl : ((sucOf needs 5 p).filter fun s => decide ((g.setNp p (-2)).np s - 1 = 0)) = l at f2
  have hlm : ∀ s, s ∈ l ↔ s ∈ sucOf needs 5 p ∧ g.np s - 1 = 0 := fun s => by
    rw [← hl, List.mem_filter]
    constructor
    · rintro ⟨a, c⟩
      refine ⟨a, ?_⟩
      have c := of_decide_eq_true c
      rw [show (g.setNp p (-2)).np s = g.np s from upd_ne (hsp s a)] at c
      exact c
    · rintro ⟨a, c⟩
      refine ⟨a, decide_eq_true ?_⟩
      rw [show (g.setNp p (-2)).np s = g.np s from upd_ne (hsp s a)]
      exact c
  obtain ⟨s1, s2, s3, s4, _⟩ := stepS_keeps (g.su p) (g.setNp p (-2))
  have esu := I.su p hp5
  have hlnd : l.Nodup := by rw [← hl]; exact List.filter_sublist.nodup hss
  have hl5 : ∀ q ∈ l, q < 5 := fun q hq => ((hsm q).mp ((hlm q).mp hq).1).1
  have hn5 : (g.doneS p).n = 5 := s1.trans I.n
  have hrd : (g.doneS p).rd = some l := by
    show ((g.su p).foldl St.stepS (g.setNp p (-2))).rd = _
    rw [esu]; exact f2
  refine ⟨l, hrd, Nat.le_trans (len_le_range hlnd hl5) (by decide), fun q hq => by rw [hn5]; exact hl5 q hq, ?_⟩
  obtain ⟨o1, o2, o3, o4, o5⟩ := outS_keeps l (g.doneS p)
  have np : ∀ k, ((((g.doneS p).readyS l).readyS []).np k) = if k ∈ l then -1 else if k ∈ sucOf needs 5 p then g.np k - 1 else if k = p then -2 else g.np k := fun k => by
    have h1 : ((((g.doneS p).readyS l).readyS []).np k) = if k ∈ l then -1 else (g.doneS p).np k := outS_np l (g.doneS p) k
    rw [h1]
    have h2 : (g.doneS p).np k = if k ∈ sucOf needs 5 p then (g.setNp p (-2)).np k - 1 else (g.setNp p (-2)).np k := by
      show ((g.su p).foldl St.stepS (g.setNp p (-2))).np k = _
      rw [esu]; exact f1 k
    rw [h2]
    by_cases hk : k ∈ sucOf needs 5 p
    · rw [if_pos hk, if_pos hk, show (g.setNp p (-2)).np k = g.np k from upd_ne (hsp k hk)]
    · rw [if_neg hk, if_neg hk]
      by_cases e : k = p
      · subst e
        rw [if_pos rfl, show (g.setNp k (-2)).np k = -2 from upd_eq]
      · rw [if_neg e, show (g.setNp p (-2)).np k = g.np k from upd_ne e]
  have hdH : (d ++ (p :: H')).Nodup := (hp.append_left d).nodup_iff.mpr hnd
  have mH : ∀ x, x ∈ H' → x ∈ H := fun x hx => hp.mem_iff.mp (List.mem_cons_of_mem _ hx)
  refine ⟨o1.trans hn5, fun j hj => ?_, rfl, ?_, ?_, ?_, fun k hk => ?_, fun k hk => ?_, fun k hk hn => ?_, fun k hk j hj => ?_⟩
  · show ((g.doneS p).outS l).su j = _
    rw [o2]
    show ((g.su p).foldl St.stepS (g.setNp p (-2))).su j = _
    rw [s2]; exact I.su j hj
  · show ((g.doneS p).outS l).F = _
    rw [o3]
    show ((g.su p).foldl St.stepS (g.setNp p (-2))).F + 1 = _
    rw [s3, List.length_append, List.length_singleton]
    show g.F + 1 = _
    rw [I.F]; omega
  · show (g.doneS p).P + (l.length : Int) + (([] : List Nat).length : Int) = _
    have e : (g.doneS p).P = g.P := s4
    have hlen := hp.length_eq
    rw [e, I.P, List.length_append, List.length_singleton]
    simp only [List.length_cons] at hlen
    simp only [List.length_nil]
    omega
  · have e : d ++ [p] ++ (H' ++ l) = (d ++ (p :: H')) ++ l := by simp
    rw [e]
    refine List.nodup_append.mpr ⟨hdH, hlnd, fun a ha c hc hac => ?_⟩
    subst hac
    refine hsn a ((hlm a).mp hc).1 ?_
    rw [List.append_nil]
    exact (hp.append_left d).mem_iff.mp ha
  · simp only [List.mem_append, List.mem_singleton] at hk
    rcases hk with (h | h) | h | h
    · exact I.lt k (List.mem_append_left _ h)
    · rw [h]; exact hp5
    · exact I.lt k (by simp [mH k h])
    · exact hl5 k h
  · rw [np]
    by_cases hkl : k ∈ l
    · rw [if_pos hkl]
    · have hkH : k ∈ H' := (List.mem_append.mp hk).resolve_right hkl
      have hk2 := mH k hkH
      have hks : k ∉ sucOf needs 5 p := fun h => hsn k h (by simp [hk2])
      have hkp : k ≠ p := fun e => by
        have := (List.nodup_append.mp hdH).2.1
        exact (List.nodup_cons.mp this).1 (e ▸ hkH)
      rw [if_neg hkl, if_neg hks, if_neg hkp]
      exact I.np1 k (by simp [hk2])
  · simp only [List.mem_append, List.mem_singleton, not_or] at hn
    obtain ⟨⟨n1, n2⟩, n3, n4⟩ := hn
    have hnH : k ∉ d ++ (H ++ []) := fun hm => by
      rw [List.append_nil] at hm
      have := (hp.append_left d).mem_iff.mpr hm
      simp only [List.mem_append, List.mem_cons] at this
      rcases this with h | h | h
      · exact n1 h
      · exact n2 h
      · exact n3 h
    obtain ⟨c1, c2⟩ := I.np2 k hk hnH
    rw [np, if_neg n4]
    by_cases hks : k ∈ sucOf needs 5 p
    · rw [if_pos hks]
      have hc := cnt_add (hN.nd k hk) ((hsm k).mp hks).2 hpd
      have hne : g.np k - 1 ≠ 0 := fun h => n4 ((hlm k).mpr ⟨hks, h⟩)
      refine ⟨by rw [c1]; omega, fun h => hne ?_⟩
      rw [h, List.length_nil] at hc
      rw [c1]; omega
    · rw [if_neg hks, if_neg n2, cnt_same fun h => hks ((hsm k).mpr ⟨hk, h⟩)]
      exact ⟨c1, c2⟩
  · simp only [List.mem_append, List.mem_singleton] at hk ⊢
    rcases hk with (h | h) | h | h
    · exact .inl (I.av k (List.mem_append_left _ h) j hj)
    · subst h
      exact .inl (I.av k (by simp [hpH]) j hj)
    · exact .inl (I.av k (by simp [mH k h]) j hj)
    · obtain ⟨hks, h0⟩ := (hlm k).mp h
      have hk5 := ((hsm k).mp hks).1
      obtain ⟨c1, c2⟩ := I.np2 k hk5 (hsn k hks)
      have hc := cnt_add (hN.nd k hk5) ((hsm k).mp hks).2 hpd
      refine Classical.byContradiction fun hnj => ?_
      have : j ∈ (needs k).filter fun j => !(d ++ [p]).contains j := List.mem_filter.mpr ⟨hj, by simpa using hnj⟩
      have := List.length_pos_of_mem this
      rw [c1] at h0
      omega
theorem Inv.avail {needs : Nat → List Nat} {g : St} {d H : List Nat} (I : Inv needs g d H []) (k : Nat) : k ∈ H ↔ k ∈ Mine.avail needs d := by
  unfold Mine.avail
  rw [List.mem_filter, List.mem_range]
  constructor
  · intro hk
    have hk' : k ∈ H ++ [] := List.mem_append_left _ hk
    refine ⟨I.lt k (List.mem_append_right _ hk'), ?_⟩
    have hd : k ∉ d := fun h => (List.nodup_append.mp I.nd).2.2 k h k hk' rfl
    simp only [Bool.and_eq_true, Bool.not_eq_true', List.all_eq_true]
    exact ⟨by simpa using hd, fun j hj => by simpa using I.av k (List.mem_append_right _ hk') j hj⟩
  · rintro ⟨hk, h⟩
    simp only [Bool.and_eq_true, Bool.not_eq_true', List.all_eq_true] at h
    have hd : k ∉ d := by simpa using h.1
    refine Classical.byContradiction fun hn => ?_
    refine (I.np2 k hk fun hm => ?_).2 (List.filter_eq_nil_iff.mpr fun j hj => ?_)
    · rcases List.mem_append.mp hm with hm | hm
      · exact hd hm
      · rw [List.append_nil] at hm; exact hn hm
    · have := h.2 j hj
      simpa using this
theorem Inv.more {needs : Nat → List Nat} (hN : Needs needs) {g : St} {d H l : List Nat} (I : Inv needs g d H l) (hd : d.length < 5) : H ++ l ≠ [] := fun e => by
  have all : ∀ n k, k < n → k < 5 → k ∈ d := by
    intro n
    induction n with
    | zero => intro k h _; exact absurd h (Nat.not_lt_zero _)
    | succ n ih =>
      intro k hkn hk
      refine Classical.byContradiction fun hn => ?_
      refine (I.np2 k hk fun hm => ?_).2 (List.filter_eq_nil_iff.mpr fun j hj => ?_)
      · rw [e, List.append_nil] at hm; exact hn hm
      · have hj5 := hN.lt k hk j hj
        have := ih j (by omega) (by omega)
        simpa using this
  have := len_le_sub (l₁ := List.range 5) (l₂ := d) List.nodup_range fun x hx => all 5 x (by simpa using hx) (by simpa using hx)
  rw [List.length_range] at this
  omega
theorem Inv.small {needs : Nat → List Nat} {g : St} {d H l : List Nat} (I : Inv needs g d H l) : d.length + H.length + l.length ≤ 5 := by
  have := len_le_range I.nd I.lt
  simp only [List.length_append] at this
  omega
/-- a list that keeps the heap's law -/
def HeapI (nm : Addr → Str) (its : List Addr) : Prop := ∀ i, 0 < i → i < its.length → ltN nm (its.getD ((i - 1) / 2) 0) (its.getD i 0) = true
theorem HeapI.congr {nm nm' : Addr → Str} {its : List Addr} (h : HeapI nm its) (e : ∀ a ∈ its, nm a = nm' a) : HeapI nm' its := fun i hi hl => by
  have h1 := h i hi hl
  have m : ∀ j, j < its.length → its.getD j 0 ∈ its := fun j hj => by
    rw [List.getD_eq_getElem?_getD, List.getElem?_eq_getElem hj]
    exact List.getElem_mem hj
  unfold ltN at h1 ⊢
  rw [← e _ (m i hl), ← e _ (m _ (by omega))]
  exact h1
theorem push_ok {nm : Addr → Str} {its : List Addr} {it : Addr} (h : HeapI nm its) (hl : its.length ≤ 4) (hnd : (its ++ [it]).Nodup) (hnm : ∀ a ∈ its ++ [it], ∀ c ∈ its ++ [it], a ≠ c → nm a ≠ nm c) : HeapI nm (pushL nm its it) ∧ (pushL nm its it).Perm (its ++ [it]) :=
  push_heap (ltN_lin hnm) hnd h hl
theorem pop_ok {nm : Addr → Str} {its : List Addr} {x : Addr} (h : HeapI nm (its ++ [x])) (hl : its.length ≤ 4) (hnd : (its ++ [x]).Nodup) (hnm : ∀ a ∈ its ++ [x], ∀ c ∈ its ++ [x], a ≠ c → nm a ≠ nm c) : HeapI nm (popL nm its x) ∧ (popV its x :: popL nm its x).Perm (its ++ [x]) ∧ ∀ a ∈ its ++ [x], a ≠ popV its x → ltN nm (popV its x) a = true := by
  cases its with
  | nil =>
    refine ⟨fun i h0 h1 => absurd h1 (Nat.not_lt_zero _), List.Perm.refl _, fun a ha hne => ?_⟩
    exact absurd (List.mem_singleton.mp ha) hne
  | cons a r => exact pop_heap (ltN_lin hnm) hnd h (by simp only [List.length_cons] at hl; omega)
end Mine
end
section
open PySem PySem.W PyProof.Rows PySem.Calls
set_option maxRecDepth 100000
set_option maxHeartbeats 8000000
set_option linter.unusedVariables false
namespace Mine
section
variable {w : World} {dn : Nat} {b : Bs w dn} {k : Cd} {m : Map} {N : Led} {rest : List Stmt} {en : Env}
theorem SX.forR {C : Flow → Map → Led → Prop} {x : Str} {px pos : Pos} {e : Expr} {body : List Stmt} {n : Nat} {P : Nat → Value → Prop} {objs : Led} (J : Nat → Map → Led → Prop) (he : WE b k m N e (fun v m' N' => Srcs b k N' v n P objs ∧ ∃ N₀, (∀ p ∈ N₀, p ∈ N') ∧ J 0 m' N₀)) (hJ : ∀ i m₁ N₁, J i m₁ N₁ → ∀ p ∈ objs, p ∈ N₁)
    (turn : ∀ i v m₁ N₁ It oI, i < n → P i v → J i m₁ N₁ → (∀ p ∈ N₁, p.1 ≠ It) → SX b k (setv m₁ x v) ((It, oI) :: N₁) body (fun f m' N' => match f with
      | .ret v => C (.ret v) m' N'
      | .brk => SX b k m' N' rest C
      | _ => ∃ N₂, (∀ p ∈ (It, oI) :: N₂, p ∈ N') ∧ (∀ p ∈ N₂, p.1 ≠ It) ∧ J (i + 1) m' N₂))
    (done : ∀ m₁ N₁, J n m₁ N₁ → SX b k m₁ N₁ rest C) (hx : autoParam ((k.env b.L).kindOf x = some .local) tRfl) (hs : autoParam (∀ x, foldedSetIterable e (k.env b.L) x = pure x) tIRfl) : SX b k m N (.For (.Name x px) e body [] pos :: rest) C := by
  refine SX.forS (n := n) (P := P) (objs := objs) (J := fun i m N => ∃ N₀, (∀ p ∈ N₀, p ∈ N) ∧ J i m N₀) he (fun i m₁ N₁ ⟨N₀, hs, hj⟩ p hp => hs p (hJ i m₁ N₀ hj p hp)) (fun i v m₁ N₁ It oI hi hP ⟨N₀, hs, hj⟩ ho => ?_) (fun m₁ N₁ ⟨N₀, hs, hj⟩ => Wx.sub (done m₁ N₀ hj) hs) hx hs
  refine Wx.sub (N' := (It, oI) :: N₀) ((turn i v m₁ N₀ It oI hi hP hj fun p hp => ho p (hs p hp)).mono ?_) (fun p hp => ?_)
  · intro f m' N' c
    cases f with
    | ret v => exact c
    | brk => exact c
    | next => obtain ⟨N₂, a1, a2, a3⟩ := c; exact ⟨N₂, a1, a2, N₂, fun _ h => h, a3⟩
    | cont => obtain ⟨N₂, a1, a2, a3⟩ := c; exact ⟨N₂, a1, a2, N₂, fun _ h => h, a3⟩
  · rcases List.mem_cons.mp hp with rfl | hp
    · exact List.mem_cons_self ..
    · exact List.mem_cons_of_mem _ (hs p hp)
theorem WT.someLeft {x y : Expr} {u : Nat} {p1 p2 p3 p4 pos : Pos} {aH T : Addr} {vs ws : List Value} {n : Nat} {C : Bool → Map → Led → Prop} (hx : ∀ N', XE b k en m N' x (IsV (.ref aH))) (hy : ∀ N', XE b k en m N' y (IsV (.ref T))) (h1 : (aH, listOf vs.toArray n) ∈ N) (h2 : (T, tupO ws) ∈ N) (h0 : vs ≠ [] ∨ ws ≠ []) (h : ∀ N', (∀ p ∈ N, p ∈ N') → C true m N')
    (m1 : autoParam (behindInMarks .NotEq (.List [] p1) = false) tUn) (m2 : autoParam (behindInMarks .NotEq (.Tuple [] u p3) = false) tUn) : WT b k en m N (.BoolOp .Or [.Compare x [.NotEq] [.List [] p1] p2, .Compare y [.NotEq] [.Tuple [] u p3] p4] pos) C := by
  refine WT.or (WT.cmp (hx _) (WE.listE Ars.nil (fun vs e => by rw [e]; decide) fun l vs' e lt => ?_) m1)
  subst e
  refine ⟨_, Rd.neNil (vs := vs) (n := n) (List.mem_cons_of_mem _ h1) (List.mem_cons_self ..), fun hc => ?_, fun _ => h _ fun p hp => List.mem_cons_of_mem _ hp⟩
  have hv : vs = [] := by cases vs with
    | nil => rfl
    | cons a c => cases hc
  have hw : ws ≠ [] := h0.resolve_left fun e => e hv
  refine WT.or (WT.cmp (hy _) (WXE.tup0 fun T' lt' => ?_) m2)
  refine ⟨_, Rd.neTup0 (vs := ws) (List.mem_cons_of_mem _ (List.mem_cons_of_mem _ h2)) (List.mem_cons_self ..), fun hc => ?_, fun _ => h _ fun p hp => List.mem_cons_of_mem _ (List.mem_cons_of_mem _ hp)⟩
  cases ws with
  | nil => exact absurd rfl hw
  | cons a c => cases hc
theorem Rd.isTup : Rd b k m N (compareOp .Is (.type "tuple") (.type "tuple")) (IsV (.bool true)) := fun s Q F N' hQ => fun Γ p hΓ => hQ _ s.toks rfl
/-- type(r) is tuple and r2 == () and what comes behind -/
theorem WXE.readyAsk {r r2 z f tt : Expr} {u : Nat} {p1 p2 p3 p4 pos : Pos} {T T2 : Addr} {vs : List Value} {C : Value → Map → Led → Prop} (hf : XE b k en m N f (IsV (.type "type"))) (hr : XE b k en m N r (IsV (.ref T))) (htt : XE b k en m N tt (IsV (.type "tuple"))) (hr2 : XE b k en m N r2 (IsV (.ref T2))) (hT : (T, tupO vs) ∈ N) (hT2 : (T2, tupO []) ∈ N) (h : ∀ T' , (∀ p ∈ N, p.1 < T') → WXE b k en m ((T', tupO []) :: N) z C)
    (h1 : autoParam (eval (.Call f [r] [] p1) en = (do callWith p1 (← eval f en) [] (backTo p1 (starEach [r] en)) (backToKw p1 (keywordEach [] en)))) tRfl)
    (he : autoParam (starEach [r] en = (false, eval r en) :: starEach [] en) tRfl) (m1 : autoParam (behindInMarks .Is tt = false) tUn) (m2 : autoParam (behindInMarks .Eq (.Tuple [] u p3) = false) tUn) :
    WXE b k en m N (.BoolOp .And [.Compare (.Call f [r] [] p1) [.Is] [tt] p2, .Compare r2 [.Eq] [.Tuple [] u p3] p4, z] pos) C := by
  refine WXE.and (WXE.cmp ((Ex.typeOf1 hf hr hT rfl (by decide) h1 he).wx fun v hv => htt.wx fun v2 hv2 => ?_) m1)
  cases hv; cases hv2
  refine ⟨true, Rd.isTup, true, rfl, fun _ => ?_, fun h => by cases h⟩
  refine WXE.and (WXE.cmp (hr2.wx fun v hv => WXE.tup0 fun T' lt => ?_) m2)
  cases hv
  exact ⟨true, (Rd.eqTup0 (vs := []) (List.mem_cons_of_mem _ hT2) (List.mem_cons_self ..)), true, rfl, fun _ => WXE.boolLast (h T' lt), fun h => by cases h⟩
end
end Mine
end
section
open PySem PySem.W PyProof.Rows PySem.Calls
set_option maxRecDepth 100000
set_option maxHeartbeats 8000000
namespace Mine
set_option linter.unusedVariables false
def AreS : List Value → List Str → Prop
  | [], [] => True
  | v :: vs, x :: xs => IsS x v ∧ AreS vs xs
  | _, _ => False
theorem AreS.app : ∀ {vs : List Value} {l : List Str} {v : Value} {x : Str}, AreS vs l → IsS x v → AreS (vs ++ [v]) (l ++ [x])
  | [], [], _, _, _, h => ⟨h, trivial⟩
  | _ :: _, _ :: _, _, _, h, h2 => ⟨h.1, AreS.app h.2 h2⟩
theorem AreS.len : ∀ {vs : List Value} {l : List Str}, AreS vs l → vs.length = l.length
  | [], [], _ => rfl
  | _ :: _, _ :: _, h => by simp [AreS.len h.2]
theorem nodup_of_map {α β : Type} {f : α → β} {l : List α} (h : (l.map f).Nodup) : l.Nodup := (List.pairwise_map.mp h).imp fun hne e => hne (congrArg f e)
theorem inj_of_map {α β : Type} {f : α → β} {l : List α} {a c : α} (h : (l.map f).Nodup) (ha : a ∈ l) (hc : c ∈ l) (e : f a = f c) : a = c := by
  induction l with
  | nil => cases ha
  | cons x l ih =>
    rw [List.map_cons, List.nodup_cons] at h
    rcases List.mem_cons.mp ha with h1 | h1
    · rcases List.mem_cons.mp hc with h2 | h2
      · exact h1.trans h2.symm
      · exact absurd (by rw [← h1, e]; exact List.mem_map_of_mem h2) h.1
    · rcases List.mem_cons.mp hc with h2 | h2
      · exact absurd (by rw [← h2, ← e]; exact List.mem_map_of_mem h1) h.1
      · exact ih h.2 h1 h2
structure OffIn (names : Nat → Str) (needs : Nat → List Nat) (aN aD : Addr) (vn vd : List Value) (n1 n2 : Nat) (N₀ : Led) : Prop where
  ok : Needs needs
  inj : ∀ i, i < 5 → ∀ j, j < 5 → names i = names j → i = j
  an : (aN, listOf vn.toArray n1) ∈ N₀
  vn : ∀ i, i < 5 → ∃ t, vn[i]? = some (.str (names i) t)
  ad : (aD, listOf vd.toArray n2) ∈ N₀
  vd : ∀ i, i < 5 → ∃ a us n, vd[i]? = some (.ref a) ∧ (a, listOf us.toArray n) ∈ N₀ ∧ AreN us (needs i)
section
variable {w : World} {dn : Nat} {b : Bs w dn} {k : Cd} {m : Map} {N : Led} {rest : List Stmt} {en : Env}
theorem WE.fnW {f : Expr} {e : Expr} {es : List Expr} {pos : Pos} {a : Addr} {C : Value → Map → Led → Prop} (hf : XE b k en m N f (IsV (.ref a))) (hk : keepIn (Kh w.params) (.ref a) = true) (ha : WArs b k en m N (e :: es) (fun vs m' N' => Wx b k m' N' (PySem.call (.ref a) vs) C))
    (h1 : autoParam (eval (.Call f (e :: es) [] pos) en = (do callWith pos (← eval f en) [] (backTo pos (starEach (e :: es) en)) (backToKw pos (keywordEach [] en)))) tRfl)
    (he : autoParam (starEach (e :: es) en = (false, eval e en) :: starEach es en) tRfl) (hplain : autoParam ((backTo pos (starEach es en)).any (·.1) = false) tRfl) : WXE b k en m N (.Call f (e :: es) [] pos) C :=
  fun s Q F N hQ => Call_ (hf s _ F N fun fv tk p => by cases p; exact callWith_K F.amb.inK hk (ha pos _ _ F N fun vs m' N' h' tk2 p2 F' NN => ⟨F'.amb.inK.keeps F'.keep, p2 _ Q F' NN hQ⟩) he hplain) h1
end
def OffM (aN aD zS aH aO aR : Addr) (m : Map) : Prop := m (Str.ofString "names") = some (.ref aN) ∧ m (Str.ofString "needs") = some (.ref aD) ∧ m (Str.ofString "sorter") = some (.ref zS) ∧ m (Str.ofString "heap") = some (.ref aH) ∧ m (Str.ofString "order") = some (.ref aO) ∧ m (Str.ofString "right") = some (.ref aR)
def OffJ (w : World) (names : Nat → Str) (needs : Nat → List Nat) (aN aD : Addr) (N₀ : Led) (i : Nat) (m : Map) (N : Led) : Prop :=
  ∃ g z led rl d its, ∃ pl : Addr → Nat, ∃ l T vs T2 aH nH aO vo nO aR nR, i = 5 - d.length ∧ N = led ++ (aH, listOf (its.map Value.ref).toArray nH) :: rl ∧ Apart led ((aH, listOf (its.map Value.ref).toArray nH) :: rl) ∧ (∀ p ∈ rl, p.1 ≠ aH) ∧ Gs w g z led ∧ Inv needs g d (its.map pl) l ∧ GreedyOk names needs d ∧ HeapI (fun a => names (pl a)) its ∧
    (∀ a ∈ its, IsItem rl a (names (pl a)) (pl a)) ∧ (T, tupO vs) ∈ rl ∧ AreN vs l ∧ (T2, tupO []) ∈ rl ∧ (aO, listOf vo.toArray nO) ∈ rl ∧ AreS vo (d.map names) ∧ (aR, listOf (List.replicate d.length (Value.bool true)).toArray nR) ∈ rl ∧ (∀ p ∈ N₀, p ∈ rl) ∧
    m (Str.ofString "names") = some (.ref aN) ∧ m (Str.ofString "needs") = some (.ref aD) ∧ m (Str.ofString "sorter") = some (.ref z.S) ∧ m (Str.ofString "heap") = some (.ref aH) ∧ m (Str.ofString "order") = some (.ref aO) ∧ m (Str.ofString "right") = some (.ref aR) ∧ m (Str.ofString "ready") = some (.ref T) ∧ m (Str.ofString "behind") = some (.ref T2)
theorem off_spec (w : World) (names : Nat → Str) (needs : Nat → List Nat) (aN aD : Addr) (vn vd : List Value) (n1 n2 : Nat) (N₀ : Led) (I : OffIn names needs aN aD vn vd n1 n2 N₀) :
  SpecT w 223 9 [.ref aN, .ref aD] N₀ (fun r n' => ∃ A O R vo nO nR nA d, r = .ref A ∧ (A, listOf [Value.ref O, .ref R, .bool false].toArray nA) ∈ n' ∧ (O, listOf vo.toArray nO) ∈ n' ∧ (R, listOf (List.replicate 5 (Value.bool true)).toArray nR) ∈ n' ∧ AreS vo (d.map names) ∧ d.length = 5 ∧ GreedyOk names needs d ∧ ∀ p ∈ N₀, p ∈ n') := by
  k_dflt (refine' enterT (binds := [(Str.ofString "names", .ref aN), (Str.ofString "needs", .ref aD)]) ?k6 ?k7 ?k9 ?kB ?c2 ?c3 ?c4 ?c5 ?_; (case k6 => k_is); (case k7 => k_is); (case k9 => exact fun _ _ => BindsTo.of_eq rfl); (case c5 => decide); (case kB => exact locs rfl); (case c2 => exact rfl); (case c3 => exact rfl); (case c4 => exact rfl); k_whole)
  intro b Tu

  refine SX.abs fun C hC => ?_
  have hN := I.ok
  refine SX.unpackT (WXE.tupW (WArs.cons (WE.fn0 (Ex.glob (by k_is)) (by k_is) (Wx.spec (make_G w N₀) fun r n' hr => ?_))))
  obtain ⟨z, rfl, led, rfl, ap, G⟩ := hr
  refine WArs.cons (WE.listE Ars.nil (fun vs e => by rw [e]; decide) fun aH vs e ltH => ?_)
  subst e
  refine WArs.cons (WE.listE Ars.nil (fun vs e => by rw [e]; decide) fun aO vs e ltO => ?_)
  subst e
  refine WArs.cons (WE.listE Ars.nil (fun vs e => by rw [e]; decide) fun aR vs e ltR => ?_)
  subst e
  refine WArs.nil ⟨by simp, fun T4 ltT => ?_⟩
  refine ⟨T4, [(Str.ofString "sorter", .ref z.S), (Str.ofString "heap", .ref aH), (Str.ofString "order", .ref aO), (Str.ofString "right", .ref aR)], rfl, .inl (List.mem_cons_self ..), rfl, ⟨⟨fun v s Q h => PyProof.Rows.assign_Name h, rfl⟩, ⟨fun v s Q h => PyProof.Rows.assign_Name h, rfl⟩, ⟨fun v s Q h => PyProof.Rows.assign_Name h, rfl⟩, ⟨fun v s Q h => PyProof.Rows.assign_Name h, rfl⟩, trivial⟩, ?_⟩
  generalize hm0 : setsv (fun y => List.lookup y [(Str.ofString "names", Value.ref aN), (Str.ofString "needs", .ref aD)].reverse) [(Str.ofString "sorter", Value.ref z.S), (Str.ofString "heap", .ref aH), (Str.ofString "order", .ref aO), (Str.ofString "right", .ref aR)] = m0
  have hM : OffM aN aD z.S aH aO aR m0 := by subst hm0; exact ⟨rfl, rfl, rfl, rfl, rfl, rfl⟩
  clear hm0
  have ltH0 : ∀ p ∈ N₀, p.1 < aH := fun p hp => ltH p (List.mem_append_right _ hp)
  have lHO : aH < aO := ltO _ (List.mem_cons_self ..)
  have lOR : aO < aR := ltR _ (List.mem_cons_self ..)
  refine Wx.sub (N' := led ++ ((aR, listOf ([] : List Value).toArray 0) :: (aO, listOf ([] : List Value).toArray 0) :: (aH, listOf ([] : List Value).toArray 0) :: N₀)) ?_ (fun p hp => ?_)
  rotate_left
  · rcases List.mem_append.mp hp with hp | hp
    · (first | ((repeat (first | exact hp | exact memH hp | exact List.mem_append_left _ hp | refine List.mem_cons_of_mem _ ?_ | refine List.mem_append_right _ ?_)); done) | simp [hp])
    · repeat (first | (rcases List.mem_cons.mp hp with h | hp; focus (repeat (first | exact h | exact memH h | exact List.mem_append_left _ h | refine List.mem_cons_of_mem _ ?_ | refine List.mem_append_right _ ?_))) | (rcases List.mem_append.mp hp with h | hp; focus (repeat (first | exact h | exact memH h | exact List.mem_append_left _ h | refine List.mem_cons_of_mem _ ?_ | refine List.mem_append_right _ ?_))) | (focus (repeat (first | exact hp | exact memH hp | exact List.mem_append_left _ hp | refine List.mem_cons_of_mem _ ?_ | refine List.mem_append_right _ ?_))) | exact absurd hp List.not_mem_nil)
  generalize hrl : ((aR, listOf ([] : List Value).toArray 0) :: (aO, listOf ([] : List Value).toArray 0) :: (aH, listOf ([] : List Value).toArray 0) :: N₀) = rl
  have hap1 : Apart led rl := fun p hp r hr => by
    have hp' : p ∈ led ++ N₀ := List.mem_append_left _ hp
    have h1 := ltH p hp'
    subst hrl
    rcases List.mem_cons.mp hr with rfl | hr
    rotate_left 1
    rcases List.mem_cons.mp hr with rfl | hr
    rotate_right 1
    rotate_left 2
    rcases List.mem_cons.mp hr with rfl | hr
    rotate_right 2
    · exact Nat.ne_of_lt (Nat.lt_trans h1 (Nat.lt_trans lHO lOR))
    · exact Nat.ne_of_lt (Nat.lt_trans h1 lHO)
    · exact Nat.ne_of_lt h1
    · exact ap p hp r hr
  have hb0 : ∀ p ∈ N₀, p ∈ rl := fun p hp => by subst hrl; (first | ((repeat (first | exact hp | exact memH hp | exact List.mem_append_left _ hp | refine List.mem_cons_of_mem _ ?_ | refine List.mem_append_right _ ?_)); done) | simp [hp])
  obtain ⟨z0, hz0⟩ : ∃ z0, z0 = z.S := ⟨_, rfl⟩
  rw [← hz0] at hM
  refine SX.forR (n := 5) (P := fun i v => IsI (i : Int) v) (objs := []) (fun i m N => OffM aN aD z0 aH aO aR m ∧ ∃ z led, z.S = z0 ∧ N = led ++ rl ∧ Apart led rl ∧ Gs w (gAdd needs i) z led) (WE.range (Ex.blt (by k_is) (by boot_by_name)) Ex.lit fun r t u v lt => ⟨Srcs.range (List.mem_cons_self ..) rfl (by decide), _, fun p hp => List.mem_cons_of_mem _ hp, hM, z, led, hz0.symm, rfl, hap1, G⟩) (fun i m₁ N₁ _ p hp => (nomatch hp)) ?_ ?_
  · rintro i v m₁ N₁ It oI hi ⟨ti, rfl⟩ ⟨hM1, z1, led1, hz1, rfl, ap1, G1⟩ ho
    refine SX.abs fun C1 hC1 => ?_
    have hM1 : OffM aN aD z0 aH aO aR (setv m₁ (Str.ofString "k") (.int (i : Int) ti)) := hM1
    have hk1 : setv m₁ (Str.ofString "k") (.int (i : Int) ti) (Str.ofString "k") = some (.int (i : Int) ti) := rfl
    generalize setv m₁ (Str.ofString "k") (.int (i : Int) ti) = m2 at hM1 hk1 ⊢
    have ap2 : Apart led1 ((It, oI) :: rl) := apart_cons ap1 fun p hp => ho p (List.mem_append_left _ hp)
    refine Wx.sub (N' := led1 ++ (It, oI) :: rl) ?_ sub_mid
    refine SX.funs fun hf => ?_
    have hfl : Fun led1 := fun a o o' h h' => hf a o o' (List.mem_append_left _ h) (List.mem_append_left _ h')
    obtain ⟨g1, g2, _, _, g5, _⟩ := gAdd_ok hN i (by omega)
    obtain ⟨k1, k2, k3, k4, t3, t4, hd⟩ := G1.d
    subst hz1
    refine SX.expr (WE.meth (Ex.name hM1.2.2.1) (List.mem_append_left _ G1.s) (List.mem_append_left _ hd) (by k_is) (by k_is) (by k_is) rfl (by k_is) (Ars.one (Ex.nameI hk1)) fun vs hvs => ?_)
    obtain ⟨v, rfl, tv, rfl⟩ := hvs
    refine Wx.spec (add_spec w (gAdd needs i) z1 led1 ((It, oI) :: rl) i tv [] G1 hfl ap2 g2 (by omega) (by omega) (fun j => by rw [g5]; exact Nat.le_trans (sucOf_len _ _ _) (by omega)) (fun p hp => (nomatch hp)) [] (by decide) trivial) fun r n' hr => ?_
    obtain ⟨rfl, z2, hz2, led2, rfl, ap3, G2⟩ := hr
    refine ⟨rfl, ?_⟩
    obtain ⟨a, us, nu, hvd, hau, hus⟩ := I.vd i hi
    have hM2 := hM1
    rw [← hz2] at hM2
    refine SX.for_ (l := a) (vs := us) (fun j m N => OffM aN aD z2.S aH aO aR m ∧ (∃ t, m (Str.ofString "k") = some (.int (i : Int) t)) ∧ ∃ z led, z.S = z2.S ∧ N = led ++ (It, oI) :: rl ∧ Apart led ((It, oI) :: rl) ∧ Gs w (gIn needs i j) z led) (Ex.item (Ex.name hM2.2.1) (Ex.nameI hk1) (List.mem_append_right _ (List.mem_cons_of_mem _ (hb0 _ I.ad))) hvd (by omega)) ⟨hM2, ⟨ti, hk1⟩, z2, led2, rfl, rfl, ap3, G2⟩ (Or.inr ⟨nu, fun j m N ⟨_, _, z, led, _, e, _⟩ => by rw [e]; exact List.mem_append_right _ (List.mem_cons_of_mem _ (hb0 _ hau))⟩) ?_ ?_
    · rintro j v m₃ N₃ It2 oI2 hj ⟨hM3, ⟨t3, hk3⟩, z3, led3, hz3, rfl, ap4, G3⟩ ho2
      refine SX.abs fun C2 hC2 => ?_
      obtain ⟨q, tq, hjq, rfl⟩ := hus.get hj
      have hM3 : OffM aN aD z2.S aH aO aR (setv m₃ (Str.ofString "need") (.int (q : Int) tq)) := hM3
      have hk3 : setv m₃ (Str.ofString "need") (.int (q : Int) tq) (Str.ofString "k") = some (.int (i : Int) t3) := hk3
      have hk4 : setv m₃ (Str.ofString "need") (.int (q : Int) tq) (Str.ofString "need") = some (.int (q : Int) tq) := rfl
      generalize setv m₃ (Str.ofString "need") (.int (q : Int) tq) = m4 at hM3 hk3 hk4 ⊢
      have ap5 : Apart led3 ((It2, oI2) :: (It, oI) :: rl) := apart_cons ap4 fun p hp => ho2 p (List.mem_append_left _ hp)
      refine Wx.sub (N' := led3 ++ (It2, oI2) :: (It, oI) :: rl) ?_ sub_mid
      refine SX.funs fun hf3 => ?_
      have hfl3 : Fun led3 := fun a o o' h h' => hf3 a o o' (List.mem_append_left _ h) (List.mem_append_left _ h')
      have hjl : j < (needs i).length := (List.getElem?_eq_some_iff.mp hjq).1
      obtain ⟨i1, i2, i3⟩ := gIn_ok hN hi (Nat.le_of_lt hjl)
      have hq := hN.lt i hi q (List.mem_of_getElem? hjq)
      obtain ⟨k1, k2, k3, k4, t5, t6, hd3⟩ := G3.d
      rw [← hz3] at hM3
      refine SX.expr (WE.meth (Ex.name hM3.2.2.1) (List.mem_append_left _ G3.s) (List.mem_append_left _ hd3) (by k_is) (by k_is) (by k_is) rfl (by k_is) (Ars.cons (Ex.nameI hk3) (Ars.one (Ex.nameI hk4))) fun vs hvs => ?_)
      obtain ⟨v, us', rfl, ⟨tv3, rfl⟩, v2, rfl, tv4, rfl⟩ := hvs
      refine Wx.spec (add_spec w (gIn needs i j) z3 led3 ((It2, oI2) :: (It, oI) :: rl) i tv3 [q] G3 hfl3 ap5 i2 (by omega) (by omega) i3 (fun p hp => by rw [List.mem_singleton.mp hp]; omega) [.int (q : Int) tv4] (Nat.le_refl _) ⟨⟨tv4, rfl⟩, trivial⟩) fun r n' hr => ?_
      obtain ⟨rfl, z4, hz4, led4, rfl, ap6, G4⟩ := hr
      refine ⟨rfl, SX.nil (hC2 _ _ _ ⟨led4 ++ (It, oI) :: rl, sub_mid', fun p hp => ?_, ?_, ⟨t3, hk3⟩, z4, led4, hz4.trans hz3, rfl, apart_tail ap6, ?_⟩)⟩
      · rcases List.mem_append.mp hp with hp | hp
        · exact ap6 p hp _ (List.mem_cons_self ..)
        · exact ho2 p (List.mem_append_right _ hp)
      · rw [hz3] at hM3; exact hM3
      · have e : gIn needs i (j + 1) = (gIn needs i j).addAll i [q] := by
          unfold gIn
          rw [List.take_add_one, hjq, List.foldl_append]; rfl
        rw [e]; exact G4
    · rintro m₃ N₃ ⟨hM3, _, z3, led3, hz3, rfl, ap4, G3⟩
      have e : gIn needs i us.length = gAdd needs (i + 1) := by
        unfold gIn
        rw [hus.len, List.take_length]; rfl
      rw [e] at G3
      refine SX.nil (hC1 _ _ _ ⟨led3 ++ rl, sub_mid', fun p hp => ?_, ?_, z3, led3, hz3.trans hz2, rfl, apart_tail ap4, G3⟩)
      · rcases List.mem_append.mp hp with hp | hp
        · exact ap4 p hp _ (List.mem_cons_self ..)
        · exact ho p (List.mem_append_right _ hp)
      · rw [hz2] at hM3; exact hM3
  · rintro m₁ N₁ ⟨hM1, z1, led1, hz1, rfl, ap1, G1⟩
    subst hz1
    obtain ⟨g1, g2, g3, g4, g5, _⟩ := gAdd_ok hN 5 (Nat.le_refl _)
    obtain ⟨k1, k2, k3, k4, t3, t4, hd⟩ := G1.d
    refine SX.expr (WE.meth0 (Ex.name hM1.2.2.1) (List.mem_append_left _ G1.s) (List.mem_append_left _ hd) (by k_is) (by k_is) (by k_is) rfl (by k_is) (Wx.specT Tu (prep_spec w (gAdd needs 5) z1 led1 rl G1 ap1 g2 (by omega) (gAdd_prep hN)) fun r n' hr => ?_))
    obtain ⟨rfl, D, led2, hsub2, ap2, G2⟩ := hr
    refine ⟨rfl, Wx.sub (N' := led2 ++ rl) ?_ hsub2⟩
    obtain ⟨l, hl1, hl2, hl3, Iv⟩ := Inv.start hN
    obtain ⟨k1, k2, k3, k4, t3, t4, hd⟩ := G2.d
    have hzS : ({ z1 with RD := D } : Wires).S = z1.S := rfl
    generalize ({ z1 with RD := D } : Wires) = z2 at G2 hd hzS
    rw [← hzS] at hM1
    refine SX.swapT (WXE.tupW (WArs.cons (WE.meth0 (Ex.name hM1.2.2.1) (List.mem_append_left _ G2.s) (List.mem_append_left _ hd) (by k_is) (by k_is) (by k_is) rfl (by k_is) (Wx.spec (ready_spec w _ z2 led2 rl G2 ap2 l hl1 hl2 hl3) fun r n' hr => ?_))))
    obtain ⟨T1, vs1, led3, rfl, rfl, hv1, hT1, ap3, G3⟩ := hr
    obtain ⟨k1, k2, k3, k4, t3, t4, hd3⟩ := G3.d
    refine WArs.cons (WE.meth0 (Ex.name hM1.2.2.1) (List.mem_append_left _ G3.s) (List.mem_append_left _ hd3) (by k_is) (by k_is) (by k_is) rfl (by k_is) (Wx.spec (ready_spec w _ z2 led3 ((T1, tupO vs1) :: rl) G3 ap3 [] rfl (by decide) (fun p hp => (nomatch hp))) fun r n' hr => ?_))
    obtain ⟨T2, vs2, led4, rfl, rfl, hv2, hT2, ap4, G4⟩ := hr
    have hvs2 : vs2 = [] := by cases vs2 with
      | nil => rfl
      | cons a c => exact hv2.elim
    subst hvs2
    refine WArs.nil ⟨by simp, fun T3 ltT3 => ?_⟩
    refine ⟨T3, [(Str.ofString "behind", .ref T2), (Str.ofString "ready", .ref T1)], rfl, List.mem_cons_self .., rfl, ⟨⟨fun v s Q h => PyProof.Rows.bindName_ h, rfl⟩, ⟨fun v s Q h => PyProof.Rows.bindName_ h, rfl⟩, trivial⟩, ?_⟩
    have hM4 : OffM aN aD z2.S aH aO aR (setsv m₁ [(Str.ofString "behind", .ref T2), (Str.ofString "ready", .ref T1)]) := hM1
    have hr4 : setsv m₁ [(Str.ofString "behind", .ref T2), (Str.ofString "ready", .ref T1)] (Str.ofString "ready") = some (.ref T1) := rfl
    have hb4 : setsv m₁ [(Str.ofString "behind", .ref T2), (Str.ofString "ready", .ref T1)] (Str.ofString "behind") = some (.ref T2) := rfl
    generalize setsv m₁ [(Str.ofString "behind", .ref T2), (Str.ofString "ready", .ref T1)] = m4 at hM4 hr4 hb4 ⊢
    subst hrl
    refine Wx.sub (N' := led4 ++ (aH, listOf ([] : List Value).toArray 0) :: (T2, tupO []) :: (T1, tupO vs1) :: (aR, listOf ([] : List Value).toArray 0) :: (aO, listOf ([] : List Value).toArray 0) :: N₀) ?_ (fun p hp => ?_)
    rotate_left
    · repeat (first | (rcases List.mem_cons.mp hp with h | hp; focus (repeat (first | exact h | exact memH h | exact List.mem_append_left _ h | refine List.mem_cons_of_mem _ ?_ | refine List.mem_append_right _ ?_))) | (rcases List.mem_append.mp hp with h | hp; focus (repeat (first | exact h | exact memH h | exact List.mem_append_left _ h | refine List.mem_cons_of_mem _ ?_ | refine List.mem_append_right _ ?_))) | (focus (repeat (first | exact hp | exact memH hp | exact List.mem_append_left _ hp | refine List.mem_cons_of_mem _ ?_ | refine List.mem_append_right _ ?_))) | exact absurd hp List.not_mem_nil)
    refine SX.whileW (OffJ w names needs aN aD N₀) _ ⟨_, z2, led4, _, [], [], fun _ => 0, l, T1, vs1, T2, aH, 0, aO, [], 0, aR, 0, rfl, rfl, fun p hp r hr => ?_, fun p hp => ?_, G4, Iv, fun i h => absurd h (Nat.not_lt_zero _), fun i _ h => absurd h (Nat.not_lt_zero _), fun a ha => (nomatch ha), by simp, hv1, by simp, by simp, trivial, by simp, fun p hp => by (first | ((repeat (first | exact hp | exact memH hp | exact List.mem_append_left _ hp | refine List.mem_cons_of_mem _ ?_ | refine List.mem_append_right _ ?_)); done) | simp [hp]), hM4.1, hM4.2.1, hM4.2.2.1, hM4.2.2.2.1, hM4.2.2.2.2.1, hM4.2.2.2.2.2, hr4, hb4⟩ ?_
    · refine ap4 p hp r ?_
      simp only [List.mem_cons] at hr ⊢
      rcases hr with h | h | h | h | h | h <;> simp_all
    · rcases List.mem_cons.mp hp with rfl | hp
      rotate_left 1
      rcases List.mem_cons.mp hp with rfl | hp
      rotate_right 1
      rotate_left 2
      rcases List.mem_cons.mp hp with rfl | hp
      rotate_right 2
      rotate_left 3
      rcases List.mem_cons.mp hp with rfl | hp
      rotate_right 3
      · exact Nat.ne_of_gt (hT2 (aH, listOf ([] : List Value).toArray 0) (by first | ((repeat (first | exact List.Mem.head _ | refine List.mem_cons_of_mem _ ?_ | refine List.mem_append_right _ ?_)); done) | simp))
      · exact Nat.ne_of_gt (hT1 (aH, listOf ([] : List Value).toArray 0) (by first | ((repeat (first | exact List.Mem.head _ | refine List.mem_cons_of_mem _ ?_ | refine List.mem_append_right _ ?_)); done) | simp))
      · exact Nat.ne_of_gt (Nat.lt_trans lHO lOR)
      · exact Nat.ne_of_gt lHO
      · exact Nat.ne_of_lt (ltH0 p hp)
    clear hM4 hr4 hb4 ltT3 Iv G4 G3 G2 G1 G hap1 hb0
    rintro i mm NN ⟨g, z, led, rl, d, its, pl, l, T, vs, T2, aH, nH, aO, vo, nO, aR, nR, hi, rfl, ap, hH, G, Iv, Gr, Hp, hit, hT, hvs, hT2, hO, hvo, hR, hN0, e1, e2, e3, e4, e5, e6, e7, e8⟩
    have hsm := Iv.small
    rw [List.length_map] at hsm
    have hvl : vo.length = d.length := by rw [hvo.len, List.length_map]
    have inR : ∀ p ∈ rl, p ∈ led ++ (aH, listOf (its.map Value.ref).toArray nH) :: rl := fun p hp => List.mem_append_right _ (List.mem_cons_of_mem _ hp)
    have inL : ∀ p ∈ led, p ∈ led ++ (aH, listOf (its.map Value.ref).toArray nH) :: rl := fun p hp => List.mem_append_left _ hp
    obtain ⟨k1, k2, k3, k4, t3, t4, hd⟩ := G.d
    refine WT.and (WT.of (Tst.ltI (Ex.call1 (Ex.blt (by k_is) (by boot_by_name)) (Ex.name e5) (fun v hv => by cases hv; exact Rd.lenL (vs := vo) (n := nO) (inR _ hO) (by omega))) Ex.lit) ⟨fun hc => ?_, fun hc => ⟨fun h => (by cases h), fun _ => ?_⟩⟩)
    rotate_left
    · have hd5 : d.length = 5 := by
        have := of_decide_eq_false hc
        omega
      refine SX.nil (SX.ret (WXE.listW (WArs.cons ((Ex.name e5).wx fun v hv => WArs.cons ((Ex.name e6).wx fun v2 hv2 => WArs.cons (WE.meth0 (Ex.name e3) (inL _ G.s) (inL _ hd) (by k_is) (by k_is) (by k_is) rfl (by k_is) (Wx.spec (active_spec w g z led _ G [] Iv.rd (by decide)) fun r n' hr => WArs.nil ⟨by simp, fun A ltA => ?_⟩)))))))
      obtain ⟨rfl, rfl⟩ := hr
      cases hv; cases hv2
      have hF : decide (g.F < g.P) = false := by
        rw [Iv.F, Iv.P, List.length_map]
        exact decide_eq_false (by omega)
      rw [hF]
      refine hC _ _ _ ⟨A, aO, aR, vo, nO, nR, 0, d, rfl, List.mem_cons_self .., List.mem_cons_of_mem _ (inR _ hO), ?_, hvo, hd5, Gr, fun p hp => List.mem_cons_of_mem _ (inR _ (hN0 p hp))⟩
      rw [← hd5]
      exact List.mem_cons_of_mem _ (inR _ hR)
    · have hd4 : d.length < 5 := by
        have := of_decide_eq_true hc
        omega
      have hmore := Iv.more hN hd4
      have h0 : its.map Value.ref ≠ [] ∨ vs ≠ [] := by
        cases its with
        | cons a c => exact .inl (by first | ((repeat (first | exact List.Mem.head _ | refine List.mem_cons_of_mem _ ?_ | refine List.mem_append_right _ ?_)); done) | simp)
        | nil =>
          refine .inr fun e => hmore ?_
          subst e
          cases l with
          | nil => rfl
          | cons a c => exact hvs.elim
      refine WT.and (WT.someLeft (fun N' => Ex.name e4) (fun N' => Ex.name e7) (List.mem_append_right _ (List.mem_cons_self ..)) (inR _ hT) h0 fun N' hN' => ⟨fun _ => WT.andNil ⟨fun _ => Wx.sub (N' := led ++ (aH, listOf (its.map Value.ref).toArray nH) :: rl) ?_ hN', fun h => by cases h⟩, fun h => by cases h⟩)
      refine SX.abs fun C1 hC1 => ?_
      refine SX.assignW (WXE.addL (vs := List.replicate d.length (Value.bool true)) (n := nR) (Ex.name e6) (WXE.listW (WArs.cons (WXE.readyAsk (Ex.blt (by k_is) (by boot_by_name)) (Ex.name e7) (Ex.blt (by k_is) (by boot_by_name)) (Ex.name e8) (inR _ hT) (inR _ hT2) fun T' ltT' => WE.meth0 (Ex.name e3) (List.mem_cons_of_mem _ (inL _ G.s)) (List.mem_cons_of_mem _ (inL _ hd)) (by k_is) (by k_is) (by k_is) rfl (by k_is) (Wx.spec (active_spec w g z led _ G [] Iv.rd (by decide)) (fun r n' hr => WArs.nil ⟨by simp, fun lq ltq => ?_⟩) (fun p hp => List.mem_cons_of_mem _ hp))))))
      obtain ⟨rfl, rfl⟩ := hr
      have hF : decide (g.F < g.P) = true := by
        rw [Iv.F, Iv.P]
        refine decide_eq_true ?_
        have : 0 < (its.map pl ++ l).length := List.length_pos_iff.mpr hmore
        rw [List.length_append] at this
        omega
      rw [hF]
      refine ⟨lq, [Value.bool true], 0, rfl, List.mem_cons_of_mem _ (inR _ hR), List.mem_cons_self .., by simp; omega, fun aR2 ltR2 => ?_⟩
      have erep : List.replicate d.length (Value.bool true) ++ [Value.bool true] = List.replicate (d.length + 1) (Value.bool true) := by rw [List.replicate_succ']
      rw [erep]
      have f1 : setv mm (Str.ofString "right") (.ref aR2) (Str.ofString "names") = some (.ref aN) := e1
      have f2 : setv mm (Str.ofString "right") (.ref aR2) (Str.ofString "needs") = some (.ref aD) := e2
      have f3 : setv mm (Str.ofString "right") (.ref aR2) (Str.ofString "sorter") = some (.ref z.S) := e3
      have f4 : setv mm (Str.ofString "right") (.ref aR2) (Str.ofString "heap") = some (.ref aH) := e4
      have f5 : setv mm (Str.ofString "right") (.ref aR2) (Str.ofString "order") = some (.ref aO) := e5
      have f6 : setv mm (Str.ofString "right") (.ref aR2) (Str.ofString "right") = some (.ref aR2) := rfl
      have f7 : setv mm (Str.ofString "right") (.ref aR2) (Str.ofString "ready") = some (.ref T) := e7
      generalize setv mm (Str.ofString "right") (.ref aR2) = m5 at f1 f2 f3 f4 f5 f6 f7 ⊢
      generalize hrl2 : (aR2, listOf (List.replicate (d.length + 1) (Value.bool true)).toArray 0) :: rl = rl2
      have ltA : ∀ p ∈ led ++ (aH, listOf (its.map Value.ref).toArray nH) :: rl, p.1 < aR2 := fun p hp => ltR2 p (by
        rcases List.mem_append.mp hp with hp | hp
        · (first | ((repeat (first | exact hp | exact memH hp | exact List.mem_append_left _ hp | refine List.mem_cons_of_mem _ ?_ | refine List.mem_append_right _ ?_)); done) | simp [hp])
        · rcases List.mem_cons.mp hp with rfl | hp <;> simp_all)
      have hH2 : ∀ p ∈ rl2, p.1 ≠ aH := by
        subst hrl2
        intro p hp
        rcases List.mem_cons.mp hp with rfl | hp
        · exact Nat.ne_of_gt (ltA _ (List.mem_append_right _ (List.mem_cons_self ..)))
        · exact hH p hp
      have ap2 : Apart led ((aH, listOf (its.map Value.ref).toArray nH) :: rl2) := by
        subst hrl2
        intro p hp r hr
        rcases List.mem_cons.mp hr with rfl | hr
        · exact ap p hp _ (List.mem_cons_self ..)
        · rcases List.mem_cons.mp hr with rfl | hr
          · exact Nat.ne_of_lt (ltA _ (List.mem_append_left _ hp))
          · exact ap p hp r (List.mem_cons_of_mem _ hr)
      have up2 : ∀ p ∈ rl, p ∈ rl2 := by subst hrl2; exact fun p hp => List.mem_cons_of_mem _ hp
      have hR2 : (aR2, listOf (List.replicate (d.length + 1) (Value.bool true)).toArray 0) ∈ rl2 := by subst hrl2; exact List.mem_cons_self ..
      refine Wx.sub (N' := led ++ (aH, listOf (its.map Value.ref).toArray nH) :: rl2) ?_ (fun p hp => ?_)
      rotate_left
      · subst hrl2
        repeat (first | (rcases List.mem_cons.mp hp with h | hp; focus (repeat (first | exact h | exact memH h | exact List.mem_append_left _ h | refine List.mem_cons_of_mem _ ?_ | refine List.mem_append_right _ ?_))) | (rcases List.mem_append.mp hp with h | hp; focus (repeat (first | exact h | exact memH h | exact List.mem_append_left _ h | refine List.mem_cons_of_mem _ ?_ | refine List.mem_append_right _ ?_))) | (focus (repeat (first | exact hp | exact memH hp | exact List.mem_append_left _ hp | refine List.mem_cons_of_mem _ ?_ | refine List.mem_append_right _ ?_))) | exact absurd hp List.not_mem_nil)
      refine SX.for_ (l := T) (vs := vs) (fun j m N => ∃ its2, ∃ pl2 : Addr → Nat, ∃ rl3 nH2, (m (Str.ofString "names") = some (.ref aN) ∧ m (Str.ofString "needs") = some (.ref aD) ∧ m (Str.ofString "sorter") = some (.ref z.S) ∧ m (Str.ofString "heap") = some (.ref aH) ∧ m (Str.ofString "order") = some (.ref aO) ∧ m (Str.ofString "right") = some (.ref aR2)) ∧ N = led ++ (aH, listOf (its2.map Value.ref).toArray nH2) :: rl3 ∧ Apart led ((aH, listOf (its2.map Value.ref).toArray nH2) :: rl3) ∧ (∀ p ∈ rl3, p.1 ≠ aH) ∧ Inv needs g d (its2.map pl2) (l.drop j) ∧ HeapI (fun a => names (pl2 a)) its2 ∧ (∀ a ∈ its2, IsItem rl3 a (names (pl2 a)) (pl2 a)) ∧ (∀ p ∈ rl2, p ∈ rl3)) (Ex.name f7) ⟨its, pl, rl2, nH, ⟨f1, f2, f3, f4, f5, f6⟩, rfl, ap2, hH2, Iv, Hp, fun a ha => by obtain ⟨t, u, n, h⟩ := hit a ha; exact ⟨t, u, n, up2 _ h⟩, fun p hp => hp⟩ (Or.inl fun j m N ⟨its2, pl2, rl3, nH2, _, e, _, _, _, _, _, h⟩ => by rw [e]; exact List.mem_append_right _ (List.mem_cons_of_mem _ (h _ (up2 _ hT)))) ?_ ?_
      · rintro j v m₃ N₃ It oI hj ⟨its2, pl2, rl3, nH2, ⟨q1, q2, q3, q4, q5, q6⟩, rfl, ap3, hH3, Iv3, Hp3, hit3, up3⟩ ho
        refine SX.abs fun C2 hC2 => ?_
        obtain ⟨kk, tk, hjk, rfl⟩ := hvs.get hj
        have hjl : j < l.length := (List.getElem?_eq_some_iff.mp hjk).1
        have hdrop : l.drop j = kk :: l.drop (j + 1) := by
          rw [List.drop_eq_getElem_cons hjl]
          obtain ⟨h, e⟩ := List.getElem?_eq_some_iff.mp hjk
          rw [e]
        rw [hdrop] at Iv3
        have hkk : kk < 5 := Iv3.lt kk (by first | ((repeat (first | exact List.Mem.head _ | refine List.mem_cons_of_mem _ ?_ | refine List.mem_append_right _ ?_)); done) | simp)
        have hsm3 := Iv3.small
        rw [List.length_map, List.length_cons] at hsm3
        obtain ⟨tn, hvn⟩ := I.vn kk hkk
        have inN : ∀ p ∈ rl3, p ∈ (It, oI) :: (led ++ (aH, listOf (its2.map Value.ref).toArray nH2) :: rl3) := fun p hp => List.mem_cons_of_mem _ (List.mem_append_right _ (List.mem_cons_of_mem _ hp))
        refine SX.expr (WE.fnW (Ex.glob (by k_is)) (by k_is) ?_)
        refine WArs.cons (Rd.wx (Ex.name q4) fun vh hvh => ?_)
        refine WArs.cons (WXE.listW ?_)
        refine WArs.cons (WE.fn (Ex.glob (by k_is)) (by k_is) (Ars.one (Ex.item (Ex.name q1) (Ex.nameI rfl) (inN _ (up3 _ (up2 _ (hN0 _ I.an)))) hvn (by omega))) fun vs' hvs' => ?_)
        obtain ⟨vx, rfl, hvx⟩ := hvs'
        cases hvh; cases hvx
        refine Wx.spec (strxfrm_spec w (names kk) tn _) fun r n' hr => ?_
        obtain ⟨rfl, rfl⟩ := hr
        refine WArs.cons ((Ex.nameI (i := (kk : Int)) (t := tk) rfl).wx fun vk hvk => WArs.nil ⟨by simp, fun it ltit => WArs.nil ?_⟩)
        obtain ⟨tk2, rfl⟩ := hvk
        have hitN : ∀ p ∈ led ++ (aH, listOf (its2.map Value.ref).toArray nH2) :: rl3, p.1 < it := fun p hp => ltit p (List.mem_cons_of_mem _ hp)
        have hitI : It < it := ltit (It, oI) (List.mem_cons_self ..)
        have hnew : it ∉ its2 := fun hm => by
          obtain ⟨t, u, n, h⟩ := hit3 it hm
          exact absurd (hitN _ (List.mem_append_right _ (List.mem_cons_of_mem _ h))) (Nat.lt_irrefl _)
        have hpl : ∀ a ∈ its2, upd pl2 it kk a = pl2 a := fun a ha => upd_ne fun e => hnew (e ▸ ha)
        have emap : (its2 ++ [it]).map (upd pl2 it kk) = its2.map pl2 ++ [kk] := by
          rw [List.map_append, List.map_congr_left hpl]
          simp [upd_eq]
        have hnd : ((its2 ++ [it]).map (upd pl2 it kk)).Nodup := by
          rw [emap]
          have h1 := (List.nodup_append.mp Iv3.nd).2.1
          have e : its2.map pl2 ++ kk :: l.drop (j + 1) = (its2.map pl2 ++ [kk]) ++ l.drop (j + 1) := by simp
          rw [e] at h1
          exact (List.nodup_append.mp h1).1
        have hnd2 : (its2 ++ [it]).Nodup := nodup_of_map hnd
        have hlt5 : ∀ a ∈ its2 ++ [it], upd pl2 it kk a < 5 := fun a ha => Iv3.lt _ (by
          have : upd pl2 it kk a ∈ (its2 ++ [it]).map (upd pl2 it kk) := List.mem_map_of_mem ha
          rw [emap] at this
          repeat (first | (rcases List.mem_cons.mp this with h | this; focus (repeat (first | exact h | exact memH h | exact List.mem_append_left _ h | refine List.mem_cons_of_mem _ ?_ | refine List.mem_append_right _ ?_))) | (rcases List.mem_append.mp this with h | this; focus (repeat (first | exact h | exact memH h | exact List.mem_append_left _ h | refine List.mem_cons_of_mem _ ?_ | refine List.mem_append_right _ ?_))) | (focus (repeat (first | exact this | exact memH this | exact List.mem_append_left _ this | refine List.mem_cons_of_mem _ ?_ | refine List.mem_append_right _ ?_))) | exact absurd this List.not_mem_nil))
        have hnm : ∀ a ∈ its2 ++ [it], ∀ c ∈ its2 ++ [it], a ≠ c → names (upd pl2 it kk a) ≠ names (upd pl2 it kk c) := fun a ha c hc hne e => by
          have e2 := I.inj _ (hlt5 a ha) _ (hlt5 c hc) e
          exact hne (inj_of_map hnd ha hc e2)
        have HpU : HeapI (fun a => names (upd pl2 it kk a)) its2 := Hp3.congr fun a ha => by rw [hpl a ha]
        obtain ⟨hpush, hperm⟩ := push_ok HpU (by omega) hnd2 hnm
        have hitem : ∀ a ∈ its2 ++ [it], IsItem ((it, listOf [Value.str (names kk) tn, .int (kk : Int) tk2].toArray 0) :: rl3) a (names (upd pl2 it kk a)) ((upd pl2 it kk a : Nat) : Int) := fun a ha => by
          rcases List.mem_append.mp ha with ha | ha
          · obtain ⟨t, u, n, h⟩ := hit3 a ha
            rw [hpl a ha]
            exact ⟨t, u, n, List.mem_cons_of_mem _ h⟩
          · rw [List.mem_singleton.mp ha, upd_eq]
            exact ⟨tn, tk2, 0, List.mem_cons_self ..⟩
        refine Wx.spec (heappush_spec w aH it its2 nH2 ((It, oI) :: (led ++ (it, listOf [Value.str (names kk) tn, .int (kk : Int) tk2].toArray 0) :: rl3)) (by omega) (fun p hp => ?_) (fun a => names (upd pl2 it kk a)) (fun a => ((upd pl2 it kk a : Nat) : Int)) (fun a ha => ?_) hnd2 hnm) (fun r n' hr => ?_) (fun p hp => ?_)
        · rcases List.mem_cons.mp hp with rfl | hp
          · exact fun e => ho (aH, _) (List.mem_append_right _ (List.mem_cons_self ..)) e.symm
          · rcases List.mem_append.mp hp with hp | hp
            · exact ap3 p hp _ (List.mem_cons_self ..)
            · rcases List.mem_cons.mp hp with rfl | hp
              · exact Nat.ne_of_gt (hitN (aH, _) (List.mem_append_right _ (List.mem_cons_self ..)))
              · exact hH3 p hp
        · obtain ⟨t, u, n, h⟩ := hitem a ha
          exact ⟨t, u, n, List.mem_cons_of_mem _ (List.mem_append_right _ h)⟩
        · obtain ⟨rfl, rfl⟩ := hr
          refine ⟨rfl, SX.nil (hC2 _ _ _ ⟨led ++ (aH, listOf ((pushL (fun a => names (upd pl2 it kk a)) its2 it).map Value.ref).toArray (nH2 + 1)) :: (it, listOf [Value.str (names kk) tn, .int (kk : Int) tk2].toArray 0) :: rl3, fun p hp => ?_, fun p hp => ?_, _, upd pl2 it kk, _, _, ⟨q1, q2, q3, q4, q5, q6⟩, rfl, fun p hp r hr => ?_, fun p hp => ?_, ?_, hpush, fun a ha => hitem a (hperm.mem_iff.mp ha), fun p hp => List.mem_cons_of_mem _ (up3 p hp)⟩)⟩
          · repeat (first | (rcases List.mem_cons.mp hp with h | hp; focus (repeat (first | exact h | exact memH h | exact List.mem_append_left _ h | refine List.mem_cons_of_mem _ ?_ | refine List.mem_append_right _ ?_))) | (rcases List.mem_append.mp hp with h | hp; focus (repeat (first | exact h | exact memH h | exact List.mem_append_left _ h | refine List.mem_cons_of_mem _ ?_ | refine List.mem_append_right _ ?_))) | (focus (repeat (first | exact hp | exact memH hp | exact List.mem_append_left _ hp | refine List.mem_cons_of_mem _ ?_ | refine List.mem_append_right _ ?_))) | exact absurd hp List.not_mem_nil)
          · rcases List.mem_append.mp hp with hp | hp
            · exact ho p (List.mem_append_left _ hp)
            · rcases List.mem_cons.mp hp with rfl | hp
              · exact ho (aH, listOf (its2.map Value.ref).toArray nH2) (List.mem_append_right _ (List.mem_cons_self ..))
              · rcases List.mem_cons.mp hp with rfl | hp
                · exact Nat.ne_of_gt hitI
                · exact ho p (List.mem_append_right _ (List.mem_cons_of_mem _ hp))
          · rcases List.mem_cons.mp hr with rfl | hr
            · exact ap3 p hp (aH, listOf (its2.map Value.ref).toArray nH2) (List.mem_cons_self ..)
            · rcases List.mem_cons.mp hr with rfl | hr
              · exact Nat.ne_of_lt (hitN p (List.mem_append_left _ hp))
              · exact ap3 p hp r (List.mem_cons_of_mem _ hr)
          · rcases List.mem_cons.mp hp with rfl | hp
            · exact Nat.ne_of_gt (hitN (aH, _) (List.mem_append_right _ (List.mem_cons_self ..)))
            · exact hH3 p hp
          · refine Iv3.move ?_
            have := hperm.map (upd pl2 it kk)
            rw [emap] at this
            exact this
        · repeat (first | (rcases List.mem_cons.mp hp with h | hp; focus (repeat (first | exact h | exact memH h | exact List.mem_append_left _ h | refine List.mem_cons_of_mem _ ?_ | refine List.mem_append_right _ ?_))) | (rcases List.mem_append.mp hp with h | hp; focus (repeat (first | exact h | exact memH h | exact List.mem_append_left _ h | refine List.mem_cons_of_mem _ ?_ | refine List.mem_append_right _ ?_))) | (focus (repeat (first | exact hp | exact memH hp | exact List.mem_append_left _ hp | refine List.mem_cons_of_mem _ ?_ | refine List.mem_append_right _ ?_))) | exact absurd hp List.not_mem_nil)
      · rintro m₃ N₃ ⟨its3, pl3, rl3, nH3, ⟨q1, q2, q3, q4, q5, q6⟩, rfl, ap3, hH3, Iv3, Hp3, hit3, up3⟩
        rw [hvs.len, List.drop_length] at Iv3
        have hne3 : its3 ≠ [] := fun e => by
          have := Iv3.more hN hd4
          subst e
          exact this rfl
        obtain ⟨its', x, rfl⟩ : ∃ its' x, its3 = its' ++ [x] := ⟨its3.dropLast, its3.getLast hne3, (List.dropLast_concat_getLast hne3).symm⟩
        have hsm3 := Iv3.small
        simp only [List.length_map, List.length_append, List.length_singleton, List.length_nil] at hsm3
        have hndm : ((its' ++ [x]).map pl3).Nodup := by
          have h1 := (List.nodup_append.mp Iv3.nd).2.1
          rw [List.append_nil] at h1
          exact h1
        have hnd2 : (its' ++ [x]).Nodup := nodup_of_map hndm
        have hlt5 : ∀ a ∈ its' ++ [x], pl3 a < 5 := fun a ha => Iv3.lt _ (List.mem_append_right _ (List.mem_append_left _ (List.mem_map_of_mem ha)))
        have hnm : ∀ a ∈ its' ++ [x], ∀ c ∈ its' ++ [x], a ≠ c → names (pl3 a) ≠ names (pl3 c) := fun a ha c hc hne e => hne (inj_of_map hndm ha hc (I.inj _ (hlt5 a ha) _ (hlt5 c hc) e))
        obtain ⟨hpop, hperm, hmin⟩ := pop_ok Hp3 (by omega) hnd2 hnm
        have inR3 : ∀ p ∈ rl3, p ∈ led ++ (aH, listOf ((its' ++ [x]).map Value.ref).toArray nH3) :: rl3 := fun p hp => List.mem_append_right _ (List.mem_cons_of_mem _ hp)
        refine SX.unpackT (WE.fn (Ex.glob (by k_is)) (by k_is) (Ars.one (Ex.name q4)) fun vs' hvs' => ?_)
        obtain ⟨vh, rfl, hvh⟩ := hvs'
        cases hvh
        refine Wx.spec (heappop_spec w aH x its' nH3 (led ++ rl3) (by omega) (fun p hp => ?_) (fun a => names (pl3 a)) (fun a => ((pl3 a : Nat) : Int)) (fun a ha => ?_) hnd2 hnm) (fun r n' hr => ?_) (fun p hp => ?_)
        · rcases List.mem_append.mp hp with hp | hp
          · exact ap3 p hp _ (List.mem_cons_self ..)
          · exact hH3 p hp
        · obtain ⟨t, u, n, h⟩ := hit3 a ha
          exact ⟨t, u, n, List.mem_append_right _ h⟩
        · obtain ⟨rfl, rfl⟩ := hr
          generalize hpv : popV its' x = pv at hperm hmin ⊢
          generalize hpo : popL (fun a => names (pl3 a)) its' x = po at hperm hpop ⊢
          have hpvm : pv ∈ its' ++ [x] := hperm.mem_iff.mp (List.mem_cons_self ..)
          obtain ⟨tp, up, npv, hpvI⟩ := hit3 pv hpvm
          refine ⟨pv, [(Str.ofString "name", .str (names (pl3 pv)) tp), (Str.ofString "place", .int (pl3 pv : Int) up)], rfl, .inr ⟨npv, List.mem_cons_of_mem _ (List.mem_append_right _ hpvI)⟩, rfl, ⟨⟨fun v s Q h => PyProof.Rows.assign_Name h, rfl⟩, ⟨fun v s Q h => PyProof.Rows.assign_Name h, rfl⟩, trivial⟩, ?_⟩
          have r1 : setsv m₃ [(Str.ofString "name", .str (names (pl3 pv)) tp), (Str.ofString "place", .int (pl3 pv : Int) up)] (Str.ofString "names") = some (.ref aN) := q1
          have r2 : setsv m₃ [(Str.ofString "name", .str (names (pl3 pv)) tp), (Str.ofString "place", .int (pl3 pv : Int) up)] (Str.ofString "needs") = some (.ref aD) := q2
          have r3 : setsv m₃ [(Str.ofString "name", .str (names (pl3 pv)) tp), (Str.ofString "place", .int (pl3 pv : Int) up)] (Str.ofString "sorter") = some (.ref z.S) := q3
          have r4 : setsv m₃ [(Str.ofString "name", .str (names (pl3 pv)) tp), (Str.ofString "place", .int (pl3 pv : Int) up)] (Str.ofString "heap") = some (.ref aH) := q4
          have r5 : setsv m₃ [(Str.ofString "name", .str (names (pl3 pv)) tp), (Str.ofString "place", .int (pl3 pv : Int) up)] (Str.ofString "order") = some (.ref aO) := q5
          have r6 : setsv m₃ [(Str.ofString "name", .str (names (pl3 pv)) tp), (Str.ofString "place", .int (pl3 pv : Int) up)] (Str.ofString "right") = some (.ref aR2) := q6
          have r7 : setsv m₃ [(Str.ofString "name", .str (names (pl3 pv)) tp), (Str.ofString "place", .int (pl3 pv : Int) up)] (Str.ofString "name") = some (.str (names (pl3 pv)) tp) := rfl
          have r8 : setsv m₃ [(Str.ofString "name", .str (names (pl3 pv)) tp), (Str.ofString "place", .int (pl3 pv : Int) up)] (Str.ofString "place") = some (.int (pl3 pv : Int) up) := rfl
          generalize setsv m₃ [(Str.ofString "name", .str (names (pl3 pv)) tp), (Str.ofString "place", .int (pl3 pv : Int) up)] = m6 at r1 r2 r3 r4 r5 r6 r7 r8 ⊢
          have inL3 : ∀ {X : Led}, ∀ p ∈ led, p ∈ led ++ X := fun p hp => List.mem_append_left _ hp
          refine Wx.sub (N' := led ++ (aH, listOf (po.map Value.ref).toArray (nH3 + 1)) :: rl3) ?_ sub_mid
          have ap4 : Apart led ((aH, listOf (po.map Value.ref).toArray (nH3 + 1)) :: rl3) := fun p hp r hr => by
            rcases List.mem_cons.mp hr with rfl | hr
            · exact ap3 p hp (aH, listOf ((its' ++ [x]).map Value.ref).toArray nH3) (List.mem_cons_self ..)
            · exact ap3 p hp r (List.mem_cons_of_mem _ hr)
          refine SX.funs fun hf => ?_
          have hfl : Fun led := fun a o o' h h' => hf a o o' (List.mem_append_left _ h) (List.mem_append_left _ h')
          have hp5 := hlt5 pv hpvm
          have hpH : pl3 pv ∈ (its' ++ [x]).map pl3 ++ [] := List.mem_append_left _ (List.mem_map_of_mem hpvm)
          refine SX.expr (WE.meth (Ex.name r3) (inL3 _ G.s) (inL3 _ hd) (by k_is) (by k_is) (by k_is) rfl (by k_is) (Ars.one (Ex.nameI r8)) fun vs2 hvs2 => ?_)
          obtain ⟨v, rfl, tv, rfl⟩ := hvs2
          refine Wx.spec (done_spec w g z led _ (pl3 pv) G hfl ap4 [] Iv3.rd (by decide) (by rw [Iv3.n]; exact hp5) (Iv3.np1 _ hpH) (fun j hj => ?_) [.int (pl3 pv : Int) tv] (Nat.le_refl _) ⟨⟨tv, rfl⟩, trivial⟩) fun r n' hr => ?_
          · rw [Iv3.n] at hj ⊢
            rw [Iv3.su j hj]
            refine ⟨Nat.le_trans (sucOf_len _ _ _) (by omega), fun p hp => ?_⟩
            have := (List.mem_filter.mp hp).1
            simpa using this
          obtain ⟨rfl, led5, rfl, ap5, G5⟩ := hr
          refine ⟨rfl, ?_⟩
          obtain ⟨l', g1', g2', g3', Iv5⟩ := Iv3.step hN (p := pl3 pv) (H' := po.map pl3) (by have := hperm.map pl3; simpa using this)
          obtain ⟨k1, k2, k3, k4, t3, t4, hd5⟩ := G5.d
          have inR5 : ∀ {X : Led}, ∀ p ∈ X, p ∈ led5 ++ X := fun p hp => List.mem_append_right _ hp
          refine SX.swapT (WXE.tupW (WArs.cons (WXE.addL (vs := vo) (n := nO) (Ex.name r5) (WE.listE (Ars.one (Ex.name r7)) (fun vs e => by obtain ⟨v, rfl, _⟩ := e; simp) fun lq vs' hvs' ltq => ⟨lq, vs', 0, rfl, List.mem_cons_of_mem _ (inR5 _ (List.mem_cons_of_mem _ (up3 _ (up2 _ hO)))), List.mem_cons_self .., ?_, fun aO2 ltO2 => ?_⟩))))
          · obtain ⟨v, rfl, _⟩ := hvs'
            simp
            omega
          obtain ⟨v, rfl, hv⟩ := hvs'
          cases hv
          have ltN5 : ∀ p ∈ led5 ++ (aH, listOf (po.map Value.ref).toArray (nH3 + 1)) :: rl3, p.1 < aO2 := fun p hp => ltO2 p (List.mem_cons_of_mem _ hp)
          have apq : Apart led5 ((aO2, listOf (vo ++ [Value.str (names (pl3 pv)) tp]).toArray 0) :: (aH, listOf (po.map Value.ref).toArray (nH3 + 1)) :: rl3) := apart_cons ap5 fun p hp => Nat.ne_of_lt (ltN5 p (List.mem_append_left _ hp))
          refine WArs.cons (WE.meth0 (Ex.name r3) (List.mem_cons_of_mem _ (List.mem_cons_of_mem _ (List.mem_append_left _ G5.s))) (List.mem_cons_of_mem _ (List.mem_cons_of_mem _ (List.mem_append_left _ hd5))) (by k_is) (by k_is) (by k_is) rfl (by k_is) (Wx.spec (ready_spec w (g.doneS (pl3 pv)) z led5 ((aO2, listOf (vo ++ [Value.str (names (pl3 pv)) tp]).toArray 0) :: (aH, listOf (po.map Value.ref).toArray (nH3 + 1)) :: rl3) G5 apq l' g1' g2' g3') (fun r n' hr => ?_) (fun p hp => ?_)))
          rotate_left
          · repeat (first | (rcases List.mem_cons.mp hp with h | hp; focus (repeat (first | exact h | exact memH h | exact List.mem_append_left _ h | refine List.mem_cons_of_mem _ ?_ | refine List.mem_append_right _ ?_))) | (rcases List.mem_append.mp hp with h | hp; focus (repeat (first | exact h | exact memH h | exact List.mem_append_left _ h | refine List.mem_cons_of_mem _ ?_ | refine List.mem_append_right _ ?_))) | (focus (repeat (first | exact hp | exact memH hp | exact List.mem_append_left _ hp | refine List.mem_cons_of_mem _ ?_ | refine List.mem_append_right _ ?_))) | exact absurd hp List.not_mem_nil)
          obtain ⟨T1, vs1, led6, rfl, rfl, hv1, hT1, ap6, G6⟩ := hr
          obtain ⟨k1, k2, k3, k4, t3, t4, hd6⟩ := G6.d
          refine WArs.cons (WE.meth0 (Ex.name r3) (List.mem_append_left _ G6.s) (List.mem_append_left _ hd6) (by k_is) (by k_is) (by k_is) rfl (by k_is) (Wx.spec (ready_spec w _ z led6 _ G6 ap6 [] rfl (by decide) (fun p hp => (nomatch hp))) fun r n' hr => ?_))
          obtain ⟨T5, vs5, led7, rfl, rfl, hv5, hT5, ap7, G7⟩ := hr
          have hvs5 : vs5 = [] := by cases vs5 with
            | nil => rfl
            | cons a c => exact hv5.elim
          subst hvs5
          refine WArs.nil ⟨by simp, fun T3 ltT3 => ?_⟩
          refine ⟨T3, [(Str.ofString "behind", .ref T5), (Str.ofString "ready", .ref T1), (Str.ofString "order", .ref aO2)], rfl, List.mem_cons_self .., rfl, ⟨⟨fun v s Q h => PyProof.Rows.bindName_ h, rfl⟩, ⟨fun v s Q h => PyProof.Rows.bindName_ h, rfl⟩, ⟨fun v s Q h => PyProof.Rows.bindName_ h, rfl⟩, trivial⟩, ?_⟩
          refine Wx.sub (N' := led7 ++ (aH, listOf (po.map Value.ref).toArray (nH3 + 1)) :: (T5, tupO []) :: (T1, tupO vs1) :: (aO2, listOf (vo ++ [Value.str (names (pl3 pv)) tp]).toArray 0) :: rl3) (SX.nil (hC1 _ _ _ ⟨5 - (d ++ [pl3 pv]).length, ?_, _, z, led7, _, d ++ [pl3 pv], po, pl3, l', T1, vs1, T5, aH, nH3 + 1, aO2, _, 0, aR2, 0, rfl, rfl, fun p hp r hr => ap7 p hp r ?_, fun p hp => ?_, G7, Iv5, Gr.snoc ?_ ?_, hpop, fun a ha => ?_, List.mem_cons_of_mem _ (List.mem_cons_self ..), hv1, List.mem_cons_self .., List.mem_cons_of_mem _ (List.mem_cons_of_mem _ (List.mem_cons_self ..)), ?_, ?_, fun p hp => List.mem_cons_of_mem _ (List.mem_cons_of_mem _ (List.mem_cons_of_mem _ (up3 _ (up2 _ (hN0 p hp))))), r1, r2, r3, r4, rfl, r6, rfl, rfl⟩)) (fun p hp => ?_)
          · rw [hi, List.length_append, List.length_singleton]; omega
          · repeat (first | (rcases List.mem_cons.mp hr with h | hr; focus (repeat (first | exact h | exact memH h | exact List.mem_append_left _ h | refine List.mem_cons_of_mem _ ?_ | refine List.mem_append_right _ ?_))) | (rcases List.mem_append.mp hr with h | hr; focus (repeat (first | exact h | exact memH h | exact List.mem_append_left _ h | refine List.mem_cons_of_mem _ ?_ | refine List.mem_append_right _ ?_))) | (focus (repeat (first | exact hr | exact memH hr | exact List.mem_append_left _ hr | refine List.mem_cons_of_mem _ ?_ | refine List.mem_append_right _ ?_))) | exact absurd hr List.not_mem_nil)
          · rcases List.mem_cons.mp hp with rfl | hp
            rotate_left 1
            rcases List.mem_cons.mp hp with rfl | hp
            rotate_right 1
            rotate_left 2
            rcases List.mem_cons.mp hp with rfl | hp
            rotate_right 2
            · exact Nat.ne_of_gt (hT5 (aH, listOf (po.map Value.ref).toArray (nH3 + 1)) (by first | ((repeat (first | exact List.Mem.head _ | refine List.mem_cons_of_mem _ ?_ | refine List.mem_append_right _ ?_)); done) | simp))
            · exact Nat.ne_of_gt (hT1 (aH, listOf (po.map Value.ref).toArray (nH3 + 1)) (by first | ((repeat (first | exact List.Mem.head _ | refine List.mem_cons_of_mem _ ?_ | refine List.mem_append_right _ ?_)); done) | simp))
            · exact Nat.ne_of_gt (ltN5 (aH, listOf (po.map Value.ref).toArray (nH3 + 1)) (by first | ((repeat (first | exact List.Mem.head _ | refine List.mem_cons_of_mem _ ?_ | refine List.mem_append_right _ ?_)); done) | simp))
            · exact hH3 p hp
          · exact (Iv3.avail _).mp (List.mem_map_of_mem hpvm)
          · intro a ha hne
            obtain ⟨a', ha', rfl⟩ := List.mem_map.mp ((Iv3.avail a).mpr ha)
            have := hmin a' ha' fun e => hne (by rw [e])
            unfold ltN at this
            show (names (pl3 pv)).cps.toList < (names (pl3 a')).cps.toList
            exact of_decide_eq_true this
          · obtain ⟨t, u, n, h⟩ := hit3 a (hperm.mem_iff.mp (List.mem_cons_of_mem _ ha))
            exact ⟨t, u, n, List.mem_cons_of_mem _ (List.mem_cons_of_mem _ (List.mem_cons_of_mem _ h))⟩
          · rw [List.map_append]
            exact hvo.app ⟨tp, rfl⟩
          · rw [List.length_append, List.length_singleton]
            exact List.mem_cons_of_mem _ (List.mem_cons_of_mem _ (List.mem_cons_of_mem _ (up3 _ hR2)))
          · repeat (first | (rcases List.mem_cons.mp hp with h | hp; focus (repeat (first | exact h | exact memH h | exact List.mem_append_left _ h | refine List.mem_cons_of_mem _ ?_ | refine List.mem_append_right _ ?_))) | (rcases List.mem_append.mp hp with h | hp; focus (repeat (first | exact h | exact memH h | exact List.mem_append_left _ h | refine List.mem_cons_of_mem _ ?_ | refine List.mem_append_right _ ?_))) | (focus (repeat (first | exact hp | exact memH hp | exact List.mem_append_left _ hp | refine List.mem_cons_of_mem _ ?_ | refine List.mem_append_right _ ?_))) | exact absurd hp List.not_mem_nil)
        · repeat (first | (rcases List.mem_cons.mp hp with h | hp; focus (repeat (first | exact h | exact memH h | exact List.mem_append_left _ h | refine List.mem_cons_of_mem _ ?_ | refine List.mem_append_right _ ?_))) | (rcases List.mem_append.mp hp with h | hp; focus (repeat (first | exact h | exact memH h | exact List.mem_append_left _ h | refine List.mem_cons_of_mem _ ?_ | refine List.mem_append_right _ ?_))) | (focus (repeat (first | exact hp | exact memH hp | exact List.mem_append_left _ hp | refine List.mem_cons_of_mem _ ?_ | refine List.mem_append_right _ ?_))) | exact absurd hp List.not_mem_nil)

end Mine
end
section
open PySem PySem.W PyProof.Rows PySem.Calls
set_option maxRecDepth 100000
set_option maxHeartbeats 8000000
namespace Mine
set_option linter.unusedVariables false
/-- values that are these ints -/
def AreI : List Value → List Int → Prop
  | [], [] => True
  | v :: vs, x :: xs => IsI x v ∧ AreI vs xs
  | _, _ => False
theorem AreI.app : ∀ {vs : List Value} {l : List Int} {v : Value} {x : Int}, AreI vs l → IsI x v → AreI (vs ++ [v]) (l ++ [x])
  | [], [], _, _, _, h => ⟨h, trivial⟩
  | _ :: _, _ :: _, _, _, h, h2 => ⟨h.1, AreI.app h.2 h2⟩
theorem AreI.len : ∀ {vs : List Value} {l : List Int}, AreI vs l → vs.length = l.length
  | [], [], _ => rfl
  | _ :: _, _ :: _, h => by simp [AreI.len h.2]
theorem AreI.get : ∀ {vs : List Value} {l : List Int} {i : Nat} {v : Value}, AreI vs l → vs[i]? = some v → ∃ x, l[i]? = some x ∧ IsI x v
  | _ :: _, k :: _, 0, v, h, e => ⟨k, rfl, by cases e; exact h.1⟩
  | _ :: _, _ :: _, i + 1, v, h, e => AreI.get (i := i) h.2 e
theorem AreI.mem {vs : List Value} {l : List Int} (h : AreI vs l) : ∀ v ∈ vs, ∃ x, IsI x v := fun v hv => by
  obtain ⟨i, hi⟩ := List.mem_iff_getElem?.mp hv
  obtain ⟨x, _, hx⟩ := h.get hi
  exact ⟨x, hx⟩
def isV (x : Int) (v : Value) : Bool := match v with
  | .int i _ => i == x
  | _ => false
theorem AreI.any {x : Int} : ∀ {vs : List Value} {l : List Int}, AreI vs l → vs.any (isV x) = l.contains x
  | [], [], _ => rfl
  | v :: vs, y :: l, h => by
    obtain ⟨⟨t, rfl⟩, h2⟩ := h
    rw [List.any_cons, AreI.any h2, List.contains_cons]
    show (y == x || l.contains x) = (x == y || l.contains x)
    rw [show (y == x) = (x == y) from Bool.eq_iff_iff.mpr ⟨fun e => by simpa using (eq_of_beq e).symm, fun e => by simpa using (eq_of_beq e).symm⟩]
section
variable {w : World} {dn : Nat} {b : Bs w dn} {k : Cd} {m : Map} {N : Led} {rest : List Stmt} {en : Env}
theorem WXE.ifE {t x y : Expr} {pos : Pos} {C : Value → Map → Led → Prop} (h : WT b k en m N t (fun c m' N' => (c = true → WXE b k en m' N' x C) ∧ (c = false → WXE b k en m' N' y C))) : WXE b k en m N (.IfExp t x y pos) C := fun s Q F N' hQ =>
  IfExp_ (h s _ F N' fun c m' N'' h' tk hc F' NN => by
    cases c with
    | true => exact hc.1 rfl _ Q F' NN fun v m2 N2 h2 tk2 c2 F2 NN2 => hQ v m2 N2 h2 tk2 c2 F2 NN2
    | false => exact hc.2 rfl _ Q F' NN fun v m2 N2 h2 tk2 c2 F2 NN2 => hQ v m2 N2 h2 tk2 c2 F2 NN2)
theorem WT.cmpP {x y : Expr} {op : CmpOp} {pos : Pos} {P : Value → Prop} {C : Bool → Map → Led → Prop} (ha : XE b k en m N x P) (hb : ∀ va, P va → WXE b k en m N y (fun vb m' N' => ∃ c, Rd b k m' N' (compareOp op va vb) (IsV (.bool c)) ∧ C c m' N')) (hm : autoParam (behindInMarks op y = false) tUn) : WT b k en m N (.Compare x [op] [y] pos) C := fun s Q F N' hQ =>
  wpAny_isTrue_Compare1 (ha s _ F N' fun va tk pa => hb va pa _ _ F N' fun vb m' N'' h' tk2 hc F' NN => by
      obtain ⟨c, ho, hC⟩ := hc
      exact ho _ _ F' NN fun v tk3 p => by cases p; exact wpAny_truthy_bool (hQ c m' N'' h' tk3 hC F' NN)) hm
theorem Rd.notInI {a : Addr} {vs : List Value} {xs : List Int} {n : Nat} {x : Int} {v : Value} (ha : (a, listOf vs.toArray n) ∈ N) (hv : AreI vs xs) (hx : IsI x v) : Rd b k m N (compareOp .NotIn v (.ref a)) (IsV (.bool (!xs.contains x))) := fun s Q F N' hQ => by
  obtain ⟨t, rfl⟩ := hx
  have h1 : s.heap.IsList a vs.toArray := ⟨_, (N' _ ha).1, rfl, n, rfl⟩
  refine SeqAt.notIn_listAt (isV x) h1 (fun y hy => ?_) ?_
  · obtain ⟨z, tz, rfl⟩ := hv.mem y (by simpa using hy)
    exact SeqAt.EqAt.int_int z tz x t
  · rw [List.any_toArray, hv.any]
    exact hQ _ s.toks rfl
end
def fiveF (acc : List Int) (x : Int) : List Int := acc ++ if acc.length < 5 ∧ ¬ (x.fmod 15 ∈ acc.map (·.fmod 15)) then [x] else []
def fiveOf (xs : List Int) : List Int := xs.foldl fiveF []
theorem fiveF_len {acc : List Int} {x : Int} (h : acc.length ≤ 5) : (fiveF acc x).length ≤ 5 := by
  unfold fiveF
  split
  · rename_i q; simp; omega
  · simpa using h
theorem five_len (xs : List Int) : ∀ acc : List Int, acc.length ≤ 5 → (xs.foldl fiveF acc).length ≤ 5 := by
  induction xs with
  | nil => exact fun _ h => h
  | cons x xs ih => exact fun acc h => ih _ (fiveF_len h)
theorem five_spec (w : World) (aX : Addr) (vx : List Value) (nx : Nat) (xs : List Int) (N : Led) (hm : (aX, listOf vx.toArray nx) ∈ N) (hx : AreI vx xs) : Spec w 209 1 [.ref aX] N (fun r n' => ∃ D vs n, r = .ref D ∧ (D, listOf vs.toArray n) ∈ n' ∧ AreI vs (fiveOf xs) ∧ ∀ p ∈ N, p ∈ n') := by
  k_dflt (refine' enter (binds := [(Str.ofString "numbers", .ref aX)]) ?k6 ?k7 ?k9 ?kB ?c2 ?c3 ?c4 ?c5 ?_; (case k6 => k_is); (case k7 => k_is); (case k9 => exact fun _ _ => BindsTo.of_eq rfl); (case c5 => decide); (case kB => exact locs rfl); (case c2 => exact rfl); (case c3 => exact rfl); (case c4 => exact rfl); k_whole)
  refine BodyOk.ofSX rfl ?_
  intro b

  refine SX.abs fun C hC => ?_
  refine SX.assignW (WE.listE Ars.nil (fun vs e => by rw [e]; decide) fun D0 vs e lt0 => ?_)
  subst e
  refine SX.for_ (l := aX) (vs := vx) (fun i m N' => ∃ D vs n, m (Str.ofString "five") = some (.ref D) ∧ (D, listOf vs.toArray n) ∈ N' ∧ AreI vs (fiveOf (xs.take i)) ∧ ∀ p ∈ N, p ∈ N') (Ex.name rfl) ⟨D0, [], 0, rfl, List.mem_cons_self .., trivial, fun p hp => List.mem_cons_of_mem _ hp⟩ (Or.inr ⟨nx, fun i m N' ⟨D, vs, n, _, _, _, h⟩ => h _ hm⟩) ?_ ?_
  · rintro i v m₁ N₁ It oI hi ⟨D, vs, n, e1, hD, hv, hN⟩ ho
    refine SX.abs fun C1 hC1 => ?_
    obtain ⟨x, hxi, t, rfl⟩ := hx.get hi
    have hl5 : (fiveOf (xs.take i)).length ≤ 5 := five_len _ [] (by decide)
    have hvl := hv.len
    have enext : fiveOf (xs.take (i + 1)) = fiveF (fiveOf (xs.take i)) x := by
      unfold fiveOf
      rw [List.take_add_one, hxi, List.foldl_append]; rfl
    generalize fiveOf (xs.take i) = acc at hv hl5 hvl enext
    have hD' : ∀ {X : Led}, (D, listOf vs.toArray n) ∈ X ++ (It, oI) :: N₁ := fun {X} => List.mem_append_right _ (List.mem_cons_of_mem _ hD)
    have fin : ∀ (kk : Cd) (N' : Led) (L : Addr) (ws : List Value) (n2 : Nat), (∀ p ∈ (It, oI) :: N₁, p ∈ N') → (L, listOf ws.toArray n2) ∈ N' → AreI (vs ++ ws) (fiveF acc x) → ws.length ≤ 1 → (∃ a ws n2, (Value.ref L) = .ref a ∧ (D, listOf vs.toArray n) ∈ N' ∧ (a, listOf ws.toArray n2) ∈ N' ∧ vs.length + ws.length ≤ 1000 ∧ ∀ D₂, (∀ p ∈ N', p.1 < D₂) → SX b kk (setv (setv m₁ (Str.ofString "x") (.int x t)) (Str.ofString "five") (.ref D₂)) ((D₂, listOf (vs ++ ws).toArray 0) :: N') [] C1) := by
      intro kk N' L ws n2 hs hL hA hw
      refine ⟨L, ws, n2, rfl, hs _ (List.mem_cons_of_mem _ hD), hL, by omega, fun D₂ lt => SX.nil (hC1 _ _ _ ⟨(D₂, listOf (vs ++ ws).toArray 0) :: N₁, fun p hp => ?_, fun p hp => ?_, D₂, _, 0, rfl, List.mem_cons_self .., by rw [enext]; exact hA, fun p hp => List.mem_cons_of_mem _ (hN p hp)⟩)⟩
      · rcases List.mem_cons.mp hp with rfl | hp
        rotate_left 1
        rcases List.mem_cons.mp hp with rfl | hp
        rotate_right 1
        · exact List.mem_cons_of_mem _ (hs _ (List.mem_cons_self ..))
        · exact List.mem_cons_self ..
        · exact List.mem_cons_of_mem _ (hs _ (List.mem_cons_of_mem _ hp))
      · rcases List.mem_cons.mp hp with rfl | hp
        · exact Nat.ne_of_gt (lt (It, oI) (hs _ (List.mem_cons_self ..)))
        · exact ho p hp
    refine SX.assignW (WXE.addL (vs := vs) (n := n) (Ex.name e1) (WXE.ifE (WT.and (WT.of (Tst.ltI (Ex.call1 (Ex.blt (by k_is) (by boot_by_name)) (Ex.name e1) (fun v hv => by cases hv; exact Rd.lenL (vs := vs) (n := n) (hD' (X := [])) (by omega))) Ex.lit) ⟨fun hc => ?_, fun hc => ⟨fun h => (by cases h), fun _ => ?_⟩⟩))))
    rotate_left
    · refine WE.listE Ars.nil (fun vs e => by rw [e]; decide) fun L ws e lt => ?_
      subst e
      refine fin _ _ L [] 0 (fun p hp => List.mem_cons_of_mem _ hp) (List.mem_cons_self ..) ?_ (by decide)
      have : ¬ acc.length < 5 := by have := of_decide_eq_false hc; omega
      unfold fiveF
      rw [if_neg fun q => this q.1, List.append_nil, List.append_nil]
      exact hv
    · have hlt : acc.length < 5 := by have := of_decide_eq_true hc; omega
      refine WT.and (WT.cmpP (Ex.mod (Ex.nameI (i := x) (t := t) rfl) Ex.lit (by decide)) fun va hva => ?_)
      refine WXE.comp1 (n := vs.length) (P := fun j v => vs[j]? = some v) (objs := [(D, listOf vs.toArray n)]) (fun j ys N' => N' = (It, oI) :: N₁ ∧ AreI ys ((acc.take j).map (·.fmod 15))) (Rd.wx (Ex.name e1) fun v hv' => by cases hv'; exact ⟨rfl, Srcs.list (hD' (X := [])), rfl, trivial⟩) (fun j ys N' ⟨e, _⟩ p hp => by rw [e, List.mem_singleton.mp hp]; exact List.mem_cons_of_mem _ hD) (by omega) ?_ ?_
      · rintro j v ys N' X C₀ oC m₂ hj hP ⟨rfl, hy⟩ hX hns hv2 hap
        refine Wx.testsNil ?_
        rw [if_pos rfl]
        obtain ⟨y, hyj, ty, rfl⟩ := hv.get hP
        refine (Ex.mod (Rd.mono (XE.blk (List.mem_append_left _ hX) hns hv2) fun v e => ⟨ty, e⟩) Ex.lit (by decide)).wx fun z hz => ⟨rfl, _, fun p hp => hp, hap, rfl, ?_⟩
        rw [List.take_add_one, hyj, List.map_append]
        exact hy.app hz
      · rintro L ys N' ⟨rfl, hy⟩ hL
        rw [hvl, List.take_length] at hy
        refine ⟨_, Rd.notInI (xs := acc.map (·.fmod 15)) (x := x.fmod 15) (n := ys.length) (List.mem_cons_self ..) hy hva, fun hc => WT.andNil ⟨fun _ => ?_, fun h => by cases h⟩, fun hc => ⟨fun h => (by cases h), fun _ => ?_⟩⟩
        · refine WE.listE (Ars.one (Ex.nameI (i := x) (t := t) rfl)) (fun vs e => by obtain ⟨v, rfl, _⟩ := e; simp) fun L2 ws e lt => ?_
          obtain ⟨v, rfl, hv3⟩ := e
          refine fin _ _ L2 [v] 0 (fun p hp => List.mem_cons_of_mem _ (List.mem_cons_of_mem _ hp)) (List.mem_cons_self ..) ?_ (by first | ((repeat (first | exact List.Mem.head _ | refine List.mem_cons_of_mem _ ?_ | refine List.mem_append_right _ ?_)); done) | simp)
          unfold fiveF
          rw [if_pos ⟨hlt, by simpa using hc⟩]
          exact hv.app hv3
        · refine WE.listE Ars.nil (fun vs e => by rw [e]; decide) fun L2 ws e lt => ?_
          subst e
          refine fin _ _ L2 [] 0 (fun p hp => List.mem_cons_of_mem _ (List.mem_cons_of_mem _ hp)) (List.mem_cons_self ..) ?_ (by decide)
          unfold fiveF
          rw [if_neg fun q => q.2 (by simpa using hc), List.append_nil, List.append_nil]
          exact hv
  · rintro m₁ N₁ ⟨D, vs, n, e1, hD, hv, hN⟩
    rw [hx.len, List.take_length] at hv
    exact SX.ret ((Ex.name e1).wx fun v hv' => hC _ _ _ ⟨D, vs, n, hv', hD, hv, hN⟩)

end Mine
end
section
open PySem PySem.W PyProof.Rows PySem.Calls
set_option maxRecDepth 100000
set_option maxHeartbeats 8000000
set_option linter.unusedVariables false
namespace Mine
section
variable {w : World} {f : Addr} {dn : Nat} {vs : List Value} {news : Led} {Post : Value → Led → Prop} {name qual : Str} {params : Arguments} {body : List Stmt} {scope : Scope} {dV kV doc pm cdv ct oc : Value} {an od : Option Addr} {osl : Array (Option Value)}
/-- a def with cells -/
theorem enterC {binds : List (Str × Value)} (ho : (Kh w.params).lookup f = some ⟨oc, od, .func (fnOf name qual params body scope dV kV doc pm an cdv ct), osl⟩) (hcd : codeIn (Kh w.params) cdv qual = true)
    (hbind : ∀ s : Shared, (Kh w.params).In s.heap → BindsTo s (fnOf name qual params body scope dV kV doc pm an cdv ct) ⟨vs, []⟩ binds) (hkind : (binds.all fun y => scope.names.lookup y.1 == some .local || scope.names.lookup y.1 == some .cell) = true)
    (hnd : ((cellsFrom 0 scope.names []).map (·.1)).Nodup) (hco : scope.isCoroutine = false) (hgen : scope.isGenerator = false) (hk : scope.kind = .function)
    (h : ∀ (b : Bs w dn) (cells : Led), CellsAre (bindC (envOfC qual scope b.L f cdv).kindOf binds fun _ => none) (cellsFrom (b.L + 1) scope.names []) cells → (∀ p ∈ news, p.1 < b.L) →
      SX b ⟨qual, scope, f, cdv, hk, fun L => cellsFrom (L + 1) scope.names []⟩ (bindL (envOfC qual scope b.L f cdv).kindOf binds fun _ => none) (cells ++ news) body (EndsC Post)) : Spec w f (dn + 1) vs news Post := by
  intro q cn cs a ccd cl h₀ L m s R hA hcs F N hd hu hret
  obtain ⟨⟨A₀, base, B⟩, X, ⟨v, lo, mean, mg, mb, T⟩⟩ := hA
  refine code_defC (binds := binds) (env := envX cn cs L a ccd cl) (outer := q.outer) B F X N T rfl rfl hcs ho hcd (by show q.dp < recursionLimit; omega) (hbind _ (X.keeps F.keep)) hkind hnd (fun g L' h₁ tk cells FG F' N' Y B' X' T' l => ?_) hco hgen hk
  have hb := h ⟨⟨q.dp + 1, q.un + 3, q.gd, envX cn cs L a ccd cl :: q.outer⟩, L', (· = g), fun _ e => e ▸ ⟨⟨_, _, B'⟩, X', ⟨_, _, _, _, _, T'⟩⟩, by show q.dp + 1 + dn < recursionLimit; omega, by show q.un + 3 + 8 * dn < cLine; omega⟩ cells Y l { s with heap := h₁, toks := tk }
    (fun fl s' => LeaveK h₀ L m g R (match fl with | .ret v => v | _ => .none) s') ⟨g, rfl, F'⟩ N' (fun fl m' N'' h' tk' c F'' N3 => ?_)
  · exact wpAny_mono hb (fun _ _ x => x) fun _ _ x => x.elim
  obtain ⟨g', G', F''⟩ := F''
  cases G'
  cases fl with
  | ret v => exact leaveK_ F'' N3 fun F3 N4 => hret v N'' h' tk' c F3 N4
  | next => exact leaveK_ F'' N3 fun F3 N4 => hret .none N'' h' tk' c F3 N4
  | brk => exact c.elim
  | cont => exact c.elim
end
section
variable {w : World} {dn : Nat} {b : Bs w dn} {k : Cd} {m : Map} {N : Led} {C : Flow → Map → Led → Prop} {rest : List Stmt} {en : Env}
/-- a cell, read -/
theorem Ex.cell {x : Str} {pos : Pos} {c : Addr} {o : Obj} {v : Value} (hm : (c, o) ∈ N) (hd : o.data = .cell (some v)) (hc : autoParam (en.cells.lookup x = some c) tRfl) (hx : autoParam (en.kindOf x = some .cell) tRfl) (hk : autoParam (en.scope.kind = .function) tRfl) (hb : autoParam ((x == ("__debug__" : Str)) = false) tDec) : XE b k en m N (.Name x pos) (IsV v) :=
  fun s Q F N' hQ => wpAny_Name (wpAny_loadName_cell hk hx hc ⟨o, (N' _ hm).1, hd⟩ (hQ v s.toks rfl)) hb
/-- a cell, written -/
theorem Wx.storeC {x : Str} {v : Value} {c : Addr} {o : Obj} {v₀ : Option Value} {r : Led} {C : Unit → Map → Led → Prop} (hs : ∀ p ∈ (c, o) :: r, p ∈ N) (ho : ∀ p ∈ r, p.1 ≠ c) (hd : o.data = .cell v₀) (hC : ∀ o', o'.data = .cell (some v) → C () m ((c, o') :: r))
    (hc : autoParam ((k.env b.L).cells.lookup x = some c) tRfl) (hx : autoParam ((k.env b.L).kindOf x = some .cell) tRfl) : Wx b k m N (storeName (k.env b.L) x v) C := fun s Q F N' hQ =>
  storeX_C (g := fun o' => (c, o') :: r) F.fr (News.sub N' hs) hc (.head ho) hd (fun h' o' F' N'' d => hQ () m _ h' s.toks (hC o' d) (F.of F') N'') k.fn hx
theorem SX.assignCell {x : Str} {xp pos : Pos} {e : Expr} (he : WE b k m N e (fun v m' N' => Wx b k m' N' (storeName (k.env b.L) x v) (fun _ m'' N'' => SX b k m'' N'' rest C))) (hs : autoParam (swapsWith e (some (.Name x xp)) pos.line (k.env b.L) = pure false) tRfl) :
    SX b k m N (.Assign [.Name x xp] e pos :: rest) C :=
  SX.cons (C' := C) fun s Q F N hQ => wpAny_Assign_Name (he s _ F N fun v m' N' h' tk c F' N'' => c _ _ F' N'' fun _ m2 N2 h2 tk2 c2 F2 NN2 => hQ .next m2 N2 h2 tk2 c2 F2 NN2) hs
end
end Mine
end
section
open PySem PySem.W PyProof.Rows PySem.Calls PyProof.Rows.LCg
set_option maxRecDepth 100000
set_option maxHeartbeats 8000000
namespace Mine
set_option linter.unusedVariables false
section
variable {w : World} {dn : Nat} {b : Bs w dn} {k : Cd} {m : Map} {N : Led} {rest : List Stmt} {en : Env}
/-- a builtin, called on things that may write -/
theorem WXE.bcall {f e : Expr} {es : List Expr} {pos : Pos} {id : String} {C : Value → Map → Led → Prop} (hf : XE b k en m N f (IsV (.builtin id))) (ha : WArs b k en m N (e :: es) (fun vs m' N' => Wx b k m' N' (PySem.call (.builtin id) vs) C))
    (h1 : autoParam (eval (.Call f (e :: es) [] pos) en = (do callWith pos (← eval f en) [] (backTo pos (starEach (e :: es) en)) (backToKw pos (keywordEach [] en)))) tRfl)
    (he : autoParam (starEach (e :: es) en = (false, eval e en) :: starEach es en) tRfl) (hplain : autoParam ((backTo pos (starEach es en)).any (·.1) = false) tRfl) : WXE b k en m N (.Call f (e :: es) [] pos) C := fun s Q F N' hQ =>
  Call_ (hf s _ F N' fun fv tk p => by
    cases p
    exact PyProof.Rows.callWith_builtin1 (ha pos _ _ F N' fun vs m' N'' h' tk2 c F' NN => c _ Q F' NN hQ) he hplain) h1
theorem Wx.min2 {i j : Int} {vi vj : Value} {C : Value → Map → Led → Prop} (hi : IsI i vi) (hj : IsI j vj) (h : ∀ v, IsI (if j < i then j else i) v → C v m N) : Wx b k m N (PySem.call (.builtin "min") [vi, vj]) C := fun s Q F N' hQ => by
  obtain ⟨t, rfl⟩ := hi
  obtain ⟨u, rfl⟩ := hj
  exact min_two_N rfl F.fr N' fun h' tk F' N'' => hQ _ m N h' tk (h _ ⟨_, rfl⟩) (F.of F') N''
/-- range of something that may write -/
theorem WXE.rangeW {f e : Expr} {pos : Pos} {C : Value → Map → Led → Prop} (hf : XE b k en m N f (IsV (.type "range"))) (he : WXE b k en m N e (fun v m' N' => ∃ n, IsI n v ∧ ∀ r t u v, (∀ p ∈ N', p.1 < r) → C (.ref r) m' ((r, { cls := .type "range", data := .fields #[.int 0 t, .int n u, .int 1 v] }) :: N')))
    (h1 : autoParam (eval (.Call f [e] [] pos) en = (do callWith pos (← eval f en) [] (backTo pos (starEach [e] en)) (backToKw pos (keywordEach [] en)))) tRfl)
    (hse : autoParam (starEach [e] en = (false, eval e en) :: starEach [] en) tRfl) : WXE b k en m N (.Call f [e] [] pos) C := fun s Q F N' hQ =>
  Call_ (hf s _ F N' fun fv tk p => by
    cases p
    have h2 := WArs.cons (b := b) (k := k) (C := fun vs m' N' => ∃ v n, vs = [v] ∧ IsI n v ∧ ∀ r t u v, (∀ p ∈ N', p.1 < r) → C (.ref r) m' ((r, { cls := .type "range", data := .fields #[.int 0 t, .int n u, .int 1 v] }) :: N')) (he.mono fun v m' N' ⟨n, p, c⟩ => WArs.nil ⟨v, n, rfl, p, c⟩) hse
    refine PyProof.Rows.callWith_type1 (h2 pos _ _ F N' fun us m' N'' h' tk2 c F' NN => ?_) hse rfl
    obtain ⟨v, n, rfl, ⟨t, rfl⟩, c⟩ := c
    exact call_range_1 (hQ _ m' _ _ _ (c _ _ _ _ fun p hp => Heap.lt_size (NN p hp).1) (F'.of (F'.fr.push _)) (News.push F'.fr NN _ rfl))) h1
theorem Rd.eqNil {a c : Addr} {vs : List Value} {n n2 : Nat} (ha : (a, listOf vs.toArray n) ∈ N) (hc : (c, listOf ([] : List Value).toArray n2) ∈ N) : Rd b k m N (compareOp .Eq (.ref a) (.ref c)) (IsV (.bool vs.isEmpty)) := fun s Q F N' hQ => by
  have h1 : s.heap.IsList a vs.toArray := ⟨_, (N' _ ha).1, rfl, n, rfl⟩
  have h2 : s.heap.IsList c ([] : List Value).toArray := ⟨_, (N' _ hc).1, rfl, n2, rfl⟩
  cases vs with
  | nil => exact SeqAt.eq_listAt (e := fun _ => true) h1 h2 rfl (b.units k) (fun j h h' => absurd h' (Nat.not_lt_zero _)) (hQ _ s.toks rfl)
  | cons x xs => exact SeqAt.eq_list_lengthsAt h1 h2 (by first | ((repeat (first | exact List.Mem.head _ | refine List.mem_cons_of_mem _ ?_ | refine List.mem_append_right _ ?_)); done) | simp) (b.units k) (hQ _ s.toks rfl)
theorem Ex.lenS {f e : Expr} {pos : Pos} {x : Str} (hf : XE b k en m N f (IsV (.builtin "len"))) (he : XE b k en m N e (IsS x)) (hz : x.length ≤ 1000)
    (h1 : autoParam (eval (.Call f [e] [] pos) en = (do callWith pos (← eval f en) [] (backTo pos (starEach [e] en)) (backToKw pos (keywordEach [] en)))) tRfl)
    (hse : autoParam (starEach [e] en = (false, eval e en) :: starEach [] en) tRfl) : XE b k en m N (.Call f [e] [] pos) (IsI x.length) :=
  Ex.call1 hf he (fun v ⟨t, e⟩ s Q F N' hQ => by subst e; exact P.len_str (by omega) (hQ _ _ ⟨_, rfl⟩)) h1 hse
theorem Ex.itemS {o i : Expr} {pos : Pos} {x : Str} {j : Nat} {c : Nat} (ho : XE b k en m N o (IsS x)) (hi : XE b k en m N i (IsI (j : Int))) (hx : x.cps[j]? = some c) (hj : j < 2 ^ 62)
    (hsu : autoParam (∀ y t key, subscripted i false (.str y t) key = operate [.str y t, key] (getItem (.str y t) key)) tIIIUn) : XE b k en m N (.Subscript o i pos) (IsS ⟨#[c]⟩) := fun s Q F N' hQ =>
  Subscript_ (ho s _ F N' fun v tk p => by
    obtain ⟨t, rfl⟩ := p
    exact hi _ _ F N' fun v tk2 p2 => by
      obtain ⟨t2, rfl⟩ := p2
      have hl : j < x.length := by
        have := Array.getElem?_eq_some_iff.mp hx
        exact this.1
      refine subTail (s := { s with heap := s.heap, toks := _ }) (typeIs_str _ x t) PyProof.Rows.slot_str_getitem.lookup ?_ (hsu _ _ _)
      refine P.getItem_str (by simp; omega) ?_ (hQ _ _ ⟨_, rfl⟩)
      have e : seqIndex? (j : Int) x.length = some j := by
        unfold seqIndex?
        rw [if_neg (by omega : ¬ (j : Int) < 0), if_pos (by simp; omega)]
        simp
      rw [e]
      exact hx)
end
theorem SX.ifW {w : World} {dn : Nat} {b : Bs w dn} {k : Cd} {m : Map} {N : Led} {rest : List Stmt} {C : Flow → Map → Led → Prop} {e : Expr} {body orelse : List Stmt} {pos : Pos} (ht : WT b k (k.env b.L) m N e (fun c m' N' => (c = true → SX b k m' N' body (Cn b k rest C)) ∧ (c = false → SX b k m' N' orelse (Cn b k rest C)))) : SX b k m N (.If e body orelse pos :: rest) C :=
  SX.cons (C' := C) fun s Q F N hQ => wpAny_If (ht s _ F N fun c m' N' h' tk p F' N'' => by
    cases c with
    | true => exact p.1 rfl _ Q F' N'' fun f m' N' h' tk c F' N'' => hQ f m' N' h' tk c F' N''
    | false => exact p.2 rfl _ Q F' N'' fun f m' N' h' tk c F' N'' => hQ f m' N' h' tk c F' N'')
/-- the places at which they differ -/
def differL (x y : Str) (n : Nat) : List Nat := (List.range n).filter fun k => x.cps[k]? != y.cps[k]?
def orderOf (x y : Str) : Int := match differL x y (min x.length y.length) with
  | [] => if x.length = y.length then 0 else if x.length < y.length then -1 else 1
  | d :: _ => if [x.cps[d]?.getD 0] < [y.cps[d]?.getD 0] then -1 else 1
theorem differL_succ (x y : Str) (n : Nat) : differL x y (n + 1) = differL x y n ++ if x.cps[n]? != y.cps[n]? then [n] else [] := by
  unfold differL
  rw [List.range_succ, List.filter_append]
  congr 1
  by_cases h : (x.cps[n]? != y.cps[n]?) = true <;> simp_all
theorem differL_lt {x y : Str} {n d : Nat} (h : d ∈ differL x y n) : d < n := by
  unfold differL at h
  simp at h
  exact h.1
theorem Ex.negI {e : Expr} {pos : Pos} {i : Int} {w : World} {dn : Nat} {b : Bs w dn} {k : Cd} {m : Map} {N : Led} {en : Env} (h : XE b k en m N e (IsI i)) (h1 : autoParam (eval (.UnaryOp .USub e pos) en = (do
    let v ← eval e en
    standAt pos
    holding [v] (unaryOp .USub v))) tUn) : XE b k en m N (.UnaryOp .USub e pos) (IsI (-i)) := fun s Q F N' hQ => by
  rw [h1]
  refine wpAny_bind (h s _ F N' fun v tk p => ?_)
  obtain ⟨t, rfl⟩ := p
  exact wpAny_bind (wpAny_standAt (wpAny_holding (neg_int (hQ _ _ ⟨_, rfl⟩))))
theorem order_spec (w : World) (x y : Str) (t u : Tok) (N : Led) (hx : x.length ≤ 100) (hy : y.length ≤ 100) : Spec w 233 1 [.str x t, .str y u] N (fun r n' => IsI (orderOf x y) r ∧ ∀ p ∈ N, p ∈ n') := by
  k_dflt (refine' enterC (binds := [(Str.ofString "one", .str x t), (Str.ofString "two", .str y u)]) ?k6 ?k7 ?k9 ?kB ?kD ?c2 ?c3 ?c4 ?_; (case k6 => k_is); (case k7 => k_is); (case k9 => exact fun _ _ => BindsTo.of_eq rfl); (case kB => exact rfl); (case kD => decide +kernel); (case c2 => exact rfl); (case c3 => exact rfl); (case c4 => exact rfl); k_whole)
  intro b cells Y lt
  obtain ⟨o1, o2, rfl, d1, d2⟩ := CellsAre.two Y
  have d1' : o1.data = .cell (some (.str y u)) := d1
  have d2' : o2.data = .cell (some (.str x t)) := d2
  clear d1 d2 Y
  refine SX.abs fun C hC => ?_
  have one : ∀ {kk : Cd} {m : Map} {N' : Led} {en : Env} {pos : Pos}, (b.L + 1, o2) ∈ N' → en.cells.lookup (Str.ofString "one") = some (b.L + 1) → en.kindOf (Str.ofString "one") = some .cell → en.scope.kind = .function → XE b kk en m N' (.Name (Str.ofString "one") pos) (IsS x) := fun hm h1 h2 h3 => (Ex.cell hm d2' h1 h2 h3).mono fun v e => ⟨t, e⟩
  have two : ∀ {kk : Cd} {m : Map} {N' : Led} {en : Env} {pos : Pos}, (b.L + 1 + 1, o1) ∈ N' → en.cells.lookup (Str.ofString "two") = some (b.L + 1 + 1) → en.kindOf (Str.ofString "two") = some .cell → en.scope.kind = .function → XE b kk en m N' (.Name (Str.ofString "two") pos) (IsS y) := fun hm h1 h2 h3 => (Ex.cell hm d1' h1 h2 h3).mono fun v e => ⟨u, e⟩
  refine SX.comp1 (n := min x.length y.length) (P := fun i v => IsI (i : Int) v) (objs := []) (fun i ys N' => (∀ p ∈ (b.L + 1 + 1, o1) :: (b.L + 1, o2) :: N, p ∈ N') ∧ AreI ys ((differL x y i).map (Int.ofNat ·))) ?_ (fun _ _ _ _ p hp => (nomatch hp)) (by omega) ?_ ?_
  · refine WXE.rangeW (Ex.blt (by k_is) (by boot_by_name)) (WXE.bcall (Ex.blt (by k_is) (by boot_by_name)) ?_)
    refine WArs.cons (Rd.wx (Ex.lenS (Ex.blt (by k_is) (by boot_by_name)) (one (by first | ((repeat (first | exact List.Mem.head _ | refine List.mem_cons_of_mem _ ?_ | refine List.mem_append_right _ ?_)); done) | simp) rfl rfl rfl) (by omega)) fun v1 hv1 => ?_)
    refine WArs.cons (Rd.wx (Ex.lenS (Ex.blt (by k_is) (by boot_by_name)) (two (by first | ((repeat (first | exact List.Mem.head _ | refine List.mem_cons_of_mem _ ?_ | refine List.mem_append_right _ ?_)); done) | simp) rfl rfl rfl) (by omega)) fun v2 hv2 => ?_)
    refine WArs.nil (Wx.min2 hv1 hv2 fun v hv => ⟨_, hv, fun r t1 t2 t3 lt => ⟨rfl, ?_, fun p hp => List.mem_cons_of_mem _ hp, trivial⟩⟩)
    refine Srcs.range (t := t1) (u := t2) (v := t3) (List.mem_cons_self ..) ?_ (by omega)
    have e : (if (y.length : Int) < x.length then (y.length : Int) else x.length) = ((min x.length y.length : Nat) : Int) := by
      rw [Nat.min_def]
      split <;> split <;> omega
    rw [e]
  · rintro i v ys N₁ X C₀ oC m₂ hi hP ⟨hs, hy⟩ hX hns hv ap
    have hs' : ∀ p ∈ (b.L + 1 + 1, o1) :: (b.L + 1, o2) :: N, p ∈ X ++ N₁ := fun p hp => List.mem_append_right _ (hs p hp)
    obtain ⟨c1, hc1⟩ : ∃ c, x.cps[i]? = some c := ⟨_, Array.getElem?_eq_getElem (show i < x.cps.size from Nat.lt_of_lt_of_le hi (Nat.min_le_left ..))⟩
    obtain ⟨c2, hc2⟩ : ∃ c, y.cps[i]? = some c := ⟨_, Array.getElem?_eq_getElem (show i < y.cps.size from Nat.lt_of_lt_of_le hi (Nat.min_le_right ..))⟩
    refine Wx.testsOne (WT.of (c := (c1 != c2)) (Tst.cmp (Ex.itemS (one (hs' _ (by first | ((repeat (first | exact List.Mem.head _ | refine List.mem_cons_of_mem _ ?_ | refine List.mem_append_right _ ?_)); done) | simp)) rfl rfl rfl) (Rd.mono (XE.blk (List.mem_append_left _ hX) hns hv) fun v e => by cases e; exact hP) hc1 (by omega)) (Ex.itemS (two (hs' _ (by first | ((repeat (first | exact List.Mem.head _ | refine List.mem_cons_of_mem _ ?_ | refine List.mem_append_right _ ?_)); done) | simp)) rfl rfl rfl) (Rd.mono (XE.blk (List.mem_append_left _ hX) hns hv) fun v e => by cases e; exact hP) hc2 (by omega)) ?_) ?_)
    · rintro va vb ⟨t1, rfl⟩ ⟨t2, rfl⟩ s Q F N' hQ
      refine P.ne_str (hQ _ s.toks ?_)
      show Value.bool ([c1] != [c2]) = Value.bool (c1 != c2)
      have : ([c1] != [c2]) = (c1 != c2) := by simp [bne]
      rw [this]
    · have e := differL_succ x y i
      rw [hc1, hc2] at e
      split
      · rename_i hc
        refine (XE.blk (List.mem_append_left _ hX) hns hv).wx fun z hz => ⟨rfl, N₁, fun p hp => hp, ap, hs, ?_⟩
        cases hz
        rw [e, if_pos (by simpa using hc), List.map_append]
        exact hy.app hP
      · rename_i hc
        refine ⟨rfl, N₁, fun p hp => hp, ap, hs, ?_⟩
        rw [e, if_neg (by simpa using hc), List.append_nil]
        exact hy
  · rintro D ys N₁ ⟨hs, hy⟩ hD
    have hs' : ∀ p ∈ (b.L + 1 + 1, o1) :: (b.L + 1, o2) :: N, p ∈ (D, lst ys) :: N₁ := fun p hp => List.mem_cons_of_mem _ (hs p hp)
    have hyl := hy.len
    refine SX.ifW (WT.cmp (Ex.name rfl) (WE.listE Ars.nil (fun vs e => by rw [e]; decide) fun l vs e ltl => ?_))
    subst e
    refine ⟨_, Rd.eqNil (vs := ys) (n := ys.length) (List.mem_cons_of_mem _ (List.mem_cons_self ..)) (List.mem_cons_self ..), fun hc => ?_, fun hc => ?_⟩
    · have e0 : differL x y (min x.length y.length) = [] := by
        cases ys with
        | nil => exact List.eq_nil_of_length_eq_zero (by simpa using hyl.symm)
        | cons a c => cases hc
      have eo : orderOf x y = if x.length = y.length then 0 else if x.length < y.length then -1 else 1 := by
        unfold orderOf
        rw [e0]
      have hN : ∀ p ∈ N, p ∈ (l, listOf ([] : List Value).toArray 0) :: (D, lst ys) :: N₁ := fun p hp => List.mem_cons_of_mem _ (hs' p (by (first | ((repeat (first | exact hp | exact memH hp | exact List.mem_append_left _ hp | refine List.mem_cons_of_mem _ ?_ | refine List.mem_append_right _ ?_)); done) | simp [hp])))
      have h1 : (b.L + 1, o2) ∈ (l, listOf ([] : List Value).toArray 0) :: (D, lst ys) :: N₁ := List.mem_cons_of_mem _ (hs' _ (by first | ((repeat (first | exact List.Mem.head _ | refine List.mem_cons_of_mem _ ?_ | refine List.mem_append_right _ ?_)); done) | simp))
      have h2 : (b.L + 1 + 1, o1) ∈ (l, listOf ([] : List Value).toArray 0) :: (D, lst ys) :: N₁ := List.mem_cons_of_mem _ (hs' _ (by first | ((repeat (first | exact List.Mem.head _ | refine List.mem_cons_of_mem _ ?_ | refine List.mem_append_right _ ?_)); done) | simp))
      refine SX.ret (WXE.ifE (WT.of (Tst.eqI (Ex.lenS (Ex.blt (by k_is) (by boot_by_name)) (one h1 rfl rfl rfl) (by omega)) (Ex.lenS (Ex.blt (by k_is) (by boot_by_name)) (two h2 rfl rfl rfl) (by omega))) ⟨fun hc => ?_, fun hc => ?_⟩))
      · have hl : x.length = y.length := by have := eq_of_beq hc; omega
        exact Ex.lit.wx fun v hv => hC _ _ _ ⟨by rw [eo, if_pos hl]; exact hv, hN⟩
      · have hl : ¬ x.length = y.length := fun e => by rw [e] at hc; simp at hc
        refine WXE.ifE (WT.of (Tst.ltI (Ex.lenS (Ex.blt (by k_is) (by boot_by_name)) (one h1 rfl rfl rfl) (by omega)) (Ex.lenS (Ex.blt (by k_is) (by boot_by_name)) (two h2 rfl rfl rfl) (by omega))) ⟨fun hc => ?_, fun hc => ?_⟩)
        · have hl2 : x.length < y.length := by simpa using hc
          exact (Ex.negI Ex.lit).wx fun v hv => hC _ _ _ ⟨by rw [eo, if_neg hl, if_pos hl2]; exact hv, hN⟩
        · have hl2 : ¬ x.length < y.length := by simpa using hc
          exact Ex.lit.wx fun v hv => hC _ _ _ ⟨by rw [eo, if_neg hl, if_neg hl2]; exact hv, hN⟩
    · obtain ⟨v, vs, rfl⟩ : ∃ v vs, ys = v :: vs := by cases ys with
        | nil => cases hc
        | cons v vs => exact ⟨v, vs, rfl⟩
      obtain ⟨d, ds, ed⟩ : ∃ d ds, differL x y (min x.length y.length) = d :: ds := by
        cases e : differL x y (min x.length y.length) with
        | nil => rw [e] at hyl; cases hyl
        | cons d ds => exact ⟨d, ds, rfl⟩
      rw [ed] at hy
      have hvd : IsI (d : Int) v := hy.1
      have hdl : d < min x.length y.length := differL_lt (x := x) (y := y) (by rw [ed]; exact List.mem_cons_self ..)
      obtain ⟨c1, hc1⟩ : ∃ c, x.cps[d]? = some c := ⟨_, Array.getElem?_eq_getElem (show d < x.cps.size from Nat.lt_of_lt_of_le hdl (Nat.min_le_left ..))⟩
      obtain ⟨c2, hc2⟩ : ∃ c, y.cps[d]? = some c := ⟨_, Array.getElem?_eq_getElem (show d < y.cps.size from Nat.lt_of_lt_of_le hdl (Nat.min_le_right ..))⟩
      have eo : orderOf x y = if [c1] < [c2] then -1 else 1 := by
        unfold orderOf
        rw [ed]
        show (if [x.cps[d]?.getD 0] < [y.cps[d]?.getD 0] then (-1 : Int) else 1) = _
        rw [hc1, hc2]; rfl
      have hN : ∀ p ∈ N, p ∈ (l, listOf ([] : List Value).toArray 0) :: (D, lst (v :: vs)) :: N₁ := fun p hp => List.mem_cons_of_mem _ (hs' p (by (first | ((repeat (first | exact hp | exact memH hp | exact List.mem_append_left _ hp | refine List.mem_cons_of_mem _ ?_ | refine List.mem_append_right _ ?_)); done) | simp [hp])))
      have h1 : (b.L + 1, o2) ∈ (l, listOf ([] : List Value).toArray 0) :: (D, lst (v :: vs)) :: N₁ := List.mem_cons_of_mem _ (hs' _ (by first | ((repeat (first | exact List.Mem.head _ | refine List.mem_cons_of_mem _ ?_ | refine List.mem_append_right _ ?_)); done) | simp))
      have h2 : (b.L + 1 + 1, o1) ∈ (l, listOf ([] : List Value).toArray 0) :: (D, lst (v :: vs)) :: N₁ := List.mem_cons_of_mem _ (hs' _ (by first | ((repeat (first | exact List.Mem.head _ | refine List.mem_cons_of_mem _ ?_ | refine List.mem_append_right _ ?_)); done) | simp))
      have hD' : (D, listOf (v :: vs).toArray (v :: vs).length) ∈ (l, listOf ([] : List Value).toArray 0) :: (D, lst (v :: vs)) :: N₁ := List.mem_cons_of_mem _ (List.mem_cons_self ..)
      refine SX.nil (SX.ret (WXE.ifE (WT.of (c := decide ([c1] < [c2])) (Tst.cmp (Ex.itemS (one h1 rfl rfl rfl) (Rd.mono (Ex.item (j := 0) (Ex.name rfl) Ex.lit hD' rfl (by omega)) fun z hz => by cases hz; exact hvd) hc1 (by omega)) (Ex.itemS (two h2 rfl rfl rfl) (Rd.mono (Ex.item (j := 0) (Ex.name rfl) Ex.lit hD' rfl (by omega)) fun z hz => by cases hz; exact hvd) hc2 (by omega)) ?_) ⟨fun hc => ?_, fun hc => ?_⟩)))
      · rintro va vb ⟨t1, rfl⟩ ⟨t2, rfl⟩ s Q F N' hQ
        exact PyProof.Rows.lt_str (hQ _ s.toks rfl)
      · exact (Ex.negI Ex.lit).wx fun v hv => hC _ _ _ ⟨by rw [eo, if_pos (of_decide_eq_true hc)]; exact hv, hN⟩
      · exact Ex.lit.wx fun v hv => hC _ _ _ ⟨by rw [eo, if_neg (of_decide_eq_false hc)]; exact hv, hN⟩
end Mine
end
section
open PySem PySem.W PyProof.Rows PySem.Calls
set_option maxRecDepth 100000
set_option maxHeartbeats 8000000
set_option linter.unusedVariables false
namespace Mine
/-- the loop of min over a walk whose items need the old heap to be told apart -/
theorem min_turns {prog : Program} {w : World} {A : Around} {R : Result → Shared → Prop} {I S : Addr} {fp : List Addr} {n : Nat} {P : Nat → Value → Prop} {St : Nat → Heap → Prop} {h₀ : Heap} (W : Walks prog w A.in1 I fp [I] n P St) (lt : Nat → Nat → Bool) (hS : S ∉ fp)
    (cmp : ∀ i j vi vj (s : Shared) (Q : Value → Shared → Prop) (E : Value → Shared → Prop), j < i → i < n → P i vi → P j vj → (∀ a o, a ≠ I → a ≠ S → h₀.get? a = some o → s.heap.get? a = some o) → Q (.bool (lt i j)) s → wpAny (model prog w) A.in1 (richCompare .Lt vi vj) Q E s) :
    ∀ (r j i : Nat) (s : Shared) (vb : Value) (c : Nat), n = j + 1 + r → i ≤ j → St (j + 1) s.heap → P i vb → i = argBest lt j → s.heap.get? S = some (listOf #[vb, vb] c) → (∀ a o, a ≠ I → a ≠ S → h₀.get? a = some o → s.heap.get? a = some o) →
      (∀ v h' tk, P (argBest lt (n - 1)) v → (∀ a o, a ≠ I → a ≠ S → s.heap.get? a = some o → h'.get? a = some o) → R (.ok (.ret v)) { s with heap := h', toks := tk }) →
      codeAny (model prog w) A (.builtin "min.loop" ⟨[.ref I, .none, .ref S], []⟩) R s := by
  have hIS : I ≠ S := fun e => hS (e ▸ W.sub I (List.mem_singleton.mpr rfl))
  have e0 : (toString "min" ++ toString ".loop" : String) = "min.loop" := by decide
  intro r
  induction r with
  | zero =>
    intro j i s vb c hn hij st hP hi hs kp hR
    refine codeAny_builtin F.entry_min_loop ?_
    rw [Around.under_plainId F.plain_min_loop _]
    refine wpAny_bind (wpAny_seqItems hs rfl (wpAny_bind (wpAny_tryCatch (W.done s _ _ (by rw [hn]; exact st) fun h1 tk k1 => ?_))))
    have hs1 := k1 S _ (by simpa using hIS.symm) hs
    refine wpAny_bind (wpAny_updateSeq hs1 rfl (wpAny_bind (wpAny_letGo (wpAny_pure (hR vb _ tk ?_ fun a o hI hSa ha => ?_)))))
    · rw [hn, show j + 1 + 0 - 1 = j from rfl, ← hi]; exact hP
    · exact (Heap.get?_update_other _ _ (Ne.symm hSa)).trans (k1 a o (by simpa using hI) ha)
  | succ r ih =>
    intro j i s vb c hn hij st hP hi hs kp hR
    refine codeAny_builtin F.entry_min_loop ?_
    rw [Around.under_plainId F.plain_min_loop _]
    refine wpAny_bind (wpAny_seqItems hs rfl (wpAny_bind (wpAny_tryCatch (W.item (j + 1) s _ _ (by omega) st fun v h1 tk hv st1 k1 => ?_))))
    have hs1 := k1 S _ (by simpa using hIS.symm) hs
    have kp1 : ∀ a o, a ≠ I → a ≠ S → h₀.get? a = some o → h1.get? a = some o := fun a o hI hSa ha => k1 a o (by simpa using hI) (kp a o hI hSa ha)
    refine wpAny_bind (wpAny_pure ?_)
    show wpAny _ A.in1 (tryCatch (holding [v, v] (richCompare .Lt v vb >>= _)) _ >>= _) _ _ _
    refine wpAny_bind (wpAny_tryCatch (wpAny_holding (wpAny_bind (cmp (j + 1) i v vb { s with heap := h1, toks := tk } _ _ (by omega) (by omega) hv hP kp1 (wpAny_bind (wpAny_holding (wpAny_truthy_bool (wpAny_bind (wpAny_letGo (wpAny_pure ?_))))))))))
    cases hb : lt (j + 1) i with
    | true =>
      simp only [if_true]
      refine wpAny_bind (wpAny_updateSeq hs1 rfl (wpAny_bind (wpAny_letGo ?_)))
      rw [e0]
      refine wpAny_pure ⟨plainId_quiet F.plain_min_loop _, ih (j + 1) (j + 1) _ v _ (by omega) (Nat.le_refl _) (W.frame _ _ _ st1 fun a ha o e => ?_) hv ?_ (Heap.get?_update_self _ hs1 rfl) (fun a o hI hSa ha => ?_) fun v' h2 tk2 hP' k2 => ?_⟩
      · exact (Heap.get?_update_other _ _ (fun q : S = a => hS (q ▸ ha))).trans e
      · simp only [argBest, ← hi, hb, if_true]
      · exact (Heap.get?_update_other _ _ (Ne.symm hSa)).trans (kp1 a o hI hSa ha)
      · exact hR v' h2 tk2 hP' fun a o hI hSa ha => k2 a o hI hSa ((Heap.get?_update_other _ _ (Ne.symm hSa)).trans (k1 a o (by simpa using hI) ha))
    | false =>
      simp only [Bool.false_eq_true, if_false]
      refine wpAny_bind (wpAny_letGo ?_)
      rw [e0]
      refine wpAny_pure ⟨plainId_quiet F.plain_min_loop _, ih (j + 1) i _ vb c (by omega) (by omega) st1 hP ?_ hs1 kp1 fun v' h2 tk2 hP' k2 => hR v' h2 tk2 hP' fun a o hI hSa ha => k2 a o hI hSa (k1 a o (by simpa using hI) ha)⟩
      simp only [argBest, ← hi, hb, Bool.false_eq_true, if_false]
section
variable {w : World} {dn : Nat} {b : Bs w dn} {k : Cd} {m : Map} {N : Led} {rest : List Stmt} {en : Env}
/-- min of a list whose items are told apart by the ledger -/
theorem Wx.minL {l : Addr} {vs : List Value} {n : Nat} {C : Value → Map → Led → Prop} (lt : Nat → Nat → Bool) (hm : (l, listOf vs.toArray n) ∈ N) (h0 : 0 < vs.length)
    (cmp : ∀ i j vi vj (s : Shared) (Q : Value → Shared → Prop) (E : Value → Shared → Prop), j < i → vs[i]? = some vi → vs[j]? = some vj → (∀ p ∈ N, s.heap.get? p.1 = some p.2) → Q (.bool (lt i j)) s → wpAny (model prog w) (b.A k).in1 (richCompare .Lt vi vj) Q E s)
    (h : ∀ v, vs[argBest lt (vs.length - 1)]? = some v → C v m N) : Wx b k m N (PySem.call (.builtin "min") [.ref l]) C := fun s Q F N' hQ => by
  have e0 : (toString "min" ++ toString ".loop" : String) = "min.loop" := by decide
  have hl := (N' _ hm).1
  have hls : s.heap.IsList l vs.toArray := ⟨_, hl, rfl, n, rfl⟩
  refine call_function_tree PySem.F.kind_min PySem.F.plain_min PySem.F.entry_min (PySem.F.args_min1 _) ?_
  refine wpAny_bind (wpAny_of_eq (show Builtin.Builtins.bindParams "min" ["key", "default"] 0 ⟨[], []⟩ = pure [none, none] from rfl) (wpAny_bind (wpAny_pure (wpAny_bind (wpAny_pyIter_list hls (wpAny_bind (wpAny_newObj_type ?_)))))))
  rw [e0]
  have hne : l ≠ s.heap.objs.size := Nat.ne_of_lt (Heap.lt_size hl)
  have W := Walks.list (prog := prog) (w := w) (A := (b.A k).in1) rfl s.heap.objs.size l hne vs.toArray
  generalize hSS : (s.heap.push { cls := .type "list_iterator", data := .fields #[.ref l, .int 0 0] }).objs.size = S
  have hS : (S : Nat) = s.heap.objs.size + 1 := hSS.symm.trans (Heap.size_push ..)
  have up : ∀ a o, s.heap.get? a = some o → ((s.heap.push { cls := .type "list_iterator", data := .fields #[.ref l, .int 0 0] }).push { cls := .type "list", data := .seq #[] }).get? a = some o := fun a o e => Heap.get?_push_of_some _ (Heap.get?_push_of_some _ e)
  have gS : ((s.heap.push { cls := .type "list_iterator", data := .fields #[.ref l, .int 0 0] }).push { cls := .type "list", data := .seq #[] }).get? S = some (listOf #[] 0) := hSS ▸ Heap.get?_push_size _ rfl
  have gI : ((s.heap.push { cls := .type "list_iterator", data := .fields #[.ref l, .int 0 0] }).push { cls := .type "list", data := .seq #[] }).get? s.heap.objs.size = some { cls := .type "list_iterator", data := .fields #[.ref l, .int 0 0] } := Heap.get?_push_of_some _ (Heap.get?_push_size _ rfl)
  generalize ((s.heap.push { cls := .type "list_iterator", data := .fields #[.ref l, .int 0 0] }).push { cls := .type "list", data := .seq #[] }) = h1 at up gS gI ⊢
  have hIS : s.heap.objs.size ≠ S := by omega
  have hSf : S ∉ [s.heap.objs.size, l] := by
    have h2 : (l : Nat) < s.heap.objs.size := Heap.lt_size hl
    refine fun hm => ?_
    rcases List.mem_cons.mp hm with e | hm
    · exact hIS e.symm
    · exact absurd (List.mem_singleton.mp hm) (Nat.ne_of_gt (hS ▸ Nat.lt_succ_of_lt h2))
  refine wpAny_pure ⟨plainId_quiet PySem.F.plain_min_loop _, codeAny_builtin PySem.F.entry_min_loop ?_⟩
  rw [Around.under_plainId PySem.F.plain_min_loop _]
  refine wpAny_bind (wpAny_seqItems gS rfl (wpAny_bind (wpAny_tryCatch (W.item 0 _ _ _ (by simpa using h0) ⟨⟨_, gI, rfl, rfl⟩, ⟨_, up _ _ hl, rfl, n, rfl⟩⟩ fun v h2 tk hv st2 k2 => ?_))))
  have hs2 := k2 S _ (by simpa using hIS.symm) gS
  refine wpAny_bind (wpAny_pure (wpAny_bind (wpAny_updateSeq hs2 rfl ?_)))
  rw [e0]
  refine wpAny_pure ⟨plainId_quiet PySem.F.plain_min_loop _, min_turns (h₀ := s.heap) W lt hSf (fun i j vi vj s' Q E hji hin hi hj kp hQ => cmp i j vi vj s' Q E hji (by simpa using hi) (by simpa using hj) (fun p hp => kp _ _ (Nat.ne_of_lt (Heap.lt_size (N' p hp).1)) (Nat.ne_of_lt (hS ▸ Nat.lt_succ_of_lt (Heap.lt_size (N' p hp).1))) (N' p hp).1) hQ) (vs.length - 1) 0 0 _ v _ (by simp; omega) (Nat.le_refl _) (W.frame _ _ _ st2 fun a ha o e => ?_) hv rfl (Heap.get?_update_self _ hs2 rfl) (fun a o hI hSa ha => ?_) fun v' h3 tk3 hP' k3 => ?_⟩
  · exact (Heap.get?_update_other _ _ (fun q : S = a => hSf (q ▸ ha))).trans e
  · exact (Heap.get?_update_other _ _ (Ne.symm hSa)).trans (k2 a o (by simpa using hI) (up a o ha))
  have kp : ∀ a o, s.heap.get? a = some o → h3.get? a = some o := fun a o ha => by
    have hlt := Heap.lt_size ha
    have hSa : a ≠ S := Nat.ne_of_lt (hS ▸ Nat.lt_succ_of_lt hlt)
    exact k3 a o (Nat.ne_of_lt hlt) hSa ((Heap.get?_update_other _ _ (Ne.symm hSa)).trans (k2 a o (by simpa using Nat.ne_of_lt hlt) (up a o ha)))
  exact hQ v' m N h3 tk3 (h v' (by simpa using hP')) (F.of (F.fr.keeps kp)) fun p hp => ⟨kp _ _ (N' p hp).1, (N' p hp).2⟩
end
end Mine
end
section
open PySem PySem.W PyProof.Rows PySem.Calls
set_option linter.unusedVariables false
namespace Mine
/-- greedy from here on -/
def GreedyFrom (names : Nat → Str) (needs : Nat → List Nat) (o d : List Nat) : Prop := d.length = 5 ∧ d.take o.length = o ∧ ∀ i, o.length ≤ i → (h : i < d.length) → d[i] ∈ avail needs (d.take i) ∧ ∀ a ∈ avail needs (d.take i), a ≠ d[i] → ltP names d[i] a
theorem GreedyFrom.zero {names : Nat → Str} {needs : Nat → List Nat} {o : List Nat} (h : o.length = 5) : GreedyFrom names needs o o :=
  ⟨h, List.take_length, fun i h1 h2 => absurd h2 (Nat.not_lt.mpr h1)⟩
theorem GreedyFrom.at {names : Nat → Str} {needs : Nat → List Nat} {o d : List Nat} {k : Nat} (h : GreedyFrom names needs (o ++ [k]) d) : d[o.length]? = some k := by
  obtain ⟨h1, h2, _⟩ := h
  rw [List.length_append, List.length_singleton] at h2
  have e : (d.take (o.length + 1))[o.length]? = some k := by rw [h2]; simp
  rw [List.getElem?_take] at e
  simpa using e
theorem GreedyFrom.pre {names : Nat → Str} {needs : Nat → List Nat} {o d : List Nat} {k : Nat} (h : GreedyFrom names needs (o ++ [k]) d) : d.take o.length = o := by
  obtain ⟨h1, h2, _⟩ := h
  rw [List.length_append, List.length_singleton] at h2
  have e : (d.take (o.length + 1)).take o.length = o := by rw [h2]; simp
  rw [List.take_take] at e
  rwa [Nat.min_eq_left (Nat.le_succ _)] at e
theorem GreedyFrom.step {names : Nat → Str} {needs : Nat → List Nat} {o d : List Nat} {k : Nat} (hk : k ∈ avail needs o) (hl : ∀ a ∈ avail needs o, a ≠ k → ltP names k a) (h : GreedyFrom names needs (o ++ [k]) d) : GreedyFrom names needs o d := by
  have ha := h.at
  have hp := h.pre
  obtain ⟨h1, h2, h3⟩ := h
  refine ⟨h1, hp, fun i hi hlt => ?_⟩
  by_cases e : i = o.length
  · subst e
    have e1 : d[o.length] = k := by
      rw [List.getElem?_eq_getElem hlt] at ha
      exact Option.some.inj ha
    rw [e1, hp]
    exact ⟨hk, hl⟩
  · exact h3 i (by rw [List.length_append, List.length_singleton]; omega) hlt
theorem GreedyFrom.ok {names : Nat → Str} {needs : Nat → List Nat} {d : List Nat} (h : GreedyFrom names needs [] d) : GreedyOk names needs d := fun i hi => h.2.2 i (Nat.zero_le _) hi
theorem GreedyOk.uniq {names : Nat → Str} {needs : Nat → List Nat} {d d' : List Nat} (h : GreedyOk names needs d) (h' : GreedyOk names needs d') (hl : d.length = d'.length) : d = d' := by
  have key : ∀ i, i ≤ d.length → d.take i = d'.take i := by
    intro i
    induction i with
    | zero => intro _; rfl
    | succ i ih =>
      intro hi
      have e := ih (by omega)
      obtain ⟨a1, a2⟩ := h i (by omega)
      obtain ⟨b1, b2⟩ := h' i (by omega)
      have hd : d[i] = d'[i] := Classical.byContradiction fun hne => by
        have c1 := a2 d'[i] (by rw [e]; exact b1) (Ne.symm hne)
        have c2 := b2 d[i] (by rw [← e]; exact a1) hne
        exact List.lt_irrefl _ (List.lt_trans c1 c2)
      rw [List.take_succ_eq_append_getElem (by omega : i < d.length), List.take_succ_eq_append_getElem (by omega : i < d'.length), e, hd]
  have := key d.length (Nat.le_refl _)
  rw [List.take_length, hl, List.take_length] at this
  exact this
theorem avail_mem {needs : Nat → List Nat} {o : List Nat} {k : Nat} : k ∈ avail needs o ↔ k < 5 ∧ k ∉ o ∧ ∀ j ∈ needs k, j ∈ o := by
  unfold avail
  simp [List.mem_filter]
theorem avail_ne {needs : Nat → List Nat} (hN : Needs needs) {o : List Nat} (h : o.length < 5) : avail needs o ≠ [] := by
  have ex : ∃ k, k < 5 ∧ k ∉ o := Classical.byContradiction fun hn => by
    have := len_le_sub (l₁ := List.range 5) (l₂ := o) List.nodup_range fun x hx => Classical.byContradiction fun hx2 => hn ⟨x, List.mem_range.mp hx, hx2⟩
    rw [List.length_range] at this
    omega
  have key : ∀ k, k < 5 → k ∉ o → ∃ j, j ∈ avail needs o := by
    intro k
    induction k using Nat.strongRecOn with
    | _ k ih =>
      intro hk hko
      by_cases hall : ∀ j ∈ needs k, j ∈ o
      · exact ⟨k, avail_mem.mpr ⟨hk, hko, hall⟩⟩
      · have ⟨j, hj, hjo⟩ : ∃ j, j ∈ needs k ∧ j ∉ o := Classical.byContradiction fun hn => hall fun j hj => Classical.byContradiction fun hjo => hn ⟨j, hj, hjo⟩
        have := hN.lt k hk j hj
        exact ih j this (by omega) hjo
  obtain ⟨k, hk, hko⟩ := ex
  obtain ⟨j, hj⟩ := key k hk hko
  exact fun e => by rw [e] at hj; cases hj
theorem argBest_lin (lt : Nat → Nat → Bool) (n : Nat) (tr : ∀ i j k, lt i j = true → lt j k = true → lt i k = true) (tot : ∀ i j, i ≤ n → j ≤ n → i ≠ j → lt i j = false → lt j i = true) :
    ∀ k, k ≤ n → argBest lt k ≤ k ∧ ∀ j, j ≤ k → j ≠ argBest lt k → lt (argBest lt k) j = true := by
  intro k
  induction k with
  | zero => exact fun _ => ⟨Nat.le_refl _, fun j hj hne => absurd (Nat.le_zero.mp hj) hne⟩
  | succ k ih =>
    intro hk
    obtain ⟨h1, h2⟩ := ih (by omega)
    simp only [argBest]
    cases hb : lt (k + 1) (argBest lt k) with
    | true =>
      simp only [if_true]
      refine ⟨Nat.le_refl _, fun j hj hne => ?_⟩
      by_cases e : j = argBest lt k
      · rw [e]; exact hb
      · exact tr _ _ _ hb (h2 j (by omega) e)
    | false =>
      simp only [Bool.false_eq_true, if_false]
      refine ⟨by omega, fun j hj hne => ?_⟩
      by_cases e : j = k + 1
      · subst e
        exact tot _ _ hk (by omega) (by omega) hb
      · exact h2 j (by omega) hne
end Mine
end
section
open PySem PySem.W PyProof.Rows PySem.Calls PyProof.Rows.LCg
set_option maxRecDepth 100000
set_option maxHeartbeats 8000000
namespace Mine
set_option linter.unusedVariables false
theorem AreS.get : ∀ {vs : List Value} {l : List Str} {i : Nat} {x : Str}, AreS vs l → l[i]? = some x → ∃ t, vs[i]? = some (.str x t)
  | [], [], _, _, _, e => by simp at e
  | _ :: _, _ :: _, 0, _, h, e => by
    cases e
    obtain ⟨t, rfl⟩ := h.1
    exact ⟨t, rfl⟩
  | _ :: _, _ :: _, i + 1, _, h, e => AreS.get (i := i) h.2 e
theorem AreN.toI : ∀ {vs : List Value} {l : List Nat}, AreN vs l → AreI vs (l.map Int.ofNat)
  | [], [], _ => trivial
  | _ :: _, _ :: _, h => ⟨h.1, AreN.toI h.2⟩
theorem contains_ofNat (l : List Nat) (k : Nat) : (l.map Int.ofNat).contains (k : Int) = l.contains k := by
  induction l with
  | nil => rfl
  | cons a l ih =>
    rw [List.map_cons, List.contains_cons, List.contains_cons, ih]
    congr 1
    by_cases h : k = a
    · subst h; simp
    · have h2 : ¬ ((k : Int) = Int.ofNat a) := fun e => h (Int.ofNat.inj e)
      rw [beq_eq_false_iff_ne.mpr h, beq_eq_false_iff_ne.mpr h2]
section
variable {w : World} {dn : Nat} {b : Bs w dn} {k : Cd} {m : Map} {N : Led} {rest : List Stmt} {en : Env}
theorem WT.cmpW {x y : Expr} {op : CmpOp} {pos : Pos} {C : Bool → Map → Led → Prop} (ha : WXE b k en m N x (fun va m' N' => WXE b k en m' N' y (fun vb m' N' => ∃ c, Rd b k m' N' (compareOp op va vb) (IsV (.bool c)) ∧ C c m' N'))) (hm : autoParam (behindInMarks op y = false) tUn) : WT b k en m N (.Compare x [op] [y] pos) C := fun s Q F N' hQ =>
  wpAny_isTrue_Compare1 (ha s _ F N' fun va m1 N1 h1 tk1 hb F1 NN1 => hb _ _ F1 NN1 fun vb m2 N2 h2 tk2 hc F2 NN2 => by
    obtain ⟨c, ho, hC⟩ := hc
    exact ho _ _ F2 NN2 fun v tk3 p => by cases p; exact wpAny_truthy_bool (hQ c m2 N2 h2 tk3 hC F2 NN2)) hm
theorem Rd.notInN {a : Addr} {vs : List Value} {xs : List Nat} {n x : Nat} {v : Value} (ha : (a, listOf vs.toArray n) ∈ N) (hv : AreN vs xs) (hx : IsI (x : Int) v) : Rd b k m N (compareOp .NotIn v (.ref a)) (IsV (.bool (!xs.contains x))) := by
  rw [← contains_ofNat]
  exact Rd.notInI ha hv.toI hx
end
/-- two lists of names, told apart behind what they share -/
theorem lt_strs {prog : Program} {w : World} {A : Around} {E : Value → Shared → Prop} {s : Shared} {l b : Addr} {vs us : List Value} {n n2 : Nat} {Q : Value → Shared → Prop} {names : Nat → Str} {needs : Nat → List Nat} {o d d' : List Nat} {x y : Nat}
    (hl : s.heap.get? l = some (listOf vs.toArray n)) (hb : s.heap.get? b = some (listOf us.toArray n2)) (hv : AreS vs (d.map names)) (hu : AreS us (d'.map names)) (g : GreedyFrom names needs (o ++ [x]) d) (g' : GreedyFrom names needs (o ++ [y]) d') (hxy : names x ≠ names y) (hA : A.units < cLine)
    (h : Q (.bool (decide ((names x).cps.toList < (names y).cps.toList))) s) : wpAny (model prog w) A (richCompare .Lt (.ref l) (.ref b)) Q E s := by
  have at1 := g.at
  have at2 := g'.at
  have vat : ∀ {i k : Nat}, d[i]? = some k → ∃ t, vs[i]? = some (.str (names k) t) := fun {i k} e => hv.get (by rw [List.getElem?_map, e]; rfl)
  have uat : ∀ {i k : Nat}, d'[i]? = some k → ∃ t, us[i]? = some (.str (names k) t) := fun {i k} e => hu.get (by rw [List.getElem?_map, e]; rfl)
  obtain ⟨t1, v1⟩ := vat at1
  obtain ⟨t2, v2⟩ := uat at2
  have lv : o.length < vs.length := (List.getElem?_eq_some_iff.mp v1).1
  have lu : o.length < us.length := (List.getElem?_eq_some_iff.mp v2).1
  have ev : ∀ (i : Nat) (h : i < vs.toArray.size) (v : Value), vs[i]? = some v → vs.toArray[i] = v := fun i h v e => by
    rw [List.getElem_toArray]
    exact (List.getElem?_eq_some_iff.mp e).2
  have eu : ∀ (i : Nat) (h : i < us.toArray.size) (v : Value), us[i]? = some v → us.toArray[i] = v := fun i h v e => by
    rw [List.getElem_toArray]
    exact (List.getElem?_eq_some_iff.mp e).2
  have fin : wpAny (model prog w) A (compareOp .Lt (.ref l) (.ref b)) Q E s := by
    refine lt_lists (items := vs.toArray) (items2 := us.toArray) o.length (by simpa using lv) (by simpa using lu) (decide ((names x).cps.toList < (names y).cps.toList)) (fun i h1 h2 hi => ?_) ?_ ?_ hl hb hA h
    · have e1 : d[i]? = o[i]? := by
        have e := congrArg (·[i]?) g.pre
        simp only [List.getElem?_take] at e
        rwa [if_pos hi] at e
      have e2 : d'[i]? = o[i]? := by
        have e := congrArg (·[i]?) g'.pre
        simp only [List.getElem?_take] at e
        rwa [if_pos hi] at e
      have e3 : o[i]? = some o[i] := List.getElem?_eq_getElem hi
      obtain ⟨ta, va⟩ := vat (e1.trans e3)
      obtain ⟨tb, ub⟩ := uat (e2.trans e3)
      rw [ev i h1 _ va, eu i h2 _ ub]
      have := SeqRoads2.EqGives.str (names o[i]) (names o[i]) ta tb
      rwa [beq_self_eq_true] at this
    · rw [ev _ _ _ v1, eu _ _ _ v2]
      have := SeqRoads2.EqGives.str (names x) (names y) t1 t2
      rwa [show ((names x).cps.toList == (names y).cps.toList) = false from beq_eq_false_iff_ne.mpr (cps_ne hxy)] at this
    · rw [ev _ _ _ v1, eu _ _ _ v2]
      exact ltGives_str _ _ _ _
  exact fin
theorem CellsAre.three {cm : Str → Option Value} {n n' n'' : Str} {c c' c'' : Addr} {cells : Led} (x : CellsAre cm [(n, c), (n', c'), (n'', c'')] cells) :
    ∃ o o' o'', cells = [(c, o), (c', o'), (c'', o'')] ∧ o.data = .cell (cm n) ∧ o'.data = .cell (cm n') ∧ o''.data = .cell (cm n'') := by
  cases x with | cons h r => obtain ⟨o', o'', rfl, h', h''⟩ := r.two; exact ⟨_, o', o'', rfl, h, h', h''⟩
def okK (needs : Nat → List Nat) (o : List Nat) (k : Nat) : Bool := !o.contains k && (needs k).all o.contains
theorem filter_range_succ (p : Nat → Bool) (n : Nat) : (List.range (n + 1)).filter p = (List.range n).filter p ++ if p n = true then [n] else [] := by
  rw [List.range_succ, List.filter_append]
  congr 1
  by_cases h : p n = true
  · rw [if_pos h, List.filter_cons_of_pos h]; rfl
  · rw [if_neg h, List.filter_cons_of_neg h]; rfl
theorem AreN.empty {vs : List Value} {l : List Nat} (h : AreN vs l) : vs.isEmpty = l.isEmpty := by
  have := h.len
  cases vs <;> cases l <;> first | rfl | (simp at this)
theorem all_of_filter {o l : List Nat} : (l.filter fun x => !o.contains x).isEmpty = l.all o.contains := by
  induction l with
  | nil => rfl
  | cons a l ih =>
    cases h : o.contains a with
    | true => rw [List.filter_cons_of_neg (by rw [h]; decide), ih, List.all_cons, h]; rfl
    | false => rw [List.filter_cons_of_pos (by rw [h]; rfl), List.all_cons, h]; rfl
theorem okK_true {needs : Nat → List Nat} {o : List Nat} {k : Nat} (h : (!o.contains k) = true) (h2 : ((needs k).filter fun x => !o.contains x).isEmpty = true) : okK needs o k = true := by
  rw [all_of_filter] at h2
  unfold okK
  rw [h, h2]; rfl
theorem okK_false {needs : Nat → List Nat} {o : List Nat} {k : Nat} (h2 : ((needs k).filter fun x => !o.contains x).isEmpty = false) : ¬ okK needs o k = true := by
  rw [all_of_filter] at h2
  unfold okK
  rw [h2, Bool.and_false]; decide
theorem okK_false1 {needs : Nat → List Nat} {o : List Nat} {k : Nat} (h : (!o.contains k) = false) : ¬ okK needs o k = true := by
  unfold okK
  rw [h, Bool.false_and]; decide
theorem filter_take {p : Nat → Bool} {l : List Nat} {j x : Nat} (h : l[j]? = some x) : (l.take (j + 1)).filter p = (l.take j).filter p ++ if p x = true then [x] else [] := by
  rw [List.take_add_one, h, List.filter_append]
  congr 1
  by_cases e : p x = true
  · rw [if_pos e, Option.toList, List.filter_cons_of_pos e]; rfl
  · rw [if_neg e, Option.toList, List.filter_cons_of_neg e]; rfl
theorem OffIn.mono {names : Nat → Str} {needs : Nat → List Nat} {aN aD : Addr} {vn vd : List Value} {n1 n2 : Nat} {N N' : Led} (I : OffIn names needs aN aD vn vd n1 n2 N) (h : ∀ p ∈ N, p ∈ N') : OffIn names needs aN aD vn vd n1 n2 N' where
  ok := I.ok
  inj := I.inj
  an := h _ I.an
  vn := I.vn
  ad := h _ I.ad
  vd := fun i hi => by
    obtain ⟨a, us, n, h1, h2, h3⟩ := I.vd i hi
    exact ⟨a, us, n, h1, h _ h2, h3⟩
theorem least_spec (w : World) (names : Nat → Str) (needs : Nat → List Nat) (aN aD : Addr) (vn vd : List Value) (n1 n2 : Nat) : ∀ (j : Nat) (o : List Nat) (aO : Addr) (vo : List Value) (nO : Nat) (N : Led), OffIn names needs aN aD vn vd n1 n2 N → (aO, listOf vo.toArray nO) ∈ N → AreN vo o → o.length + j = 5 → (∀ x ∈ o, x < 5) →
    Spec w 228 (j + 2) [.ref aN, .ref aD, .ref aO] N (fun r n' => ∃ L vs n d, r = .ref L ∧ (L, listOf vs.toArray n) ∈ n' ∧ AreS vs (d.map names) ∧ GreedyFrom names needs o d ∧ (∀ p ∈ N, p.1 ≠ L) ∧ ∀ p ∈ N, p ∈ n') := by
  intro j
  induction j using Nat.strongRecOn with
  | _ j ih =>
  intro o aO vo nO N I hO hvo hlen h5
  k_dflt (refine' enterC (binds := [(Str.ofString "names", .ref aN), (Str.ofString "needs", .ref aD), (Str.ofString "order", .ref aO)]) ?k6 ?k7 ?k9 ?kB ?kD ?c2 ?c3 ?c4 ?_; (case k6 => k_is); (case k7 => k_is); (case k9 => exact fun _ _ => BindsTo.of_eq rfl); (case kB => exact rfl); (case kD => decide +kernel); (case c2 => exact rfl); (case c3 => exact rfl); (case c4 => exact rfl); k_whole)
  intro b cells Y lt
  obtain ⟨o1, o2, o3, rfl, d1, d2, d3⟩ := CellsAre.three Y
  have d1' : o1.data = .cell (some (.ref aO)) := d1
  have d2' : o2.data = .cell (some (.ref aD)) := d2
  have d3' : o3.data = .cell (some (.ref aN)) := d3
  clear d1 d2 d3 Y
  generalize bindL (Env.kindOf _) _ (fun _ => none) = m₀
  refine SX.abs fun C hC => ?_
  have hvl := hvo.len
  have hO' : ∀ {X : Led}, (∀ p ∈ (b.L + 1 + 1 + 1, o1) :: (b.L + 1 + 1, o2) :: (b.L + 1, o3) :: N, p ∈ X) → (aO, listOf vo.toArray nO) ∈ X := fun h => h _ (by simp [hO])
  have hN' : ∀ {X : Led}, (∀ p ∈ (b.L + 1 + 1 + 1, o1) :: (b.L + 1 + 1, o2) :: (b.L + 1, o3) :: N, p ∈ X) → ∀ p ∈ N, p ∈ X := fun h p hp => h _ (by (first | ((repeat (first | exact hp | exact memH hp | exact List.mem_append_left _ hp | refine List.mem_cons_of_mem _ ?_ | refine List.mem_append_right _ ?_)); done) | simp [hp]))
  have order : ∀ {kk : Cd} {m : Map} {X : Led} {en : Env} {pos : Pos}, (∀ p ∈ (b.L + 1 + 1 + 1, o1) :: (b.L + 1 + 1, o2) :: (b.L + 1, o3) :: N, p ∈ X) → en.cells.lookup (Str.ofString "order") = some (b.L + 1 + 1 + 1) → en.kindOf (Str.ofString "order") = some .cell → en.scope.kind = .function → XE b kk en m X (.Name (Str.ofString "order") pos) (IsV (.ref aO)) := fun hm h1 h2 h3 => Ex.cell (hm _ (by first | ((repeat (first | exact List.Mem.head _ | refine List.mem_cons_of_mem _ ?_ | refine List.mem_append_right _ ?_)); done) | simp)) d1' h1 h2 h3
  have needsE : ∀ {kk : Cd} {m : Map} {X : Led} {en : Env} {pos : Pos}, (∀ p ∈ (b.L + 1 + 1 + 1, o1) :: (b.L + 1 + 1, o2) :: (b.L + 1, o3) :: N, p ∈ X) → en.cells.lookup (Str.ofString "needs") = some (b.L + 1 + 1) → en.kindOf (Str.ofString "needs") = some .cell → en.scope.kind = .function → XE b kk en m X (.Name (Str.ofString "needs") pos) (IsV (.ref aD)) := fun hm h1 h2 h3 => Ex.cell (hm _ (by first | ((repeat (first | exact List.Mem.head _ | refine List.mem_cons_of_mem _ ?_ | refine List.mem_append_right _ ?_)); done) | simp)) d2' h1 h2 h3
  have namesE : ∀ {kk : Cd} {m : Map} {X : Led} {en : Env} {pos : Pos}, (∀ p ∈ (b.L + 1 + 1 + 1, o1) :: (b.L + 1 + 1, o2) :: (b.L + 1, o3) :: N, p ∈ X) → en.cells.lookup (Str.ofString "names") = some (b.L + 1) → en.kindOf (Str.ofString "names") = some .cell → en.scope.kind = .function → XE b kk en m X (.Name (Str.ofString "names") pos) (IsV (.ref aN)) := fun hm h1 h2 h3 => Ex.cell (hm _ (by first | ((repeat (first | exact List.Mem.head _ | refine List.mem_cons_of_mem _ ?_ | refine List.mem_append_right _ ?_)); done) | simp)) d3' h1 h2 h3
  have hB : ∀ p ∈ (b.L + 1 + 1 + 1, o1) :: (b.L + 1 + 1, o2) :: (b.L + 1, o3) :: N, p ∈ (b.L + 1 + 1 + 1, o1) :: (b.L + 1 + 1, o2) :: (b.L + 1, o3) :: N := fun p hp => hp
  refine SX.if_ (Tst.eqI (Ex.call1 (Ex.blt (by k_is) (by boot_by_name)) (order hB rfl rfl rfl) (fun v hv => by cases hv; exact Rd.lenL (vs := vo) (n := nO) (hO' hB) (by omega))) Ex.lit) (fun hc => ?_) (fun hc => SX.nil ?_)
  · have h0 : o.length = 5 := by have := eq_of_beq hc; omega
    refine SX.ret (WXE.comp1 (n := vo.length) (P := fun i v => vo[i]? = some v) (objs := [(aO, listOf vo.toArray nO)]) (fun i ys N' => (∀ p ∈ (b.L + 1 + 1 + 1, o1) :: (b.L + 1 + 1, o2) :: (b.L + 1, o3) :: N, p ∈ N') ∧ AreS ys ((o.take i).map names)) (Rd.wx (order hB rfl rfl rfl) fun v hv' => by cases hv'; exact ⟨rfl, Srcs.list (hO' hB), hB, trivial⟩) (fun i ys N' ⟨h, _⟩ p hp => by rw [List.mem_singleton.mp hp]; exact hO' h) (by omega) ?_ ?_)
    · rintro i v ys N₁ X C₀ oC m₂ hi hP ⟨hs, hy⟩ hX hns hv ap
      have hs' : ∀ p ∈ (b.L + 1 + 1 + 1, o1) :: (b.L + 1 + 1, o2) :: (b.L + 1, o3) :: N, p ∈ X ++ N₁ := fun p hp => List.mem_append_right _ (hs p hp)
      refine Wx.testsNil ?_
      rw [if_pos rfl]
      obtain ⟨k, t, hk, rfl⟩ := hvo.get hP
      have hk5 : k < 5 := h5 k (List.mem_of_getElem? hk)
      obtain ⟨tn, hn⟩ := I.vn k hk5
      refine (Ex.item (j := k) (namesE hs' rfl rfl rfl) (Rd.mono (XE.blk (List.mem_append_left _ hX) hns hv) fun v e => ⟨t, e⟩) (hN' hs' _ I.an) hn (by omega)).wx fun z hz => ⟨rfl, N₁, fun p hp => hp, ap, hs, ?_⟩
      cases hz
      rw [List.take_add_one, hk, List.map_append]
      exact hy.app ⟨tn, rfl⟩
    · rintro D ys N₁ ⟨hs, hy⟩ hD
      rw [hvl, List.take_length] at hy
      exact hC _ _ _ ⟨D, ys, ys.length, o, rfl, List.mem_cons_self .., hy, GreedyFrom.zero h0, fun p hp => hD p (hN' hs p hp), fun p hp => List.mem_cons_of_mem _ (hN' hs p hp)⟩
  · have h0 : o.length < 5 := by
      have : ¬ ((vo.length : Int) = 5) := fun e => by rw [e] at hc; cases hc
      omega
    obtain ⟨j, rfl⟩ : ∃ i, j = i + 1 := ⟨j - 1, by omega⟩
    refine SX.comp1 (n := 5) (P := fun i v => IsI (i : Int) v) (objs := []) (fun i ys N' => (∀ p ∈ (b.L + 1 + 1 + 1, o1) :: (b.L + 1 + 1, o2) :: (b.L + 1, o3) :: N, p ∈ N') ∧ AreN ys ((List.range i).filter (okK needs o))) (WE.range (Ex.blt (by k_is) (by boot_by_name)) Ex.lit fun r t u v lt => ⟨rfl, Srcs.range (t := t) (u := u) (v := v) (List.mem_cons_self ..) rfl (by omega), fun p hp => List.mem_cons_of_mem _ hp, trivial⟩) (fun _ _ _ _ p hp => (nomatch hp)) (by omega) ?_ ?_
    · rintro i v ys N₁ X C₀ oC m₂ hi hP ⟨hs, hy⟩ hX hns hv ap
      have hs' : ∀ p ∈ (b.L + 1 + 1 + 1, o1) :: (b.L + 1 + 1, o2) :: (b.L + 1, o3) :: N, p ∈ X ++ N₁ := fun p hp => List.mem_append_right _ (hs p hp)
      have er := filter_range_succ (okK needs o) i
      refine Wx.testsOne (WT.and (WT.of (c := !o.contains i) (Tst.cmp (XE.blk (List.mem_append_left _ hX) hns hv) (order hs' rfl rfl rfl) (fun va vb pa pb => by cases pa; cases pb; exact Rd.notInN (hO' hs') hvo hP)) ⟨fun hc => ?_, fun hc => ?_⟩))
      · obtain ⟨a, us, na, hva, ha, hua⟩ := I.vd i hi
        have hul : us.length ≤ 5 := by
          rw [hua.len]
          exact Nat.le_trans (len_le_range (n := i) (I.ok.nd i hi) fun x hx => I.ok.lt i hi x hx) (by omega)
        refine WT.and (WT.cmpW (WXE.comp1 (n := us.length) (P := fun j v => us[j]? = some v) (objs := [(a, listOf us.toArray na)]) (fun j ys N' => (∀ p ∈ X ++ N₁, p ∈ N') ∧ AreN ys (((needs i).take j).filter fun x => !o.contains x)) (Rd.wx (Ex.item (j := i) (needsE hs' rfl rfl rfl) (Rd.mono (XE.blk (List.mem_append_left _ hX) hns hv) fun v e => by cases e; exact hP) (hN' hs' _ I.ad) hva (by omega)) fun v hv' => by cases hv'; exact ⟨rfl, Srcs.list (hN' hs' _ ha), fun p hp => hp, trivial⟩) (fun i ys N' ⟨h, _⟩ p hp => by rw [List.mem_singleton.mp hp]; exact h _ (hN' hs' _ ha)) (by omega) ?_ ?_))
        · rintro l v ys2 N₂ X2 C₁ oC2 m₃ hl hPl ⟨hs2, hy2⟩ hX2 hns2 hv2 ap2
          have hs2' : ∀ p ∈ (b.L + 1 + 1 + 1, o1) :: (b.L + 1 + 1, o2) :: (b.L + 1, o3) :: N, p ∈ X2 ++ N₂ := fun p hp => List.mem_append_right _ (hs2 p (hs' p hp))
          obtain ⟨x, tx, hx, rfl⟩ := hua.get hPl
          refine Wx.testsOne (WT.of (c := !o.contains x) (Tst.cmp (XE.blk (List.mem_append_left _ hX2) hns2 hv2) (order hs2' rfl rfl rfl) (fun va vb pa pb => by cases pa; cases pb; exact Rd.notInN (hO' hs2') hvo ⟨tx, rfl⟩)) ?_)
          split
          · rename_i hc2
            refine (XE.blk (List.mem_append_left _ hX2) hns2 hv2).wx fun z hz => ⟨rfl, N₂, fun p hp => hp, ap2, hs2, ?_⟩
            cases hz
            rw [filter_take hx, if_pos hc2]
            exact hy2.app x tx
          · rename_i hc2
            refine ⟨rfl, N₂, fun p hp => hp, ap2, hs2, ?_⟩
            rw [filter_take hx, if_neg hc2, List.append_nil]
            exact hy2
        · rintro D2 ys2 N₂ ⟨hs2, hy2⟩ hD2
          rw [hua.len, List.take_length] at hy2
          refine WE.listE Ars.nil (fun vs e => by rw [e]; decide) fun l2 vs2 e ltl => ?_
          subst e
          have hsub : ∀ p ∈ X ++ N₁, p ∈ (l2, listOf ([] : List Value).toArray 0) :: (D2, lst ys2) :: N₂ := fun p hp => List.mem_cons_of_mem _ (List.mem_cons_of_mem _ (hs2 p hp))
          refine ⟨_, Rd.eqNil (vs := ys2) (n := ys2.length) (List.mem_cons_of_mem _ (List.mem_cons_self ..)) (List.mem_cons_self ..), fun hc2 => WT.andNil ?_, fun hc2 => ?_⟩
          · rw [if_pos rfl]
            refine (XE.blk (hsub _ (List.mem_append_left _ hX)) hns hv).wx fun z hz => ⟨rfl, N₁, hsub, ap, hs, ?_⟩
            cases hz
            obtain ⟨t, rfl⟩ := hP
            rw [er, if_pos (okK_true hc (hy2.empty.symm.trans hc2))]
            exact hy.app i t
          · rw [if_neg (by decide)]
            refine ⟨rfl, N₁, hsub, ap, hs, ?_⟩
            rw [er, if_neg (okK_false (hy2.empty.symm.trans hc2)), List.append_nil]
            exact hy
      · rw [if_neg (by decide)]
        refine ⟨rfl, N₁, fun p hp => hp, ap, hs, ?_⟩
        rw [er, if_neg (okK_false1 hc), List.append_nil]
        exact hy
    · rintro D ys N₁ ⟨hs, hy⟩ hD
      replace hy : AreN ys (avail needs o) := hy
      have hav := avail_ne I.ok h0
      have hnd : (avail needs o).Nodup := List.Nodup.sublist List.filter_sublist List.nodup_range
      have hal : (avail needs o).length ≤ 5 := len_le_range hnd fun x hx => (avail_mem.mp hx).1
      generalize hae : avail needs o = av at hy hav hnd hal
      have hma : ∀ {i x : Nat}, av[i]? = some x → x < 5 := fun h => (avail_mem.mp (by rw [hae]; exact List.mem_of_getElem? h)).1
      have hyl := hy.len
      have hDm : ∀ {Z : Led}, (∀ p ∈ (D, lst ys) :: N₁, p ∈ Z) → (D, listOf ys.toArray ys.length) ∈ Z := fun h => h _ (List.mem_cons_self ..)
      refine SX.ret (WXE.bcall (Ex.blt (by k_is) (by boot_by_name)) (WArs.cons (WXE.comp1 (n := ys.length) (P := fun i v => ys[i]? = some v) (objs := [(D, listOf ys.toArray ys.length)])
        (fun i rs N' => (∀ p ∈ (D, lst ys) :: N₁, p ∈ N') ∧ rs.length = i ∧ ∀ (j : Nat) (v : Value), rs[j]? = some v → ∃ (L : Addr) (d : List Nat) (vs : List Value) (n x : Nat), v = Value.ref L ∧ av[j]? = some x ∧ (L, listOf vs.toArray n) ∈ N' ∧ AreS vs (d.map names) ∧ GreedyFrom names needs (o ++ [x]) d ∧ ∀ p ∈ N, p.1 ≠ L)
        (Rd.wx (Ex.name rfl) fun v hv' => by cases hv'; exact ⟨rfl, Srcs.list (List.mem_cons_self ..), fun p hp => hp, rfl, fun j v e => by simp at e⟩) (fun i ys N' ⟨h, _⟩ p hp => by rw [List.mem_singleton.mp hp]; exact hDm h) (by omega) ?_ ?_)))
      · rintro i v rs N₂ X C₀ oC m₂ hi hP ⟨hs2, hrl, hr⟩ hX hns hv ap
        have hs' : ∀ p ∈ (b.L + 1 + 1 + 1, o1) :: (b.L + 1 + 1, o2) :: (b.L + 1, o3) :: N, p ∈ X ++ N₂ := fun p hp => List.mem_append_right _ (hs2 p (List.mem_cons_of_mem _ (hs p hp)))
        refine Wx.testsNil ?_
        rw [if_pos rfl]
        obtain ⟨x, t, hx, rfl⟩ := hy.get hP
        refine WE.fnW (Ex.glob (by k_is)) (by k_is) (WArs.cons (Rd.wx (namesE hs' rfl rfl rfl) fun v1 h1 => WArs.cons (Rd.wx (needsE hs' rfl rfl rfl) fun v2 h2 => WArs.cons (WXE.addL (vs := vo) (n := nO) (order hs' rfl rfl rfl) (WE.listE (Ars.one (XE.blk (List.mem_append_left _ hX) hns hv)) (fun vs e => by obtain ⟨v, rfl, _⟩ := e; simp) fun L2 ws e lt2 => ?_)))))
        obtain ⟨z, rfl, hz⟩ := e
        cases h1
        cases h2
        cases hz
        refine ⟨L2, [.int (x : Int) t], 0, rfl, List.mem_cons_of_mem _ (hO' hs'), List.mem_cons_self .., by simp; omega, fun D2 lt3 => WArs.nil (Wx.spec (ih j (by omega) (o ++ [x]) D2 (vo ++ [Value.int (x : Int) t]) 0 ((D2, listOf (vo ++ [Value.int (x : Int) t]).toArray 0) :: (L2, listOf [Value.int (x : Int) t].toArray 0) :: (X ++ N₂)) (I.mono fun p hp => List.mem_cons_of_mem _ (List.mem_cons_of_mem _ (hN' hs' p hp))) (List.mem_cons_self ..) (hvo.app x t) (by simp; omega) (fun y hy => ?_)) (fun r n' hr2 => ?_) (fun p hp => hp) (by omega))⟩
        · rcases List.mem_append.mp hy with hy | hy
          · exact h5 y hy
          · rw [List.mem_singleton.mp hy]; exact hma hx
        · obtain ⟨L, vs, n, d, rfl, hL, hvs, hg, hne, hsub⟩ := hr2
          have hsub2 : ∀ p ∈ X ++ N₂, p ∈ n' := fun p hp => hsub p (List.mem_cons_of_mem _ (List.mem_cons_of_mem _ hp))
          have hne2 : ∀ p ∈ X ++ N₂, p.1 ≠ L := fun p hp => hne p (List.mem_cons_of_mem _ (List.mem_cons_of_mem _ hp))
          refine ⟨rfl, N₂ ++ [(L, listOf vs.toArray n)], fun p hp => ?_, fun p hp r hr => ?_, fun p hp => List.mem_append_left _ (hs2 p hp), by simp [hrl], fun j' v hv' => ?_⟩
          · rw [← List.append_assoc] at hp
            rcases List.mem_append.mp hp with hp | hp
            · exact hsub2 p hp
            · rw [List.mem_singleton.mp hp]; exact hL
          · rcases List.mem_append.mp hp with hp | hp
            · exact ap p hp r hr
            · rw [List.mem_singleton.mp hp]; exact (hne2 r (List.mem_append_left _ hr)).symm
          · by_cases hj : j' < rs.length
            · rw [List.getElem?_append_left hj] at hv'
              obtain ⟨L', d', vs', n'', x', e1, e2, e3, e4, e5, e6⟩ := hr j' v hv'
              exact ⟨L', d', vs', n'', x', e1, e2, List.mem_append_left _ e3, e4, e5, e6⟩
            · have hj' : j' = i := by
                have := (List.getElem?_eq_some_iff.mp hv').1
                simp at this
                omega
              subst hj'
              rw [List.getElem?_append_right (by omega), hrl, Nat.sub_self] at hv'
              cases hv'
              exact ⟨L, d, vs, n, x, rfl, hx, List.mem_append_right _ (List.mem_singleton.mpr rfl), hvs, hg, fun p hp => hne2 p (hN' hs' p hp)⟩
      · rintro R rs N₂ ⟨hs2, hrl, hr⟩ hR
        have hrl2 : rs.length = av.length := hrl.trans hyl
        have hpos : 0 < av.length := List.length_pos_iff.mpr hav
        have hnm : ∀ {i j x y : Nat}, i ≠ j → av[i]? = some x → av[j]? = some y → names x ≠ names y := fun {i j x y} hij h1 h2 e => by
          have e := I.inj x (hma h1) y (hma h2) e
          subst e
          exact hij ((List.getElem?_inj (List.getElem?_eq_some_iff.mp h1).1 hnd).mp (h1.trans h2.symm))
        have hget : ∀ {i x : Nat}, av[i]? = some x → av.getD i 0 = x := fun h => by rw [List.getD_eq_getElem?_getD, h]; rfl
        have hex : ∀ i, i < av.length → ∃ x, av[i]? = some x := fun i h => ⟨_, List.getElem?_eq_getElem h⟩
        refine WArs.nil (Wx.minL (fun i j => decide ((names (av.getD i 0)).cps.toList < (names (av.getD j 0)).cps.toList)) (n := rs.length) (List.mem_cons_self ..) (by omega) (fun i jj vi vj s Q E hlt hi hj hmem hQ => ?_) (fun v hv => ?_))
        · obtain ⟨L, d, vs, n, x, rfl, e2, e3, e4, e5, e6⟩ := hr i vi hi
          obtain ⟨L', d', vs', n', x', rfl, f2, f3, f4, f5, f6⟩ := hr jj vj hj
          simp only [hget e2, hget f2] at hQ
          exact lt_strs (hmem _ (List.mem_cons_of_mem _ e3)) (hmem _ (List.mem_cons_of_mem _ f3)) e4 f4 e5 f5 (hnm (by omega) e2 f2) (by show b.q.un + 1 < cLine; have := b.hun; omega) hQ
        · obtain ⟨L, d, vs, n, x, rfl, e2, e3, e4, e5, e6⟩ := hr _ v hv
          obtain ⟨g1, g2⟩ := argBest_lin (fun i j => decide ((names (av.getD i 0)).cps.toList < (names (av.getD j 0)).cps.toList)) (rs.length - 1) (fun i j k h1 h2 => decide_eq_true (List.lt_trans (of_decide_eq_true h1) (of_decide_eq_true h2))) (fun i jj hi hj hne h => by
            obtain ⟨x, hx⟩ := hex i (by omega)
            obtain ⟨y, hy⟩ := hex jj (by omega)
            simp only [hget hx, hget hy] at h ⊢
            exact decide_eq_true (lt_tot (hnm hne hx hy) (of_decide_eq_false h))) (rs.length - 1) (Nat.le_refl _)
          generalize argBest (fun i j => decide ((names (av.getD i 0)).cps.toList < (names (av.getD j 0)).cps.toList)) (rs.length - 1) = bi at hv e2 g1 g2
          refine hC _ _ _ ⟨L, vs, n, d, rfl, List.mem_cons_of_mem _ e3, e4, GreedyFrom.step (k := x) (by rw [hae]; exact List.mem_of_getElem? e2) (fun a ha hne => ?_) e5, e6, fun p hp => List.mem_cons_of_mem _ (hs2 p (List.mem_cons_of_mem _ (hN' hs p hp)))⟩
          rw [hae] at ha
          obtain ⟨ja, hja⟩ := List.mem_iff_getElem?.mp ha
          have hjl := (List.getElem?_eq_some_iff.mp hja).1
          have h2 := of_decide_eq_true (g2 ja (by omega) fun e => hne (by subst e; rw [e2] at hja; exact (Option.some.inj hja).symm))
          rw [hget e2, hget hja] at h2
          exact h2
end Mine
end
section
open PySem PySem.W PyProof.Rows PySem.Calls
set_option maxRecDepth 100000
set_option maxHeartbeats 8000000
set_option linter.unusedVariables false
namespace Mine
/-- an exception with a traceback, all its fields told -/
def TrX (h B : Heap) (e : Addr) (cls : Value) (ws : Array Value) (fl : Value) : Prop :=
  ∃ oe T oT ts, h.get? e = some oe ∧ oe.cls = cls ∧ oe.data = .fields ws ∧ ws[1]? = some (.ref T) ∧ B.get? T = none ∧ T ≠ e ∧ h.get? T = some oT ∧ oT.data = .fields ts ∧ ts[3]? = some fl
def HX (B : Heap) (l : List Env) (e : Addr) (cls : Value) (ws : Array Value) (fl : Value) (h : Heap) : Prop := B.StaysIn h ∧ B.get? e = none ∧ h.FunFrames B l ∧ TrX h B e cls ws fl
theorem HX.fly {B h : Heap} {l : List Env} {e : Addr} {cls a0 : Value} {ws : Array Value} (x : HX B l e cls ws .none h) (h0 : ws[0]? = some a0) : Heap.FlyingW B l e cls a0 h := by
  obtain ⟨x1, x2, x3, oe, T, oT, ts, y1, y2, y3, y4, y5, y6, y7, y8, y9⟩ := x
  exact ⟨x1, x2, x3, oe, ws, T, oT, ts, y1, ⟨y2, h0⟩, y3, y4, y5, y6, y7, y8, y9⟩
theorem HX.held {B h : Heap} {l : List Env} {e L : Addr} {cls a0 : Value} {ws : Array Value} (x : HX B l e cls ws (rawInt L) h) (h0 : ws[0]? = some a0) : Heap.HeldW B l e cls a0 L h := by
  obtain ⟨x1, x2, x3, oe, T, oT, ts, y1, y2, y3, y4, y5, y6, y7, y8, y9⟩ := x
  exact ⟨x1, x2, x3, oe, ws, T, oT, ts, y1, ⟨y2, h0⟩, y3, y4, y5, y6, y7, y8, y9⟩
theorem HX.up {B h h' : Heap} {l : List Env} {e : Addr} {cls : Value} {ws : Array Value} {fl : Value} (x : HX B l e cls ws fl h) (k : ∀ a o, h.get? a = some o → h'.get? a = some o) : HX B l e cls ws fl h' := by
  obtain ⟨x1, x2, x3, oe, T, oT, ts, y1, y2, y3, y4, y5, y6, y7, y8, y9⟩ := x
  exact ⟨fun a o q => k a o (x1 a o q), x2, x3.of_keeps fun a o q _ => ⟨o, k a o q, rfl⟩, oe, T, oT, ts, k _ _ y1, y2, y3, y4, y5, y6, k _ _ y7, y8, y9⟩
section
variable {M : Model} {A : Around} {E : Value → Shared → Prop} {s : Shared}
theorem HX.set {B : Heap} {l : List Env} {e : Addr} {cls fl : Value} {ws : Array Value} {fr : Option Addr} {Q : Unit → Shared → Prop} (x : HX B l e cls ws fl s.heap)
    (hQ : ∀ h', HX B l e cls ws (fr.elim .none fun f => rawInt f) h' → s.heap.UpToSlots h' → Q () { s with heap := h' }) : wpAny M A (setFlight (.ref e) fr) Q E s := by
  obtain ⟨x1, x2, x3, oe, T, oT, ts, y1, y2, y3, y4, y5, y6, y7, y8, y9⟩ := x
  have ot : ∀ (v : Value) a, a ≠ T → (s.heap.update T (Obj.mapFields (·.setIfInBounds 3 v))).get? a = s.heap.get? a := fun v a q => Heap.get?_update_other _ _ (Ne.symm q)
  have nt : ∀ a o, s.heap.get? a = some o → (∀ vs, o.data ≠ .fields vs) → a ≠ T := fun a o q1 q2 q3 => by
    rw [q3, y7] at q1; cases q1; exact q2 ts y8
  have h3 : 3 < ts.size := (Array.getElem?_eq_some_iff.mp y9).1
  unfold setFlight
  refine wpAny_bind (wpAny_field y1 y3 y4 ?_)
  rw [if_pos (show (Value.ref T != Value.none) = true from by simp)]
  refine wpAny_setField y7 y8 h3 (hQ _ ⟨fun a o q => (ot _ a fun z => by rw [z, y5] at q; cases q).trans (x1 a o q), x2, x3.of_keeps fun a o q1 q2 => ⟨o, (ot _ a (nt a o q1 q2)).trans q1, rfl⟩,
    oe, T, _, _, (ot _ e (Ne.symm y6)).trans y1, y2, y3, y4, y5, y6, Heap.get?_update_self _ y7 (Obj.isFreed_of_fields (Obj.data_mapFields y8 _)), Obj.data_mapFields y8 _, by simp [h3]⟩ fun a o q1 q2 => ⟨o.slots, (ot _ a (nt a o q1 q2)).trans q1⟩)
/-- the first frame is put down -/
theorem HX.note {B : Heap} {env : Env} {outer : List Env} {L e : Addr} {oe : Obj} {vs : Array Value} {Q : Unit → Shared → Prop} (hfr : A.frames = some (env :: outer)) (hl : s.heap.FunFrames B (env :: outer)) (hf : env.frame = some L)
    (he : s.heap.get? e = some oe) (hB : B.StaysIn s.heap) (hen : B.get? e = none) (hd : oe.data = .fields vs) (h1 : vs[1]? = some .none)
    (hQ : ∀ h' T, HX B (env :: outer) e oe.cls (vs.setIfInBounds 1 (.ref T)) (rawInt L) h' → s.heap.UpToSlots h' → Q () { s with heap := h' }) : wpAny M A (noteFrame (.ref e) env) Q E s := by
  have hne : e ∉ (env :: outer).filterMap (·.frame) := fun hm => by
    obtain ⟨_, o, ho, hn⟩ := hl.mem hm
    rw [he] at ho; cases ho; exact hn vs hd
  have hz : 1 < vs.size := (Array.getElem?_eq_some_iff.mp h1).1
  unfold noteFrame
  simp only [hf]
  refine wpAny_bind (wpAny_field he hd h1 ?_)
  rw [if_neg (by decide)]
  refine wpAny_bind (wpAny_frameOf_fun hfr hl hf fun h₁ q₁ => wpAny_bind (wpAny_entryPlaceOf fun pl hpl => ?_))
  unfold EntryCells.newEntry newFields
  refine wpAny_bind (wpAny_newObj_type ?_ (hpl.sizeOk5 _ _ _ _ _))
  have e1 : h₁.get? e = some oe := (q₁.2.1 e hne).trans he
  have b1 : B.StaysIn h₁ := fun a o q => (q₁.2.1 a fun hm => by rw [(hl.mem hm).1] at q; cases q).trans (hB a o q)
  generalize hoT : ({ cls := .type "traceback", data := .fields ([Value.none, .ref L, .none, rawInt L, .none] ++ (if pl.isEmpty then List.replicate 6 Value.none else pl)).toArray } : Obj) = oT
  have hfT : oT.isFreed = false := by rw [← hoT]; rfl
  have e2 : (h₁.push oT).get? e = some oe := Heap.get?_push_of_some _ e1
  have tne : h₁.objs.size ≠ e := Nat.ne_of_gt (Heap.lt_size e1)
  have gT : (h₁.push oT).get? h₁.objs.size = some oT := Heap.get?_push_size _ hfT
  refine wpAny_setField e2 hd hz (hQ _ h₁.objs.size ?_ fun a o q1 q2 => ?_)
  · have nk : ∀ a o, h₁.get? a = some o → a ≠ e → ((h₁.push oT).update e (Obj.mapFields (·.setIfInBounds 1 (Value.ref h₁.objs.size)))).get? a = some o := fun a o q1 q2 => (Heap.get?_update_other _ _ (Ne.symm q2)).trans (Heap.get?_push_of_some _ q1)
    refine ⟨fun a o q => nk a o (b1 a o q) (fun z => by rw [z, hen] at q; cases q), hen, hl.of_keeps fun a o q1 q2 => ?_, _, h₁.objs.size, oT, _, Heap.get?_update_self _ e2 (Obj.isFreed_of_fields (Obj.data_mapFields hd _)), Obj.cls_mapFields _ _, Obj.data_mapFields hd _, by simp [hz], b1.fresh, tne, (Heap.get?_update_other _ _ (Ne.symm tne)).trans gT, by rw [← hoT], ?_⟩
    · obtain ⟨sl, hs⟩ := q₁.2.2 a o q1
      exact ⟨_, nk a _ hs (fun z => by rw [z, he] at q1; cases q1; exact q2 vs hd), rfl⟩
    · rcases hpl with rfl | ⟨_, _, _, _, _, _, _, rfl⟩ <;> simp
  · obtain ⟨sl, hs⟩ := q₁.2.2 a o q1
    exact ⟨sl, (Heap.get?_update_other _ _ (fun z => by rw [← z, he] at q1; cases q1; exact q2 vs hd)).trans (Heap.get?_push_of_some _ hs)⟩
end
end Mine
end
section
open PySem PySem.W PyProof.Rows PySem.Calls
set_option maxRecDepth 100000
set_option maxHeartbeats 8000000
set_option linter.unusedVariables false
namespace Mine
/-- the chain behind an exception without a context -/
theorem unchain_none {prog : Program} {w : World} {A : Around} {E : Value → Shared → Prop} {s : Shared} {e h : Addr} {o : Obj} {ws : Array Value} {Q : Value → Shared → Prop} (ho : s.heap.get? h = some o) (hd : o.data = .fields ws) (h2 : ws[2]? = some .none) (hQ : Q .none s) :
    wpAny (model prog w) A (runValue (.builtin "proto.unchain" ⟨[.ref e, .ref h, .ref h, .bool false], []⟩)) Q E s := by
  refine runValue_entry (b := Builtin.«proto.unchain») (entryFor_of_tree (by kernel_rfl)) ?_
  unfold Builtin.«proto.unchain»
  refine wpAny_bind (wpAny_field ho hd h2 ?_)
  exact wpAny_pure ⟨_, rfl, hQ⟩
/-- raise x from None, while another exception without a context is handled -/
theorem raiseFrom {prog : Program} {w : World} {A : Around} {E : Value → Shared → Prop} {s : Shared} {env : Env} {x c : Sem Value} {e1 : Addr} {Q : Flow → Shared → Prop} (hh : A.handled = some (.ref e1))
    (h : wpAny (model prog w) A x (fun v s₁ => ∃ e t, v = .ref e ∧ s₁.heap.get? e = some { cls := .type "TypeError", data := .fields #[.ref t, .none, .none, .none, .bool false, .none] } ∧ e ≠ e1 ∧
      (∃ o ws, s₁.heap.get? e1 = some o ∧ o.data = .fields ws ∧ ws[2]? = some .none) ∧ 
      wpAny (model prog w) A c (fun v s₂ => v = .none ∧ s₂ = s₁) E s₁ ∧
      ∀ h', (∀ a, a ≠ e → h'.get? a = s₁.heap.get? a) → h'.get? e = some { cls := .type "TypeError", data := .fields #[.ref t, .none, .ref e1, .none, .bool true, .none] } → E (.ref e) { s₁ with heap := h' }) E s) : wpAny (model prog w) A (raiseStmt env (some x) (some c)) Q E s := by
  unfold raiseStmt
  refine wpAny_bind (wpAny_mono h (fun v s₁ h₁ => ?_) fun _ _ x => x)
  obtain ⟨e, t, rfl, he, hne, h1, hc, hE⟩ := h₁
  refine wpAny_bind (wpAny_holding (wpAny_mono hc (fun v s₂ h₂ => ?_) fun _ _ x => x))
  obtain ⟨rfl, rfl⟩ := h₂
  have hsub := PySem.F.excRaise_TypeError.isExc
  have hmeta := PySem.F.excRaise_TypeError.plainMeta
  obtain ⟨hp, g, d, tk, os⟩ := s₂
  repeat (first | refine wpAny_loadPart he ?_ | wp_step)
  have f1 := Heap.get?_update_self (Obj.mapFields (·.setIfInBounds 3 Value.none)) he (by rfl)
  have f2 := Heap.get?_update_self (Obj.mapFields (·.setIfInBounds 4 (Value.bool true))) f1 (by rfl)
  have ot : ∀ a, a ≠ e → ((hp.update e (Obj.mapFields (·.setIfInBounds 3 Value.none))).update e (Obj.mapFields (·.setIfInBounds 4 (Value.bool true)))).get? a = hp.get? a := fun a q => (Heap.get?_update_other _ _ (Ne.symm q)).trans (Heap.get?_update_other _ _ (Ne.symm q))
  obtain ⟨o1, ws, ho1, hd1, h2⟩ := h1
  unfold raiseNew
  refine wpAny_bind (wpAny_handled ?_)
  rw [hh]
  show wpAny _ A (if (Value.ref e1 != Value.ref e) = true then _ else _) _ _ _
  rw [if_pos (by simp [bne]; exact fun z => hne z.symm)]
  refine wpAny_bind (wpAny_holding (unchain_none (o := o1) (ws := ws) ((ot e1 (Ne.symm hne)).trans ho1) hd1 h2 ?_))
  refine wpAny_bind ?_
  show wpAny _ A (setField (.ref e) 2 (.ref e1)) _ _ _
  refine wpAny_setField (a := e) f2 rfl (by simp) ((wpAny_throw (hE _ (fun a q => (Heap.get?_update_other _ _ (Ne.symm q)).trans (ot a q)) ?_)))
  exact Heap.get?_update_self _ f2 (by rfl)
/-- the row raise TypeError(words) from None -/
theorem raiseRow {prog : Program} {w : World} {A : Around} {E : Value → Shared → Prop} {s : Shared} {env : Env} {x : Str} {words : Str} {u u2 : Nat} {np cp cpos p2 pos : Pos} {e1 : Addr} {o1 : Obj} {ws : Array Value} {Q : Flow → Shared → Prop} (hh : A.handled = some (.ref e1))
    (hn : ∀ Q' : Value → Shared → Prop, Q' (.type "TypeError") s → wpAny (model prog w) A (eval (.Name x np) env) Q' E s)
    (ho : s.heap.get? e1 = some o1) (hd : o1.data = .fields ws) (h2 : ws[2]? = some .none)
    (hE : ∀ h' e t tk tk', (∀ a o, s.heap.get? a = some o → h'.get? a = some o) → s.heap.get? e = none → h'.get? e = some { cls := .type "TypeError", data := .fields #[.ref t, .none, .ref e1, .none, .bool true, .none] } → s.heap.get? t = none → h'.get? t = some { cls := .type "tuple", data := .seq #[.str words tk] } → E (.ref e) { s with heap := h', toks := tk' })
    (h1 : autoParam (starEach [Expr.Constant (.str words) u cp] env = (false, eval (.Constant (.str words) u cp) env) :: starEach [] env) tRfl) (hpl : autoParam ((backTo cpos (starEach [Expr.Constant (.str words) u cp] env)).any (·.1) = false) tRfl) :
    wpAny (model prog w) A (exec (.Raise (some (.Call (.Name x np) [.Constant (.str words) u cp] [] cpos)) (some (.Constant .none u2 p2)) pos) env) Q E s := by
  rw [arm_exec_Raise]
  refine wpAny_bind (wpAny_standAt ?_)
  show wpAny _ A (raiseStmt env (some (do let v ← eval (.Call (.Name x np) [.Constant (.str words) u cp] [] cpos) env; standAt pos; pure v)) (some (do let v ← eval (.Constant .none u2 p2) env; standAt pos; pure v))) _ _ _
  refine raiseFrom (e1 := e1) hh (wpAny_bind (wpAny_Call_ofName (hn _ (PyProof.Rows.callWith_type1 (args_cons (Calls.Constant_str (args_nil ?_)) h1) h1 rfl))))
  obtain ⟨hp, g, d, tk, os⟩ := s
  refine wpAny_call_exc PySem.F.excCall_TypeError (fun h' e hm => wpAny_bind (wpAny_standAt (wpAny_pure ?_)))
  obtain ⟨t, he, ht, hT⟩ := hm.there
  refine ⟨e, t, rfl, he, (fun z => by have := hm.new; rw [z] at this; exact absurd (ho.symm.trans this) (by simp)), ⟨o1, ws, hm.keeps _ _ ho, hd, h2⟩, wpAny_bind (wpAny_Constant_none (wpAny_bind (wpAny_standAt (wpAny_pure ⟨rfl, rfl⟩)))), fun h2 k1 k2 => ?_⟩
  refine hE h2 e t _ _ (fun a o q => ?_) hm.new k2 ht ((k1 t (fun z => by rw [z, he] at hT; simp at hT)).trans hT)
  exact (k1 a (fun z => by have := hm.new; rw [← z] at this; exact absurd (q.symm.trans this) (by simp))).trans (hm.keeps a o q)
end Mine
end
section
open PySem PySem.W PyProof.Rows PySem.Calls
set_option maxRecDepth 100000
set_option maxHeartbeats 8000000
set_option linter.unusedVariables false
namespace Mine
section
variable {prog : Program} {w : World} {A : Around} {E : Value → Shared → Prop} {s : Shared}
/-- what a fresh exception of the walk says -/
def Fresh (s : Shared) (X : String) (E : Value → Shared → Prop) : Prop := ∀ h₁ h' tk e, (∀ a o, s.heap.get? a = some o → h₁.get? a = some o) → Heap.NewExc h₁ h' e X → E (.ref e) { s with heap := h', toks := tk }
theorem unpackFew {t : Addr} {v : Value} {Q : List Value → Shared → Prop} (hh : A.handled = none) (ht : IsTup s.heap t #[v]) (hE : Fresh s "ValueError" E) : wpAny (model prog w) A (unpackItems (.ref t) 2 none) Q E s := by
  have hlt : t ≠ s.heap.objs.size := by obtain ⟨o, ho, _⟩ := ht; exact Nat.ne_of_lt (Heap.lt_size ho)
  unfold unpackItems
  refine wpAny_bind ?_
  unfold notIterableAtAll
  refine wpAny_bind (wpAny_specialOf ht.typeIs slot_tuple_iter.lookup (wpAny_pure ?_))
  simp only [Bool.false_eq_true, if_false]
  refine wpAny_bind (wpAny_holding (iter_tuple ht (wpAny_bind (wpAny_holding ?_))))
  have hn : ∀ h' : Heap, Heap.ExtBut s.heap.objs.size (s.heap.push { cls := .type "tuple_iterator", data := .fields #[.ref t, .int 0 0] }) h' → ∀ a o, s.heap.get? a = some o → h'.get? a = some o := fun h' x a o q => x a o (Nat.ne_of_lt (Heap.lt_size q)) (Heap.get?_push_of_some _ q)
  refine wpAny_bind (next_tuple_item (i := 0) (items := #[v]) (x := v) ⟨_, Heap.get?_push_size _ rfl, rfl, rfl⟩ (ht.push _) rfl fun h₁ it₁ hs₁ => wpAny_bind (wpAny_holding (wpAny_bind (next_tuple_end (items := #[v]) hh it₁ ((ht.push _).extBut hs₁.extBut hlt) rfl fun h₂ he₂ => wpAny_pure (wpAny_pure ?_)))))
  refine wpAny_ite_split (fun _ => ?_) (fun h => absurd (show 1 < 2 by decide) h)
  refine wpAny_bind (wpAny_rule (wpAny_bind ?_))
  refine wpAny_raiseErrorMade plainExc_ValueError hh (fun h' tk e hx => hE h₂ h' tk e (hn h₂ fun a o z q => he₂ a o z (hs₁.extBut a o z q)) hx) ?_
  show (Str.ofString (toString "not enough values to unpack (expected " ++ toString (2 : Nat) ++ toString ", got " ++ toString (1 : Nat) ++ toString ")")).length ≤ sizeLine
  decide +kernel
theorem unpackMany {t : Addr} {v1 v2 v3 : Value} {Q : List Value → Shared → Prop} (hh : A.handled = none) (ht : IsTup s.heap t #[v1, v2, v3]) (hE : Fresh s "ValueError" E) : wpAny (model prog w) A (unpackItems (.ref t) 2 none) Q E s := by
  have hlt : t ≠ s.heap.objs.size := by obtain ⟨o, ho, _⟩ := ht; exact Nat.ne_of_lt (Heap.lt_size ho)
  unfold unpackItems
  refine wpAny_bind ?_
  unfold notIterableAtAll
  refine wpAny_bind (wpAny_specialOf ht.typeIs slot_tuple_iter.lookup (wpAny_pure ?_))
  simp only [Bool.false_eq_true, if_false]
  refine wpAny_bind (wpAny_holding (iter_tuple ht (wpAny_bind (wpAny_holding ?_))))
  have hn : ∀ h' : Heap, Heap.ExtBut s.heap.objs.size (s.heap.push { cls := .type "tuple_iterator", data := .fields #[.ref t, .int 0 0] }) h' → ∀ a o, s.heap.get? a = some o → h'.get? a = some o := fun h' x a o q => x a o (Nat.ne_of_lt (Heap.lt_size q)) (Heap.get?_push_of_some _ q)
  refine draw_tuple hlt 2 0 _ _ ⟨_, Heap.get?_push_size _ rfl, rfl, rfl⟩ (ht.push _) (by simp) fun h₁ it₁ hs₁ => ?_
  refine wpAny_ite_split (fun h => absurd h (show ¬ 2 < 2 by decide)) (fun _ => ?_)
  refine wpAny_bind (wpAny_holding (next_tuple_item (items := #[v1, v2, v3]) (x := v3) it₁ ((ht.push _).extBut hs₁.extBut hlt) rfl fun h₂ it₂ hs₂ => ?_))
  simp only [Option.isSome_some, if_true]
  refine wpAny_bind (wpAny_rule (wpAny_bind ?_))
  refine wpAny_raiseErrorMade plainExc_ValueError hh (fun h' tk e hx => hE h₂ h' tk e (hn h₂ (hs₁.trans hs₂).extBut) hx) ?_
  show (Str.ofString (toString "too many values to unpack (expected " ++ toString (2 : Nat) ++ toString ")")).length ≤ sizeLine
  decide +kernel
theorem add_int_str {a : Int} {t u : Tok} {y : Str} {Q : Value → Shared → Prop} (hh : A.handled = none) (hE : Fresh s "TypeError" E) : wpAny (model prog w) A (binaryOp .Add (.int a t) (.str y u)) Q E s := by
  unfold binaryOp
  refine wpAny_holding (wpAny_bind ?_)
  have b1 : wpAny (model prog w) A (binaryOp1 "add" (.int a t) (.str y u)) (fun v s' => v = none ∧ s' = s) E s := by
    unfold binaryOp1
    refine wpAny_bind (wpAny_typeOf (typeIs_int s a t) (wpAny_bind (wpAny_typeOf (typeIs_str s y u) (wpAny_bind (wpAny_of_eq PySem.F.fills_int_add (wpAny_bind (wpAny_of_eq PySem.noFill_str_add ?_)))))))
    refine wpAny_bind (wpAny_pure ?_)
    refine wpAny_bind (wpAny_tryMethod_declines (typeIs_int s a t) PySem.F.slot_int_add (call_gives PySem.F.slot_int_add (typeIs_int s a t) PySem.F.entry_int_add (PySem.F.args_int_add_2 _ _) (AutoIntG6.int___add___int_str_0 a t y u) ?_))
    exact ⟨rfl, wpAny_pure ⟨rfl, rfl⟩⟩
  refine wpAny_mono b1 (fun v s' h => ?_) fun _ _ x => x
  obtain ⟨rfl, rfl⟩ := h
  show wpAny _ A (typeOf (.int a t) >>= fun x => seqSlot? x (Str.ofString "__add__") >>= fun y' => match y' with
    | some f => do
      rule "binop.sequence-concat"
      PySem.call f [Value.int a t, Value.str y u]
    | _ => binopTypeError "+" (.int a t) (.str y u)) _ _ _
  refine wpAny_bind (wpAny_typeOf (typeIs_int _ a t) (wpAny_bind (wpAny_of_eq (a := none) ?_ ?_)))
  · show (typeLookup (.type "int") (Str.ofString "__add__") >>= fun f => if (!isSeqSlot f) = true then pure none else pure f) = pure none
    rw [typeLookup_type, builtinLookup_eq_fast]; kernel_rfl
  · unfold binopTypeError
    refine wpAny_bind (wpAny_rule (wpAny_bind (wpAny_typeNameOf' (typeIs_int _ a t) (h := wpAny_bind (wpAny_typeNameOf' (typeIs_str _ y u) (h := ?_))))))
    refine wpAny_raiseErrorMade plainExc_TypeError hh (fun h' tk e hx => hE _ h' tk e (fun a o q => q) hx) ?_
    decide +kernel
end
end Mine
end
section
open PySem PySem.W PyProof.Rows PySem.Calls
set_option maxRecDepth 100000
set_option maxHeartbeats 8000000
set_option linter.unusedVariables false
namespace Mine
theorem HX.ty {M : Model} {B h : Heap} {l : List Env} {e : Addr} {cls : Value} {ws : Array Value} {fl : Value} (x : HX B l e cls ws fl h) : Looks M h (typeOf (.ref e)) cls := by
  obtain ⟨x1, x2, x3, oe, T, oT, ts, y1, y2, _⟩ := x
  subst y2
  exact (Looks.ld y1).andThen .now
theorem HX.obj {B h : Heap} {l : List Env} {e : Addr} {cls : Value} {ws : Array Value} {fl : Value} (x : HX B l e cls ws fl h) : ∃ o, h.get? e = some o ∧ o.data = .fields ws := by
  obtain ⟨x1, x2, x3, oe, T, oT, ts, y1, y2, y3, _⟩ := x
  exact ⟨oe, y1, y3⟩
theorem HX.tb {B h : Heap} {l : List Env} {e : Addr} {cls : Value} {ws : Array Value} {fl : Value} (x : HX B l e cls ws fl h) : ∃ T, ws[1]? = some (.ref T) := by
  obtain ⟨x1, x2, x3, oe, T, oT, ts, y1, y2, y3, y4, _⟩ := x
  exact ⟨T, y4⟩
section
variable {w : World} {dn : Nat} (b : Bs w dn) (k : Cd)
/-- a refusal that stands before the frame's end -/
def Refused (e : Addr) (words : Str) (m : Map) (N : Led) (h : Heap) : Prop :=
  ∃ G B t tk, ∃ F : FrB b G m, (∀ a o, G.get? a = some o → a ∉ b.L :: fsOf b.q → B.get? a = some o) ∧ (∀ q ∈ N, B.get? q.1 = some q.2 ∧ F.g.get? q.1 = none) ∧ Heap.HeldW B (k.env b.L :: b.q.outer) e (.type "TypeError") (.ref t) b.L h ∧ G.UpToSlots h ∧ h.TupAt t [.str words tk] ∧ B.get? t = none
end
section
variable {w : World} {dn : Nat} {b : Bs w dn} {m : Map} {N : Led} {qual : Str} {scope : Scope} {f : Addr} {cdv : Value} {fn : scope.kind = .function} {s : Shared} {e : Addr} {X : String}
theorem refuse {h₁ : Heap} {x : Str} {words : Str} {tt : Expr} {u u2 : Nat} {np cp cpos p2 rpos hpos : Pos} {Q : Flow → Shared → Prop} {E : Value → Shared → Prop} (Tu : b.Tu) (F : FrB b h₁ m) (NN : News F.g b.L h₁ N) (hx : Heap.NewExc h₁ s.heap e X)
    (T : ∀ p loose mg mb, KtsTest prog w (Kh w.params) p loose mg mb qual scope b.L f cdv (.type X) tt true)
    (ex : nsIn (Kh w.params) mainGlobals x = some none) (hv : bootBuiltins x = some (.type "TypeError")) (hn' : x ≠ "__name__") (hxk : (envX qual scope b.L f cdv []).kindOf x = some .globalImplicit) (hxd : (x == ("__debug__" : Str)) = false)
    (h1 : starEach [Expr.Constant (.str words) u cp] (envX qual scope b.L f cdv []) = (false, eval (.Constant (.str words) u cp) (envX qual scope b.L f cdv [])) :: starEach [] (envX qual scope b.L f cdv []))
    (hE : ∀ e h' tk, Refused b ⟨qual, scope, f, cdv, fn, fun _ => []⟩ e words m N h' → E (.ref e) { s with heap := h', toks := tk }) :
    wpAny (model prog w) (b.A ⟨qual, scope, f, cdv, fn, fun _ => []⟩) (noteFrame (.ref e) (Cd.env ⟨qual, scope, f, cdv, fn, fun _ => []⟩ b.L)) (fun _ s₂ => wpAny (model prog w) (b.A ⟨qual, scope, f, cdv, fn, fun _ => []⟩) (setFlight (.ref e) none) (fun _ s₃ =>
      wpAny (model prog w) (b.A ⟨qual, scope, f, cdv, fn, fun _ => []⟩) (handleBy (.ref e) (Cd.env ⟨qual, scope, f, cdv, fn, fun _ => []⟩ b.L) [.ExceptHandler (some tt) none [.Raise (some (.Call (.Name x np) [.Constant (.str words) u cp] [] cpos)) (some (.Constant .none u2 p2)) rpos] hpos]) Q E s₃) E s₂) E s := by
  obtain ⟨A₀, base, K, _⟩ := Tu.1 _ F.G
  have K' := pushX (env := Cd.env ⟨qual, scope, f, cdv, fn, fun _ => []⟩ b.L) K F.fr rfl fn
  have hin : ∀ env ∈ (Cd.env ⟨qual, scope, f, cdv, fn, fun _ => []⟩ b.L :: b.q.outer), ∀ a, env.frame = some a → a ∈ b.L :: fsOf b.q := fun env he a ha => List.mem_filterMap.mpr ⟨env, he, ha⟩
  generalize hB : hideAll h₁ (b.L :: fsOf b.q) = B
  have hBG : ∀ a o, h₁.get? a = some o → a ∉ b.L :: fsOf b.q → B.get? a = some o := fun a o q nm => hB ▸ hideAll_get _ q nm
  have hBh : ∀ a o, B.get? a = some o → h₁.get? a = some o := fun a o q => of_hideAll _ (hB ▸ q)
  have hl : ∀ q ∈ N, B.get? q.1 = some q.2 ∧ F.g.get? q.1 = none := fun q hq => by
    refine ⟨hBG _ _ (NN q hq).1 fun hm => ?_, (NN q hq).2.2⟩
    rcases List.mem_cons.mp hm with hm | hm
    · exact (NN q hq).2.1 hm
    · obtain ⟨o, ho, _⟩ := (K.frames.mem hm).2
      rw [(NN q hq).2.2] at ho; cases ho
  obtain ⟨ob, tp, he, hcls, hd⟩ := hx.there
  have hen : B.get? e = none := by
    cases q : B.get? e with
    | none => rfl
    | some o => have := hBh _ _ q; rw [hx.new] at this; cases this
  have hff : s.heap.FunFrames B (Cd.env ⟨qual, scope, f, cdv, fn, fun _ => []⟩ b.L :: b.q.outer) := hB ▸ (funFrames_hide K'.frames hin).of_keeps fun a o hb _ => ⟨o, hx.keeps a o hb, rfl⟩
  refine HX.note (B := B) (env := Cd.env ⟨qual, scope, f, cdv, fn, fun _ => []⟩ b.L) (outer := b.q.outer) rfl hff rfl he (fun a o eb => hx.keeps a o (hBh a o eb)) hen hd rfl fun h2 T1 x2 u2' => ?_
  rw [hcls] at x2
  have U2 : h₁.UpToSlots h2 := (Heap.UpToSlots.of_keeps hx.keeps).trans u2'
  refine HX.set x2 fun h3 x3 u3 => ?_
  have U3 := U2.trans u3
  have w0 : (#[tp, .none, .none, .none, .bool false, .none] : Array Value).setIfInBounds 1 (.ref T1) = #[tp, .ref T1, .none, .none, .bool false, .none] := rfl
  rw [w0] at x3
  have ground : ∀ h, B.StaysIn h → h₁.UpToSlots h → ∃ g', AmbT w b.q g' ∧ Fr g' b.L h m := fun h q1 q2 => by
    obtain ⟨g', T', F', _⟩ := kts_ground (name := qual) (scope := scope) (a := f) (cd := cdv) K F.fr hBG q1 q2
    exact ⟨g', Tu.1 _ (Tu.2 _ _ F.G T'), F'⟩
  obtain ⟨g3, A3, F3⟩ := ground h3 x3.1 U3
  obtain ⟨v₀, lo, mean, mg, mb, TT⟩ := A3.amb.top
  refine wpAny_handleBy_cons (codeAny_handlers_test ?_) (by intro q; cases q)
  refine T v₀ lo mg mb _ _ _ { s with heap := h3 } g3 e m F3 A3.amb.inK (topRead_of TT) x3.ty fun h4 kp => ?_
  have x4 := x3.up kp
  refine codeAny_handlers_suite (HX.set x4 fun h5 x5 u5 => ?_)
  have U5 := (U3.trans (Heap.UpToSlots.of_keeps kp)).trans u5
  obtain ⟨g5, A5, F5⟩ := ground h5 x5.1 U5
  obtain ⟨v₀, lo, mean, mg, mb, TT5⟩ := A5.amb.top
  obtain ⟨oe, hoe, hde⟩ := x5.obj
  refine wpAny_execs_cons (raiseRow (e1 := e) rfl (fun Q' hq => nameX_B F5 A5.amb.inK (topRead_of TT5) ex hv hn' hq fn hxk hxd) hoe hde rfl (fun h6 e2 t tk tk' k1 k2 k3 k4 k5 => ?_) h1 rfl)
  have hen2 : B.get? e2 = none := by
    cases q : B.get? e2 with
    | none => rfl
    | some o => have := x5.1 _ _ q; exact absurd (this.symm.trans k2) (by simp)
  have htn2 : B.get? t = none := by
    cases q : B.get? t with
    | none => rfl
    | some o => have := x5.1 _ _ q; exact absurd (this.symm.trans k4) (by simp)
  refine HX.note (s := { s with heap := h6, toks := tk' }) (B := B) (env := Cd.env ⟨qual, scope, f, cdv, fn, fun _ => []⟩ b.L) (outer := b.q.outer) rfl (x5.2.2.1.of_keeps fun a o hb _ => ⟨o, k1 a o hb, rfl⟩) rfl k3 (fun a o eb => k1 a o (x5.1 a o eb)) hen2 rfl rfl fun h7 T2 x7 u7 => ?_
  obtain ⟨oe2, hoe2, hde2⟩ := x7.obj
  unfold cameBackBy
  refine wpAny_bind (wpAny_field (s := { s with heap := h7, toks := tk' }) hoe2 hde2 (x := .ref T2) rfl ?_)
  rw [if_neg (by simp)]
  show wpAny _ _ (setFlight (.ref e2) (some b.L)) _ _ _
  refine HX.set (s := { s with heap := h7, toks := tk' }) (fr := some b.L) x7 fun h8 x8 u8 => ?_
  refine hE e2 h8 tk' ⟨h₁, B, t, tk, F, hBG, hl, x8.held rfl, ?_, ?_, htn2⟩
  · exact (((U5.trans (Heap.UpToSlots.of_keeps k1)).trans u7).trans u8)
  · exact (Heap.TupAt.of_slots (Heap.TupAt.of_slots ⟨_, 0, k5, rfl, rfl⟩ u7) u8)
end
end Mine
end
section
open PySem PySem.W PyProof.Rows PySem.Calls
set_option maxRecDepth 100000
set_option maxHeartbeats 8000000
namespace Mine
set_option linter.unusedVariables false
/-- a refusal that has come to the caller -/
def Came (q : Pk) (env : Env) (h₀ : Heap) (L : Addr) (m : Map) (N : Led) (e : Addr) (words : Str) (h : Heap) : Prop :=
  ∃ G B t tk, Fr h₀ L G m ∧ (∀ a o, G.get? a = some o → a ∉ L :: fsOf q → B.get? a = some o) ∧ (∀ p ∈ N, B.get? p.1 = some p.2 ∧ h₀.get? p.1 = none) ∧ Heap.FlyingW B (env :: q.outer) e (.type "TypeError") (.ref t) h ∧ G.UpToSlots h ∧ h.TupAt t [.str words tk] ∧ B.get? t = none
/-- a def that refuses -/
def RaisesT (w : World) (f : Addr) (dn : Nat) (vs : List Value) (news : Led) (words : Str) : Prop :=
  ∀ (q : Pk) (cn : Str) (cs : Scope) (a : Addr) (ccd : Value) (cl : List (Str × Addr)) (h₀ : Heap) (L : Addr) (m : Str → Option Value) (s : Shared) (R : Result → Shared → Prop),
    AmbT w q h₀ → cs.kind = .function → Fr h₀ L s.heap m → News h₀ L s.heap news → q.dp + dn < recursionLimit → q.un + 8 * dn < cLine →
    (∀ e h' tk, Came q (envX cn cs L a ccd cl) h₀ L m news e words h' → R (.error (.ref e)) { s with heap := h', toks := tk }) →
    codeAny (model prog w) (topC cn cs a ccd cl q L) (.call (.ref f) ⟨vs, []⟩) R s
section
variable {w : World} {f : Addr} {dn : Nat} {vs : List Value} {news : Led} {words : Str} {name qual : Str} {params : Arguments} {body : List Stmt} {scope : Scope} {dV kV doc pm cdv ct oc : Value} {an od : Option Addr} {osl : Array (Option Value)}
theorem enterX {binds : List (Str × Value)} (ho : (Kh w.params).lookup f = some ⟨oc, od, .func (fnOf name qual params body scope dV kV doc pm an cdv ct), osl⟩) (hcd : codeIn (Kh w.params) cdv qual = true)
    (hbind : ∀ s : Shared, (Kh w.params).In s.heap → BindsTo s (fnOf name qual params body scope dV kV doc pm an cdv ct) ⟨vs, []⟩ binds) (hloc : ∀ y ∈ binds, scope.names.lookup y.1 = some .local)
    (hco : scope.isCoroutine = false) (hgen : scope.isGenerator = false) (hk : scope.kind = .function) (hcell : ∀ x ∈ scope.names, x.2 ≠ .cell)
    (h : ∀ b : Bs w dn, b.Tu → ∀ (s : Shared) (F : FrB b s.heap (fun y => binds.reverse.lookup y)) (E : Value → Shared → Prop), News F.g b.L s.heap news → (∀ e m' h' tk, Refused b ⟨qual, scope, f, cdv, hk, fun _ => []⟩ e words m' news h' → E (.ref e) { s with heap := h', toks := tk }) →
      wpAny (model prog w) (b.A ⟨qual, scope, f, cdv, hk, fun _ => []⟩) (execs body (Cd.env ⟨qual, scope, f, cdv, hk, fun _ => []⟩ b.L)) (fun _ _ => False) E s) : RaisesT w f (dn + 1) vs news words := by
  intro q cn cs a ccd cl h₀ L m s R hA hcs F N hd hu hret
  obtain ⟨A₀, base, B, X, v, lo, mean, mg, mb, T⟩ := hA
  have X₀ := X.keeps B.stays
  have T₀ := T.keeps B.stays
  obtain ⟨FG, BG, st, _⟩ := groundX (R := R) (A := topC cn cs a ccd cl q L) (env := envX cn cs L a ccd cl) B F N rfl rfl hcs
  refine codeAny_call_def (fd := fnX name qual params body scope [] dV kV doc pm an cdv ct) (body := body) (binds := binds) (by show q.dp < recursionLimit; omega) ((X₀.keeps F.keep) _ _ ho) rfl (T₀.nolimit.keeps F.keep) (codeRec_of (X₀.keeps F.keep) hcd) rfl (hbind _ (X₀.keeps F.keep)) hcell hloc (fun h₁ hns hk₁ => ?_) hco hgen hk
  generalize hg : hideAll s.heap (news.map (·.1)) = g at FG BG st
  have F₁ : Fr g s.heap.objs.size h₁ (fun y => binds.reverse.lookup y) := ⟨hns, fun b o e => hk₁ b o (of_hideAll _ (hg ▸ e)), by subst hg; exact Nat.le_of_eq (hideAll_size _ _)⟩
  have N₁ : News g s.heap.objs.size h₁ news := fun p hp => ⟨hk₁ _ _ (N p hp).1, Nat.ne_of_lt (Heap.lt_size (N p hp).1), by subst hg; exact hideAll_none _ (List.mem_map_of_mem hp)⟩
  have hAT : AmbT w ⟨q.dp + 1, q.un + 3, q.gd, envX cn cs L a ccd cl :: q.outer⟩ g := ⟨_, base, BG, X, v, lo, mean, mg, mb, T⟩
  refine wpAny_mono (h ⟨⟨q.dp + 1, q.un + 3, q.gd, envX cn cs L a ccd cl :: q.outer⟩, s.heap.objs.size, fun g' => KtsTurn (L :: fsOf q) g g', fun g' t => (hAT.turn t).amb, by show q.dp + 1 + dn < recursionLimit; omega, by show q.un + 3 + 8 * dn < cLine; omega⟩
    ⟨fun g' t => hAT.turn t, fun g₁ g₂ t t' => t.trans t'⟩ { s with heap := h₁, toks := s.toks + binds.length } ⟨g, KtsTurn.refl, F₁⟩ _ N₁ (fun e m' h' tk c => ?_)) (fun _ _ x => x.elim) fun _ _ x => x
  obtain ⟨G, B', t, tk1, F', cov, hl, hh, hsm, htup, htn⟩ := c
  unfold «leaving»
  refine wpAny_bind (wpAny_noteFrame_againW (s := { s with heap := h', toks := tk }) rfl hh.2.2.2 ?_)
  refine wpAny_landsW (s := { s with heap := h', toks := tk }) hh fun h2 hfl hs => ?_
  obtain ⟨k1, k2, ⟨_, _, k3⟩, k4⟩ := hfl
  have tn : KtsTurn (L :: fsOf q) g F'.g := F'.G
  have gself : g.get? s.heap.objs.size = none := kts_self F₁
  refine hret e h2 tk ⟨g, B', t, tk1, FG, fun a o e1 e2 => cov a o (F'.fr.keep _ _ (tn.other a o e1 e2)) fun hm => ?_, fun p hp => ⟨(hl p hp).1, (N p hp).2.2⟩, ⟨k1, k2, k3, k4⟩, ?_, htup.of_slots hs, htn⟩
  · rcases List.mem_cons.mp hm with z | z
    · have z : a = s.heap.objs.size := z
      rw [z, gself] at e1; cases e1
    · exact e2 z
  · have u1 : g.UpToSlots G := fun a o e1 e2 => by
      obtain ⟨sl, q1⟩ := tn.up e1
      exact ⟨sl, F'.fr.keep _ _ q1⟩
    exact (u1.trans hsm).trans hs
end
def wordsB : Str := Str.ofString "Locale must be None, a string, or an iterable of two strings -- language code, encoding."
theorem ifE {w : World} {dn : Nat} {b : Bs w dn} {k : Cd} {m : Map} {N : Led} {s : Shared} {Q : Flow → Shared → Prop} {E : Value → Shared → Prop} {e : Expr} {body orelse : List Stmt} {pos : Pos} {c : Bool} (F : FrB b s.heap m) (NN : News F.g b.L s.heap N) (ht : Tst b k m N e c)
    (h : ∀ tk, wpAny (model prog w) (b.A k) (execs (if c = true then body else orelse) (k.env b.L)) Q E { s with toks := tk }) : wpAny (model prog w) (b.A k) (exec (.If e body orelse pos) (k.env b.L)) Q E s :=
  wpAny_If (wpAny_noRaise (ht s _ F NN fun v tk p => by
    subst p
    have := h tk
    cases v with
    | true => exact this
    | false => exact this))
/-- what is refused -/
def Bad (vs : List Value) : Prop := (∃ v, vs = [v]) ∨ (∃ v1 v2 v3, vs = [v1, v2, v3]) ∨ (∃ i t y u, vs = [.int i t, .str y u])
theorem refuse_spec (w : World) (T : Addr) (vs : List Value) (N : Led) (hm : (T, tupO vs) ∈ N) (hv : Bad vs) : RaisesT w 190 2 [.ref T] N wordsB := by
  k_dflt (refine' enterX (binds := [(Str.ofString "localetuple", .ref T)]) ?k6 ?k7 ?k9 ?kB ?c2 ?c3 ?c4 ?c5 ?_; (case k6 => k_is); (case k7 => k_is); (case k9 => exact fun _ _ => BindsTo.of_eq rfl); (case c5 => decide); (case kB => exact locs rfl); (case c2 => exact rfl); (case c3 => exact rfl); (case c4 => exact rfl); k_whole)
  intro b Tu s F E NN hE
  have n1 : KtsName (Kh w.params) (Str.ofString "TypeError") (.type "TypeError") := .inr ⟨by k_is, by boot_by_name, by decide⟩
  have n2 : KtsName (Kh w.params) (Str.ofString "ValueError") (.type "ValueError") := .inr ⟨by k_is, by boot_by_name, by decide⟩
  have m1 : exmAny (Kh w.params) (.type "ValueError") [.type "TypeError", .type "ValueError"] = some true := by first | rfl | decide +kernel
  have m2 : exmAny (Kh w.params) (.type "TypeError") [.type "TypeError", .type "ValueError"] = some true := by first | rfl | decide +kernel
  have n3 : nsIn (Kh w.params) mainGlobals (Str.ofString "TypeError") = some none := by k_is
  have n4 : bootBuiltins (Str.ofString "TypeError") = some (.type "TypeError") := by boot_by_name
  refine wpAny_execs_cons (wpAny_Try_except (wpAny_execs_cons (Assign_Tuple (nameX_L F.fr rfl ?_))))
  rcases hv with ⟨v, rfl⟩ | ⟨v1, v2, v3, rfl⟩ | ⟨i, t, y, u, rfl⟩
  · rw [assign_Tuple]
    refine wpAny_bind (wpAny_standAt ?_)
    unfold unpack
    refine wpAny_bind (wpAny_holding (unpackFew rfl ⟨_, (NN _ hm).1, rfl, 0, rfl⟩ fun h₁ h' tk e kp hx => ?_))
    exact refuse (s := { s with heap := h', toks := tk }) Tu (F.of (F.fr.keeps kp)) (fun p hp => ⟨kp _ _ (NN p hp).1, (NN p hp).2⟩) hx (fun p loose mg mb => test_tup2 (b := true) n1 n2 m1 rfl rfl (by decide) rfl (by decide)) n3 n4 (by decide) rfl (by decide) rfl (fun e h' tk c => hE e _ h' tk c)
  · rw [assign_Tuple]
    refine wpAny_bind (wpAny_standAt ?_)
    unfold unpack
    refine wpAny_bind (wpAny_holding (unpackMany rfl ⟨_, (NN _ hm).1, rfl, 0, rfl⟩ fun h₁ h' tk e kp hx => ?_))
    exact refuse (s := { s with heap := h', toks := tk }) Tu (F.of (F.fr.keeps kp)) (fun p hp => ⟨kp _ _ (NN p hp).1, (NN p hp).2⟩) hx (fun p loose mg mb => test_tup2 (b := true) n1 n2 m1 rfl rfl (by decide) rfl (by decide)) n3 n4 (by decide) rfl (by decide) rfl (fun e h' tk c => hE e _ h' tk c)
  · refine unpackN_ (items := #[.int i t, .str y u]) F.fr NN ⟨_, (NN _ hm).1, rfl, _, rfl⟩ rfl rfl rfl fun h' F1 N1 => ?_
    refine assignInOrder_cons (assign_Name (wpAny_storeName_local rfl F1.ns (fun h2 hn hs => ?_) rfl))
    have F2 := F1.set hn hs
    have N2 := N1.set hs
    refine assignInOrder_cons (assign_Name (wpAny_storeName_local rfl F2.ns (fun h3 hn3 hs3 => ?_) rfl))
    have F3 := F2.set hn3 hs3
    have N3 := N2.set hs3
    refine assignInOrder_nil ?_
    show wpAny _ _ (execs _ _) _ _ _
    refine wpAny_execs_cons (ifE (F.of F3) N3 (Tst.isNone (v := .int i t) (Ex.name rfl) Ex.noneE) fun tk2 => ?_)
    show wpAny _ _ (execs [] _) _ _ _
    refine wpAny_execs_nil ?_
    refine wpAny_execs_cons (ifE (s := { s with heap := h3, toks := tk2 }) (F.of F3) N3 (Tst.isNone (v := .str y u) (Ex.name rfl) Ex.noneE) fun tk3 => ?_)
    show wpAny _ _ (execs [_] _) _ _ _
    refine wpAny_execs_cons (wpAny_Return_some (wpAny_BinOp (wpAny_BinOp (nameX_L (s := { s with heap := h3, toks := tk3 }) F3 rfl (Calls.Constant_str (add_int_str rfl fun h₁ h' tk e kp hx => ?_))))))
    exact refuse (s := { s with heap := h', toks := tk }) Tu (F.of (F3.keeps kp)) (fun p hp => ⟨kp _ _ (N3 p hp).1, (N3 p hp).2⟩) hx (fun p loose mg mb => test_tup2 (b := true) n1 n2 m2 rfl rfl (by decide) rfl (by decide)) n3 n4 (by decide) rfl (by decide) rfl (fun e h' tk c => hE e _ h' tk c)
end Mine
end
section
open PySem PySem.W PyProof.Rows PySem.Calls
set_option maxRecDepth 100000
set_option maxHeartbeats 8000000
namespace Mine
set_option linter.unusedVariables false
theorem callE {w : World} {dn : Nat} {b : Bs w dn} {k : Cd} {m : Map} {N : Led} {en : Env} {s : Shared} {Q : Value → Shared → Prop} {E : Value → Shared → Prop} {f e : Expr} {es : List Expr} {pos : Pos} {a : Addr} {P : List Value → Prop} (F : FrB b s.heap m) (NN : News F.g b.L s.heap N)
    (hf : XE b k en m N f (IsV (.ref a))) (hk : keepIn (Kh w.params) (.ref a) = true) (ha : Ars b k en m N (e :: es) P) (hc : ∀ vs tk, P vs → wpAny (model prog w) (b.A k) (PySem.call (.ref a) vs) Q E { s with toks := tk })
    (h1 : autoParam (eval (.Call f (e :: es) [] pos) en = (do callWith pos (← eval f en) [] (backTo pos (starEach (e :: es) en)) (backToKw pos (keywordEach [] en)))) tRfl)
    (he : autoParam (starEach (e :: es) en = (false, eval e en) :: starEach es en) tRfl) (hplain : autoParam ((backTo pos (starEach es en)).any (·.1) = false) tRfl) : wpAny (model prog w) (b.A k) (eval (.Call f (e :: es) [] pos) en) Q E s :=
  Call_ (wpAny_noRaise (hf s _ F NN fun fv tk p => by cases p; exact callWith_K F.amb.inK hk (wpAny_noRaise (ha pos _ _ F NN fun vs tk2 p2 => ⟨F.amb.inK.keeps F.keep, hc vs tk2 p2⟩)) he hplain)) h1
theorem refused_spec (w : World) (T : Addr) (vs : List Value) (N : Led) (hm : (T, tupO vs) ∈ N) (hv : Bad vs) : SpecT w 216 3 [.ref T] N (fun r n' => IsS wordsB r ∧ n' = N) := by
  k_dflt (refine' enterT (binds := [(Str.ofString "thing", .ref T)]) ?k6 ?k7 ?k9 ?kB ?c2 ?c3 ?c4 ?c5 ?_; (case k6 => k_is); (case k7 => k_is); (case k9 => exact fun _ _ => BindsTo.of_eq rfl); (case c5 => decide); (case kB => exact locs rfl); (case c2 => exact rfl); (case c3 => exact rfl); (case c4 => exact rfl); k_whole)
  intro b Tu
  have n1 : KtsName (Kh w.params) (Str.ofString "TypeError") (.type "TypeError") := .inr ⟨by k_is, by boot_by_name, by decide⟩
  have m2 : exmOne (Kh w.params) (.type "TypeError") (.type "TypeError") = some true := by first | rfl | decide +kernel
  have n3 : nsIn (Kh w.params) mainGlobals (Str.ofString "str") = some none := by k_is
  have n4 : bootBuiltins (Str.ofString "str") = some (.type "str") := by boot_by_name
  refine SX.abs fun C hC => ?_
  refine SX.cons (C' := C) fun s Q F NN hQ => wpAny_Try_except (wpAny_execs_cons (wpAny_Return_some (callE F NN (Ex.glob (by k_is)) (by k_is) (Ars.one (Ex.name rfl)) fun us tk2 p2 => ?_)))
  obtain ⟨v, rfl, hv2⟩ := p2
  cases hv2
  refine wpAny_call (refuse_spec w T vs N hm hv b.q _ _ _ _ _ F.g b.L _ { s with toks := tk2 } _ (Tu.1 _ F.G) rfl F.fr NN (by have := b.hdp; omega) (by have := b.hun; omega) fun e h1 tk3 c => ?_)
  obtain ⟨G, B, t, tk4, FG, cov, hl, hfl, hsm, htup, htn⟩ := c
  refine wpAny_looks_onW (s := { s with heap := h1, toks := tk3 }) rfl rfl hfl fun h2 hh2 u2 => ?_
  refine wpAny_landsW (s := { s with heap := h2, toks := tk3 }) hh2 fun h3 hf3 u3 => ?_
  have U3 := (hsm.trans u2).trans u3
  have hBL : B.get? b.L = none := by
    obtain ⟨_, ⟨L', _, hf, hn', _⟩, _⟩ := hf3.2.2.1
    obtain rfl : b.L = L' := Option.some.inj hf
    exact hn'
  obtain ⟨F3, N3⟩ := lies_ground Tu ⟨G, B, .ref t, ⟨F.g, F.G, FG⟩, cov, hl, hf3, U3, hBL⟩
  obtain ⟨v₀, lo, mean, mg, mb, TT⟩ := F3.amb.top
  refine wpAny_handleBy_cons (codeAny_handlers_test ?_) (by intro q; cases q)
  refine (test_name (b := true) (p := v₀) (loose := lo) (mg := mg) (mb := mb) n1 m2 rfl (by rfl) (by decide)) _ _ _ _ F3.g e _ F3.fr F3.amb.inK (topRead_of TT) ?_ fun h4 kp => ?_
  · obtain ⟨ob, hob, hc⟩ := hf3.there
    rw [← hc]
    exact (Looks.ld hob).andThen .now
  have hf4 := flying_keeps hf3 kp
  refine codeAny_handlers_suite_as (lands_againW (s := { s with heap := h4, toks := tk3 }) hf4 fun h5 hf5 u5 => ?_)
  have U5 := (U3.trans (Heap.UpToSlots.of_keeps kp)).trans u5
  obtain ⟨F5, N5⟩ := lies_ground Tu ⟨G, B, .ref t, ⟨F.g, F.G, FG⟩, cov, hl, hf5, U5, hBL⟩
  have tup5 : h5.TupAt t [.str wordsB tk4] := (((htup.of_slots u2).of_slots u3).keeps kp).of_slots u5
  obtain ⟨oe, ws, hoe, hoec, hoed, hoe0⟩ := hf5.first
  obtain ⟨ot, nt, hot, hotc, hotd⟩ := tup5
  obtain ⟨oL, es, ep, hoL, hdL, _⟩ := F5.ns
  have eL : e ≠ b.L := fun z => by rw [z, hoL] at hoe; cases hoe; rw [hdL] at hoed; cases hoed
  have tL : t ≠ b.L := fun z => by rw [z, hoL] at hot; cases hot; rw [hdL] at hotd; cases hotd
  refine wpAny_storeName_local (by rfl) F5.ns (fun h6 hn6 hs6 => ?_) (by rfl)
  have F6 := F5.fr.set hn6 hs6
  have N6 := N5.set hs6
  have x6 : h6.ExcAt e "TypeError" (.ref t) := ⟨oe, ws, hs6.extBut _ _ eL hoe, hoec, hoed, hoe0⟩
  have t6 : h6.TupAt t [.str wordsB tk4] := ⟨ot, nt, hs6.extBut _ _ tL hot, hotc, hotd⟩
  obtain ⟨v₆, lo6, mean6, mg6, mb6, TT6⟩ := F5.amb.top
  refine wpAny_execs_cons (wpAny_Return_some (Call_ (nameX_B (s := { s with heap := h6, toks := _ }) F6 F5.amb.inK (topRead_of TT6) n3 n4 (by decide) ?_ rfl (by rfl) (by decide)) (by rfl)))
  refine PyProof.Rows.callWith_type1 (args_cons (nameX_L (s := { s with heap := h6, toks := _ }) F6 rfl (args_nil ?_) rfl (by rfl) (by decide)) (by rfl)) (by rfl) (by rfl)
  refine P.str_of_exc_one PySem.F.excStr_TypeError (by have := b.hun; show b.q.un + 2 < cLine; omega) x6 t6 ?_
  refine name_goes_keeps (s := { s with heap := h6, toks := _ }) F6 N6 (fun h7 v7 F7 N7 => ?_) rfl (by rfl)
  exact hQ (.ret (.str wordsB tk4)) _ N h7 _ (hC _ _ _ ⟨⟨_, rfl⟩, rfl⟩) ⟨F5.g, F5.G, F7⟩ N7
end Mine
end
section
open PySem PySem.W PyProof.Rows PySem.Calls
set_option maxRecDepth 100000
set_option maxHeartbeats 8000000
set_option linter.unusedVariables false
namespace Mine
section
variable {w : World} {dn : Nat} {b : Bs w dn} {k : Cd} {m : Map} {N : Led} {C : Value → Map → Led → Prop} {rest : List Stmt} {en : Env}
/-- o[:j] of a list -/
theorem WXE.upto {o u : Expr} {p pos : Pos} {a : Addr} {vs : List Value} {n j : Nat} (ho : XE b k en m N o (IsV (.ref a))) (hu : XE b k en m N u (IsI (j : Int))) (hm : (a, listOf vs.toArray n) ∈ N) (hz : vs.length ≤ 1000)
    (h : ∀ D sl, (D, listOf (vs.take j).toArray 0) ∈ sl → (∀ p ∈ N, p ∈ sl) → C (.ref D) m sl) (ht : autoParam (∀ v r, letTemporaryGo o v r = pure ()) tIIRfl) : WXE b k en m N (.Subscript o (.Slice none (some u) none p) pos) C := fun s Q F N' hQ => by
  refine wpAny_Subscript_list_slice (ho s _ F N' fun v tk pv => ?_) ht
  cases pv
  refine wpAny_evalPart_none (wpAny_evalPart_some (hu _ _ F N' fun vu tk2 pu => ?_))
  obtain ⟨t, rfl⟩ := pu
  refine ⟨a, vs.toArray, none, some (j : Int), rfl, ⟨_, (N' _ hm).1, rfl, n, rfl⟩, by rw [sizeLine_eq, List.size_toArray]; omega, .none, .int .., ?_⟩
  have F1 := F.fr.push { cls := .type "slice", data := .fields #[.none, .int (j : Int) t, .none] }
  have N1 := News.push F.fr N' { cls := .type "slice", data := .fields #[.none, .int (j : Int) t, .none] } rfl
  have F2 := F1.push { cls := .type "list", data := .seq (slicePick vs.toArray none (some (j : Int)) none) }
  have N2 := News.push F1 N1 { cls := .type "list", data := .seq (slicePick vs.toArray none (some (j : Int)) none) } rfl
  rw [Heap.size_push] at N2
  refine hQ _ m _ _ _ (h _ _ ?_ ?_) (F.of F2) N2
  · rw [slicePick_upto']
    exact List.mem_cons_self ..
  · exact fun p hp => List.mem_cons_of_mem _ (List.mem_cons_of_mem _ hp)
/-- the sum of two lists, each of which may write -/
theorem WXE.addLW {x y : Expr} {pos : Pos} (ha : WXE b k en m N x (fun va m1 N1 => WXE b k en m1 N1 y (fun vb m' N' => ∃ (a c : Addr) (vs ws : List Value) (n n2 : Nat), va = .ref a ∧ vb = .ref c ∧ (a, listOf vs.toArray n) ∈ N' ∧ (c, listOf ws.toArray n2) ∈ N' ∧ vs.length + ws.length ≤ 1000 ∧ ∀ D, (∀ p ∈ N', p.1 < D) → C (.ref D) m' ((D, listOf (vs ++ ws).toArray 0) :: N')))) : WXE b k en m N (.BinOp x .Add y pos) C := fun s Q F N' hQ =>
  wpAny_BinOp (ha s _ F N' fun va m1 N1 h1 tk1 c1 F1 NN1 => c1 _ _ F1 NN1 fun vb m2 N2 h2 tk2 c2 F2 NN2 => by
    obtain ⟨a, c, vs, ws, n, n2, rfl, rfl, hA, hB, hz, hC⟩ := c2
    exact add_lists F2.fr NN2 ⟨_, (NN2 _ hA).1, rfl, n, rfl⟩ ⟨_, (NN2 _ hB).1, rfl, n2, rfl⟩ (fun h3 F3 NN3 => hQ _ m2 _ h3 _ (hC _ fun p hp => Heap.lt_size (NN2 p hp).1) (F2.of F3) NN3) (by rw [sizeLine_eq]; omega))
/-- a list, so many times -/
theorem WXE.mulL {x y : Expr} {pos : Pos} {j : Nat} (ha : WXE b k en m N x (fun va m1 N1 => XE b k en m1 N1 y (IsI (j : Int)) ∧ ∃ (a : Addr) (vs : List Value) (n : Nat), va = .ref a ∧ (a, listOf vs.toArray n) ∈ N1 ∧ 0 < vs.length ∧ vs.length * j ≤ 1000 ∧ ∀ D, (∀ p ∈ N1, p.1 < D) → C (.ref D) m1 ((D, listOf (List.replicate j vs).flatten.toArray 0) :: N1))) : WXE b k en m N (.BinOp x .Mult y pos) C := fun s Q F N' hQ =>
  wpAny_BinOp (ha s _ F N' fun va m1 N1 h1 tk1 c1 F1 NN1 => by
    obtain ⟨hy, a, vs, n, rfl, hA, h0, hz, hC⟩ := c1
    refine hy _ _ F1 NN1 fun vb tk2 p2 => ?_
    obtain ⟨t, rfl⟩ := p2
    refine mul_list (k := n) (items := vs.toArray) F1.fr NN1 (NN1 _ hA).1 (by omega) (by have := Nat.le_mul_of_pos_left j h0; omega) (by rw [List.size_toArray, Int.toNat_natCast]; omega) fun h' F2 NN2 => ?_
    have e : List.foldl (fun x1 x2 => x1 ++ x2) #[] (List.replicate (if vs.toArray.isEmpty = true then 0 else (j : Int).toNat) vs.toArray) = (List.replicate j vs).flatten.toArray := by
      rw [if_neg (by cases vs <;> simp_all), Int.toNat_natCast]
      have key : ∀ (j : Nat) (acc : List Value), List.foldl (fun x1 x2 => x1 ++ x2) acc.toArray (List.replicate j vs.toArray) = (acc ++ (List.replicate j vs).flatten).toArray := by
        intro j
        induction j with
        | zero => intro acc; simp
        | succ j ih => intro acc; rw [List.replicate_succ, List.foldl_cons, List.append_toArray, ih, List.replicate_succ, List.flatten_cons, List.append_assoc]
      have := key j []
      simpa using this
    rw [e] at NN2
    exact hQ _ m1 _ h' _ (hC _ fun p hp => Heap.lt_size (NN1 p hp).1) (F1.of F2) NN2)
/-- two values that are equal, whatever the walk -/
def EqV (N : Led) (x y : Value) : Prop := ∀ (A : Around) (s : Shared), A.units + 2 < cLine → (∀ p ∈ N, s.heap.get? p.1 = some p.2) → SeqAt.EqAt A s x y true
theorem EqV.list {a c : Addr} {vs us : List Value} {n n2 : Nat} (ha : (a, listOf vs.toArray n) ∈ N) (hc : (c, listOf us.toArray n2) ∈ N) (hl : vs.length = us.length) (he : ∀ (i : Nat) (x y : Value), vs[i]? = some x → us[i]? = some y → ∀ (A : Around) (s : Shared), (∀ p ∈ N, s.heap.get? p.1 = some p.2) → SeqAt.EqAt A s x y true) (hne : a ≠ c) : EqV N (.ref a) (.ref c) := fun A s hu hp => by
  refine SeqAt.EqAt.of_refs hne ?_
  have := SeqAt.RcAt.lists (A := A) (s := s) (l := a) (b := c) (items := vs.toArray) (items2 := us.toArray) (e := fun _ => true) ⟨_, hp _ ha, rfl, n, rfl⟩ ⟨_, hp _ hc, rfl, n2, rfl⟩ (by simpa using hl) (by omega) (fun j h1 h2 => he j _ _ (by simp) (by simp) _ _ hp)
  rwa [show ((List.range vs.toArray.size).all fun _ => true) = true by simp] at this
theorem Rd.neEq {a c : Addr} {vs us : List Value} {n n2 : Nat} (ha : (a, listOf vs.toArray n) ∈ N) (hc : (c, listOf us.toArray n2) ∈ N) (hl : vs.length = us.length) (hd : 1 ≤ dn) (he : ∀ (i : Nat) (x y : Value), vs[i]? = some x → us[i]? = some y → EqV N x y) : Rd b k m N (compareOp .NotEq (.ref a) (.ref c)) (IsV (.bool false)) := fun s Q F N' hQ => by
  have hp : ∀ p ∈ N, s.heap.get? p.1 = some p.2 := fun p hp => (N' p hp).1
  have hu : b.q.un + 8 < cLine := by have := b.hun; omega
  refine SeqAt.RcNeAt.lists (e := fun _ => true) (items := vs.toArray) (items2 := us.toArray) ⟨_, hp _ ha, rfl, n, rfl⟩ ⟨_, hp _ hc, rfl, n2, rfl⟩ (by simpa using hl) (b.units k) (fun j h1 h2 => he j _ _ (by simp) (by simp) _ _ (by show b.q.un + 1 + 2 < cLine; omega) hp) _ _ _ _ ?_
  rw [show (!(List.range vs.toArray.size).all fun _ => true) = false by simp]
  exact hQ _ s.toks rfl
theorem Rd.eqEq {a c : Addr} {vs us : List Value} {n n2 : Nat} (ha : (a, listOf vs.toArray n) ∈ N) (hc : (c, listOf us.toArray n2) ∈ N) (hl : vs.length = us.length) (hd : 1 ≤ dn) (he : ∀ (i : Nat) (x y : Value), vs[i]? = some x → us[i]? = some y → EqV N x y) : Rd b k m N (compareOp .Eq (.ref a) (.ref c)) (IsV (.bool true)) := fun s Q F N' hQ => by
  have hp : ∀ p ∈ N, s.heap.get? p.1 = some p.2 := fun p hp => (N' p hp).1
  have hu : b.q.un + 8 < cLine := by have := b.hun; omega
  refine SeqAt.eq_listAt (e := fun _ => true) (items := vs.toArray) (items2 := us.toArray) ⟨_, hp _ ha, rfl, n, rfl⟩ ⟨_, hp _ hc, rfl, n2, rfl⟩ (by simpa using hl) (b.units k) (fun j h1 h2 => he j _ _ (by simp) (by simp) _ _ (by show b.q.un + 1 + 2 < cLine; omega) hp) ?_
  rw [show ((List.range vs.toArray.size).all fun _ => true) = true by simp]
  exact hQ _ s.toks rfl
theorem Ex.pow2 {x y : Expr} {pos : Pos} {j : Nat} (ha : XE b k en m N x (IsI 2)) (hb : XE b k en m N y (IsI (j : Int))) (hj : j < 5) : XE b k en m N (.BinOp x .Pow y pos) (IsI ((2 ^ j : Nat) : Int)) := Ex.binop ha hb fun _ _ ⟨_, e1⟩ ⟨_, e2⟩ s Q F N hQ => by
  subst e1 e2
  match j, hj with
  | 0, _ => exact AutoIntOps.pow_0 (by decide) (by decide) (hQ _ _ ⟨_, rfl⟩)
  | 1, _ => exact AutoIntOps.pow_4 (by decide) (by decide) (by decide) (by decide) (by decide +kernel) (hQ _ _ ⟨_, rfl⟩)
  | 2, _ => exact AutoIntOps.pow_4 (by decide) (by decide) (by decide) (by decide) (by decide +kernel) (hQ _ _ ⟨_, rfl⟩)
  | 3, _ => exact AutoIntOps.pow_4 (by decide) (by decide) (by decide) (by decide) (by decide +kernel) (hQ _ _ ⟨_, rfl⟩)
  | 4, _ => exact AutoIntOps.pow_4 (by decide) (by decide) (by decide) (by decide) (by decide +kernel) (hQ _ _ ⟨_, rfl⟩)
end
end Mine
end
section
open PySem PySem.W PyProof.Rows PySem.Calls PyProof.Rows.LCg
set_option maxRecDepth 100000
set_option maxHeartbeats 8000000
set_option linter.unusedVariables false
namespace Mine
section
variable {w : World} {dn : Nat} {b : Bs w dn} {k : Cd} {m : Map} {N : Led} {en : Env}
/-- the start of the clause behind -/
theorem start1 {A : Around} {elt : Expr} {g0 : Comprehension} {t iter : Expr} {ifs : List Expr} {scope : Scope} {pos : Pos} {I : Addr} {acc : Value} {env : Env} {s : Shared} {R : Result → Shared → Prop}
    (h0 : codeAny (model prog w) A (.compLoop (.ListComp elt [g0, ⟨t, iter, ifs, 0⟩] scope pos) 1 (.ref I) acc env) R s) (hs : ∀ (Q : Value → Shared → Prop) (E : Value → Shared → Prop), Q (.ref I) s → wpAny (model prog w) A (pyIter (.ref I)) Q E s) :
    codeAny (model prog w) A (.compStart (.ListComp elt [g0, ⟨t, iter, ifs, 0⟩] scope pos) 1 (.ref I) acc env) R s := by
  refine codeAny_of_tree ?_
  show wpAny _ _ ((compStart (.ListComp elt [g0, ⟨t, iter, ifs, 0⟩] scope pos) 1 (.ref I) acc env).onRaise (fun x => do noteFrame x env; standAt theWindowsPlace)) _ _ s
  refine wpAny_notedAt ?_
  unfold compStart
  show wpAny _ _ (ask >>= _) _ _ s
  refine wpAny_bind (wpAny_askSetting (wpAny_ite ?_))
  split
  · exact wpAny_pure (And.intro rfl h0)
  · refine wpAny_bind (wpAny_rule ?_)
    show wpAny _ _ (standAt iter.pos >>= _) _ _ s
    exact wpAny_bind (wpAny_standAt (wpAny_bind (hs _ _ (wpAny_pure (And.intro rfl h0)))))
/-- the loop of the clause behind -/
theorem CL.inner {elt iter iter' : Expr} {scope : Scope} {cl : List (Str × Addr)} {pos px px' : Pos} {x x' : Str} {n : Nat} {P : Nat → Value → Prop} {objs : Led} {I I₀ C₀ D : Addr} {oI oI₀ oC : Obj} {m₀ : Map} {v₀ : Value} {ys₀ : List Value} {N₀ : Led} {fp : List Addr} {St : Nat → Heap → Prop} (J : Nat → List Value → Led → Prop)
    (W : Walks prog w (b.A k) I fp [I] n P St) (hfp : ∀ a ∈ fp, a = I ∨ ∃ o, (a, o) ∈ objs) (hlive : ∀ i h, St i h → ∃ o, h.get? I = some o) (hst : ∀ h, (h.get? I = some oI) → (∀ p ∈ objs, h.get? p.1 = some p.2) → St 0 h)
    (hkind : scope.kind = .function) (hx : scope.names.lookup x' = some .local) (hxx : x ≠ x') (hz : ∀ j ys N₁, J j ys N₁ → ys.length ≤ 10000)
    (d1 : I ≠ I₀) (d2 : I ≠ C₀) (d3 : I ≠ D) (d4 : I₀ ≠ C₀) (d5 : I₀ ≠ D) (d6 : C₀ ≠ D) (hI : ∀ p ∈ N₀, p.1 ≠ I) (hN : ∀ p ∈ N₀, p.1 ≠ I₀ ∧ p.1 ≠ C₀ ∧ p.1 ≠ D) (hns : NsObj oC m₀) (hv : m₀ x = some v₀) (hj : J 0 ys₀ N₀) (hJ : ∀ j ys N₁, J j ys N₁ → ∀ p ∈ objs, p ∈ N₁)
    (turn : ∀ j v ys N₁ X oC m₂, j < n → P j v → J j ys N₁ → (C₀, oC) ∈ X → NsObj oC m₂ → m₂ x = some v₀ → m₂ x' = some v → Apart N₁ X → WXE b k (compEnvC scope cl C₀ en) m (X ++ N₁) elt (fun y m'' N'' => Cm X m (J (j + 1) (ys ++ [y])) m'' N'')) :
    CL b k m ((I, oI) :: (C₀, oC) :: (I₀, oI₀) :: (D, lst ys₀) :: N₀) (.compLoop (.ListComp elt [⟨.Name x px, iter, [], 0⟩, ⟨.Name x' px', iter', [], 0⟩] scope pos) 1 (.ref I) (.ref D) (compEnvC scope cl C₀ en))
      (fun N' => ∃ ys oC m₂ N₁, NsObj oC m₂ ∧ (∀ p ∈ (C₀, oC) :: (I₀, oI₀) :: (D, lst ys) :: N₁, p ∈ N') ∧ (∀ p ∈ N₁, p.1 ≠ I₀ ∧ p.1 ≠ C₀ ∧ p.1 ≠ D) ∧ J n ys N₁) := by
  refine CL.loop (oI₀ := oI) (oC₀ := oC) (m₀ := m₀) (N₀ := (I₀, oI₀) :: (D, lst ys₀) :: N₀) turn_two1 (fun j m₂ N₁ => m₂ x = some v₀ ∧ ∃ ys N₂, N₁ = (I₀, oI₀) :: (D, lst ys) :: N₂ ∧ (∀ p ∈ N₂, p.1 ≠ I₀ ∧ p.1 ≠ D) ∧ J j ys N₂) W (fun a ha => ?_) hlive (lookup_relabel_local hx) (by simp [compEnvC, relabel, hkind]) rfl d2 (fun p hp => hp) (fun p hp => ?_) hns ⟨hv, ys₀, N₀, rfl, fun p hp => ⟨(hN p hp).1, (hN p hp).2.2⟩, hj⟩ (fun g h NN => hst h (NN (I, oI) (by first | ((repeat (first | exact List.Mem.head _ | refine List.mem_cons_of_mem _ ?_ | refine List.mem_append_right _ ?_)); done) | simp)).1 fun p hp => (NN p (by have := hJ 0 ys₀ N₀ hj p hp; (first | ((repeat (first | exact this | exact memH this | exact List.mem_append_left _ this | refine List.mem_cons_of_mem _ ?_ | refine List.mem_append_right _ ?_)); done) | simp [this]))).1) ?_ ?_
  · rcases hfp a ha with h | ⟨o, ho⟩
    · exact .inl h
    · exact .inr ⟨o, fun j m₂ N₁ ⟨_, ys, N₂, e, _, hj'⟩ => by rw [e]; exact List.mem_cons_of_mem _ (List.mem_cons_of_mem _ (hJ j ys N₂ hj' _ ho))⟩
  · rcases List.mem_cons.mp hp with rfl | hp
    rotate_left 1
    rcases List.mem_cons.mp hp with rfl | hp
    rotate_right 1
    · exact ⟨d1.symm, d4⟩
    · exact ⟨d3.symm, d6.symm⟩
    · exact ⟨hI p hp, (hN p hp).2.1⟩
  · rintro j v m₂ N₁ oI' oC' hjn hP ⟨hmx, ys, N₂, rfl, ho, hJ2⟩ off ns
    have ap : Apart N₂ [(I, oI'), (C₀, oC'), (I₀, oI₀), (D, lst ys)] := fun p hp r hr => by
      have o1 := off p (List.mem_cons_of_mem _ (List.mem_cons_of_mem _ hp))
      rcases List.mem_cons.mp hr with rfl | hr
      rotate_left 1
      rcases List.mem_cons.mp hr with rfl | hr
      rotate_right 1
      rotate_left 2
      rcases List.mem_cons.mp hr with rfl | hr
      rotate_right 2
      rotate_left 3
      rcases List.mem_singleton.mp hr with rfl
      rotate_right 3
      · exact o1.1
      · exact o1.2
      · exact (ho p hp).1
      · exact (ho p hp).2
    have h := turn j v ys N₂ [(I, oI'), (C₀, oC'), (I₀, oI₀), (D, lst ys)] oC' _ hjn hP hJ2 (by first | ((repeat (first | exact List.Mem.head _ | refine List.mem_cons_of_mem _ ?_ | refine List.mem_append_right _ ?_)); done) | simp) ns (by simp [setv, hxx, hmx]) (by simp [setv]) ap
    refine Wx.testsNil ?_
    rw [if_pos rfl]
    refine Wx.emit (ys := ys) (hz j ys N₂ hJ2) (Wx.mono h ?_)
    rintro y m'' N'' ⟨rfl, N₃, hs, ap3, j3⟩
    refine ⟨(I, oI') :: (C₀, oC') :: (I₀, oI₀) :: N₃, fun p hp => ?_, fun p hp => ?_, rfl, oC', _, (I₀, oI₀) :: (D, lst (ys ++ [y])) :: N₃, ns, fun p hp => ?_, fun p hp => ?_, by simp [setv, hxx, hmx], ys ++ [y], N₃, rfl, fun p hp => ⟨ap3 p hp (I₀, oI₀) (by first | ((repeat (first | exact List.Mem.head _ | refine List.mem_cons_of_mem _ ?_ | refine List.mem_append_right _ ?_)); done) | simp), ap3 p hp (D, lst ys) (by first | ((repeat (first | exact List.Mem.head _ | refine List.mem_cons_of_mem _ ?_ | refine List.mem_append_right _ ?_)); done) | simp)⟩, j3⟩
    · simp only [List.mem_cons] at hp
      exact hs p (by simp only [List.mem_append, List.mem_cons, List.not_mem_nil, or_false]; rcases hp with h | h | h | h | h <;> (first | ((repeat (first | exact h | exact memH h | exact List.mem_append_left _ h | refine List.mem_cons_of_mem _ ?_ | refine List.mem_append_right _ ?_)); done) | simp [h]))
    · rcases List.mem_cons.mp hp with rfl | hp
      rotate_left 1
      rcases List.mem_cons.mp hp with rfl | hp
      rotate_right 1
      rotate_left 2
      rcases List.mem_cons.mp hp with rfl | hp
      rotate_right 2
      · exact d3
      · exact d6
      · exact d5
      · exact ap3 p hp (D, lst ys) (by first | ((repeat (first | exact List.Mem.head _ | refine List.mem_cons_of_mem _ ?_ | refine List.mem_append_right _ ?_)); done) | simp)
    · have hp : p ∈ (I, oI') :: (C₀, oC') :: (I₀, oI₀) :: (D, lst (ys ++ [y])) :: N₃ := hp
      show p ∈ (D, lst (ys ++ [y])) :: (I, oI') :: (C₀, oC') :: (I₀, oI₀) :: N₃
      repeat (first | (rcases List.mem_cons.mp hp with h | hp; focus (repeat (first | exact h | exact memH h | exact List.mem_append_left _ h | refine List.mem_cons_of_mem _ ?_ | refine List.mem_append_right _ ?_))) | (rcases List.mem_append.mp hp with h | hp; focus (repeat (first | exact h | exact memH h | exact List.mem_append_left _ h | refine List.mem_cons_of_mem _ ?_ | refine List.mem_append_right _ ?_))) | (focus (repeat (first | exact hp | exact memH hp | exact List.mem_append_left _ hp | refine List.mem_cons_of_mem _ ?_ | refine List.mem_append_right _ ?_))) | exact absurd hp List.not_mem_nil)
    · rcases List.mem_cons.mp hp with rfl | hp
      rotate_left 1
      rcases List.mem_cons.mp hp with rfl | hp
      rotate_right 1
      · exact ⟨d1.symm, d4⟩
      · exact ⟨d3.symm, d6.symm⟩
      · exact ⟨ap3 p hp (I, oI') (by first | ((repeat (first | exact List.Mem.head _ | refine List.mem_cons_of_mem _ ?_ | refine List.mem_append_right _ ?_)); done) | simp), ap3 p hp (C₀, oC') (by first | ((repeat (first | exact List.Mem.head _ | refine List.mem_cons_of_mem _ ?_ | refine List.mem_append_right _ ?_)); done) | simp)⟩
  · rintro m₂ N₁ oC' ⟨hmx, ys, N₂, rfl, ho, hJ2⟩ off ns
    exact ⟨ys, oC', m₂, N₂, ns, fun _ h => h, fun p hp => ⟨(ho p hp).1, (off p (List.mem_cons_of_mem _ (List.mem_cons_of_mem _ hp))).2, (ho p hp).2⟩, hJ2⟩
/-- the start of the clause behind, from its list -/
theorem Wx.emit2 {e iter : Expr} {acc : Value} {n : Nat} {P : Nat → Value → Prop} {objs : Led} {C : Map → Led → Prop} {z : Value} (hit : XE b k en m N iter (IsV z)) (hsrc : Srcs b k N z n P objs) (hs : ∀ v, foldedSetIterable iter en v = pure v)
    (h : ∀ (I : Addr) (oI : Obj) (fp : List Addr) (St : Nat → Heap → Prop), Walks prog w (b.A k) I fp [I] n P St → (∀ a ∈ fp, a = I ∨ ∃ o, (a, o) ∈ objs) → (∀ i h, St i h → ∃ o, h.get? I = some o) → (∀ h, h.get? I = some oI → (∀ p ∈ objs, h.get? p.1 = some p.2) → St 0 h) → (∀ p ∈ N, p.1 ≠ I) →
      CL b k m ((I, oI) :: N) (.compStart e 1 (.ref I) acc en) (fun N' => C m N')) : Wx b k m N (emit2 e iter acc en) (fun _ m' N' => C m' N') := fun s Q F NN hQ => by
  unfold Mine.emit2
  refine wpAny_bind (hit s _ F NN fun v tk pv => ?_)
  cases pv
  refine wpAny_bind (wpAny_standAt (wpAny_bind (wpAny_of_eq (hs z) (wpAny_bind (wpAny_holding (hsrc.2 m { s with toks := tk } _ F NN fun oI St fp W hfp hlive hfr st => ?_))))))
  have up : ∀ a o, s.heap.get? a = some o → (s.heap.push oI).get? a = some o := fun a o q => Heap.get?_push_of_some _ q
  have hst := W_start (s := { s with toks := tk }) W rfl hfp hfr st NN hsrc.1
  have N₂ : News F.g b.L (s.heap.push oI) ((s.heap.objs.size, oI) :: N) := fun p hp => by
    rcases List.mem_cons.mp hp with rfl | hp
    · exact ⟨Heap.get?_push_size _ hfr, Nat.ne_of_gt F.ns.lt, next_is_new F.fr⟩
    · exact ⟨up _ _ (NN p hp).1, (NN p hp).2⟩
  refine wpAny_bind (wpAny_runOwn ?_)
  exact h s.heap.objs.size oI fp St W hfp hlive hst (fun p hp => Nat.ne_of_lt (Heap.lt_size (NN p hp).1)) { s with heap := s.heap.push oI, toks := tk } _ (F.of (F.fr.keeps up)) N₂ fun N' h' tk' c F' NN' => wpAny_pure (hQ () m N' h' tk' c F' NN')
end
end Mine
end
section
open PySem PySem.W PyProof.Rows PySem.Calls PyProof.Rows.LCg
set_option maxRecDepth 100000
set_option maxHeartbeats 8000000
set_option linter.unusedVariables false
namespace Mine
section
variable {w : World} {dn : Nat} {b : Bs w dn} {k : Cd} {m : Map} {N : Led} {en : Env}
theorem CL.two {elt iter iter' : Expr} {scope : Scope} {cl : List (Str × Addr)} {pos px px' : Pos} {x x' : Str} {n n' : Nat} {P P' : Nat → Value → Prop} {objs objs' : Led} {z : Value} {I C₀ D : Addr} {oI oC : Obj} {m₀ : Map} {fp : List Addr} {St : Nat → Heap → Prop} (J : Nat → Nat → List Value → Led → Prop)
    (W : Walks prog w (b.A k) I fp [I] n P St) (hfp : ∀ a ∈ fp, a = I ∨ ∃ o, (a, o) ∈ objs) (hlive : ∀ i h, St i h → ∃ o, h.get? I = some o) (hst : ∀ h, (h.get? I = some oI) → (∀ p ∈ objs, h.get? p.1 = some p.2) → St 0 h)
    (hkind : scope.kind = .function) (hx : scope.names.lookup x = some .local) (hx' : scope.names.lookup x' = some .local) (hxx : x ≠ x') (hz : ∀ i j ys N₁, J i j ys N₁ → ys.length ≤ 10000) (hs : ∀ v C₀, foldedSetIterable iter' (compEnvC scope cl C₀ en) v = pure v)
    (hI : ∀ p ∈ N, p.1 ≠ I) (hD : ∀ p ∈ (I, oI) :: N, p.1 < D) (hDC : D < C₀) (hns : NsObj oC m₀) (hj : J 0 0 [] N) (hJ : ∀ i j ys N₁, J i j ys N₁ → (∀ p ∈ objs, p ∈ N₁) ∧ ∀ p ∈ objs', p ∈ N₁)
    (it2 : ∀ i ys N₁ X, J i 0 ys N₁ → XE b k (compEnvC scope cl C₀ en) m (X ++ N₁) iter' (IsV z) ∧ ∀ N₂, (∀ p ∈ N₁, p ∈ N₂) → Srcs b k N₂ z n' P' objs')
    (turn : ∀ i j v v' ys N₁ X oC m₂, i < n → j < n' → P i v → P' j v' → J i j ys N₁ → (C₀, oC) ∈ X → NsObj oC m₂ → m₂ x = some v → m₂ x' = some v' → Apart N₁ X → WXE b k (compEnvC scope cl C₀ en) m (X ++ N₁) elt (fun y m'' N'' => Cm X m (J i (j + 1) (ys ++ [y])) m'' N''))
    (step : ∀ i ys N₁, J i n' ys N₁ → J (i + 1) 0 ys N₁) :
    CL b k m ((C₀, oC) :: (D, lst []) :: (I, oI) :: N) (.compLoop (.ListComp elt [⟨.Name x px, iter, [], 0⟩, ⟨.Name x' px', iter', [], 0⟩] scope pos) 0 (.ref I) (.ref D) (compEnvC scope cl C₀ en))
      (fun N' => ∃ ys oC m₂ N₁, NsObj oC m₂ ∧ (∀ p ∈ (C₀, oC) :: (D, lst ys) :: N₁, p ∈ N') ∧ (∀ p ∈ N₁, p.1 ≠ D ∧ p.1 ≠ C₀) ∧ J n 0 ys N₁) := by
  have hID : I < D := hD _ (List.mem_cons_self ..)
  have lt : ∀ a c : Addr, a < c → a ≠ c := fun a c h => Nat.ne_of_lt h
  refine CL.loop (oI₀ := oI) (oC₀ := oC) (m₀ := m₀) (N₀ := (D, lst []) :: N) turn_two0 (fun i _ N₁ => ∃ ys N₂, N₁ = (D, lst ys) :: N₂ ∧ (∀ p ∈ N₂, p.1 ≠ D) ∧ J i 0 ys N₂) W (fun a ha => ?_) hlive (lookup_relabel_local hx) (by simp [compEnvC, relabel, hkind]) rfl (lt _ _ (Nat.lt_trans hID hDC)) (fun p hp => ?_) (fun p hp => ?_) hns ⟨[], N, rfl, fun p hp => lt _ _ (hD p (List.mem_cons_of_mem _ hp)), hj⟩ (fun g h NN => hst h (NN (I, oI) (by first | ((repeat (first | exact List.Mem.head _ | refine List.mem_cons_of_mem _ ?_ | refine List.mem_append_right _ ?_)); done) | simp)).1 fun p hp => (NN p (by have := (hJ 0 0 [] N hj).1 p hp; (first | ((repeat (first | exact this | exact memH this | exact List.mem_append_left _ this | refine List.mem_cons_of_mem _ ?_ | refine List.mem_append_right _ ?_)); done) | simp [this]))).1) ?_ ?_
  · rcases hfp a ha with h | ⟨o, ho⟩
    · exact .inl h
    · exact .inr ⟨o, fun i m₂ N₁ ⟨ys, N₂, e, _, hj'⟩ => by rw [e]; exact List.mem_cons_of_mem _ ((hJ i 0 ys N₂ hj').1 _ ho)⟩
  · simp only [List.mem_cons] at hp ⊢
    rcases hp with h | h | h | h
    · exact .inr (.inr (.inl h))
    · exact .inl h
    · exact .inr (.inl h)
    · exact .inr (.inr (.inr h))
  · rcases List.mem_cons.mp hp with rfl | hp
    · exact ⟨(lt _ _ hID).symm, lt _ _ hDC⟩
    · exact ⟨hI p hp, lt _ _ (Nat.lt_trans (hD p (List.mem_cons_of_mem _ hp)) hDC)⟩
  · rintro i v m₂ N₁ oI' oC' hin hP ⟨ys, N₂, rfl, hoD, hJ2⟩ off ns
    have hmx : setv m₂ x v x = some v := by simp [setv]
    generalize setv m₂ x v = m3 at ns hmx
    have off : ∀ p ∈ N₂, p.1 ≠ I ∧ p.1 ≠ C₀ := fun p hp => off p (List.mem_cons_of_mem _ hp)
    refine Wx.testsNil ?_
    rw [if_pos rfl]
    obtain ⟨e1, e2⟩ := it2 i ys N₂ [(I, oI'), (C₀, oC'), (D, lst ys)] hJ2
    refine Wx.emit2 (z := z) e1 (e2 _ fun p hp => List.mem_append_right [(I, oI'), (C₀, oC'), (D, lst ys)] hp) (fun v => hs v C₀) fun I' oI2 fp' St' W' hfp' hlive' hst' hI' => ?_
    have f1 : I ≠ I' := hI' (I, oI') (by first | ((repeat (first | exact List.Mem.head _ | refine List.mem_cons_of_mem _ ?_ | refine List.mem_append_right _ ?_)); done) | simp)
    have f2 : C₀ ≠ I' := hI' (C₀, oC') (List.mem_cons_of_mem _ (List.mem_cons_self ..))
    have f3 : D ≠ I' := hI' (D, lst ys) (List.mem_cons_of_mem _ (List.mem_cons_of_mem _ (List.mem_cons_self ..)))
    have inn := CL.inner (b := b) (k := k) (m := m) (en := en) (iter := iter) (iter' := iter') (pos := pos) (px := px) (px' := px') (cl := cl) (x := x) (v₀ := v) (oI₀ := oI') (I₀ := I) (ys₀ := ys) (N₀ := N₂) (J i) W' hfp' hlive' hst' hkind hx' hxx (hz i) f1.symm f2.symm f3.symm (lt _ _ (Nat.lt_trans hID hDC)) (lt _ _ hID) (lt _ _ hDC).symm (fun p hp => hI' p (List.mem_append_right [(I, oI'), (C₀, oC'), (D, lst ys)] hp)) (fun p hp => ⟨(off p hp).1, (off p hp).2, hoD p hp⟩) ns hmx hJ2 (fun j ys N₁ h => (hJ i j ys N₁ h).2) (fun j v' ys N₁ X oC m₂ hj hP' hJ' hX hns' h1 h2 ap => turn i j v v' ys N₁ X oC m₂ hin hj hP hP' hJ' hX hns' h1 h2 ap)
    intro s R F NN hR
    have NN2 : News F.g b.L s.heap ((I', oI2) :: (C₀, oC') :: (I, oI') :: (D, lst ys) :: N₂) := News.sub NN fun p hp => by
      have hp : p ∈ (I', oI2) :: (C₀, oC') :: (I, oI') :: (D, lst ys) :: N₂ := hp
      show p ∈ (I', oI2) :: (I, oI') :: (C₀, oC') :: (D, lst ys) :: N₂
      repeat (first | (rcases List.mem_cons.mp hp with h | hp; focus (repeat (first | exact h | exact memH h | exact List.mem_append_left _ h | refine List.mem_cons_of_mem _ ?_ | refine List.mem_append_right _ ?_))) | (rcases List.mem_append.mp hp with h | hp; focus (repeat (first | exact h | exact memH h | exact List.mem_append_left _ h | refine List.mem_cons_of_mem _ ?_ | refine List.mem_append_right _ ?_))) | (focus (repeat (first | exact hp | exact memH hp | exact List.mem_append_left _ hp | refine List.mem_cons_of_mem _ ?_ | refine List.mem_append_right _ ?_))) | exact absurd hp List.not_mem_nil)
    refine start1 (inn s R F NN2 fun N' h' tk ⟨ys', oC2, m4, N₃, q1, q2, q3, q4⟩ F' NN' => hR N' h' tk ⟨rfl, oC2, m4, (D, lst ys') :: N₃, q1, fun p hp => q2 p ?_, fun p hp => ?_, ys', N₃, rfl, fun p hp => (q3 p hp).2.2, step i ys' N₃ q4⟩ F' NN') fun Q E hq => W'.self 0 s Q E (hst' _ (NN2 _ (List.mem_cons_self ..)).1 fun p hp => (NN2 p (by have := (hJ i 0 ys N₂ hJ2).2 p hp; (first | ((repeat (first | exact this | exact memH this | exact List.mem_append_left _ this | refine List.mem_cons_of_mem _ ?_ | refine List.mem_append_right _ ?_)); done) | simp [this]))).1) hq
    · have hp : p ∈ (I, oI') :: (C₀, oC2) :: (D, lst ys') :: N₃ := hp
      repeat (first | (rcases List.mem_cons.mp hp with h | hp; focus (repeat (first | exact h | exact memH h | exact List.mem_append_left _ h | refine List.mem_cons_of_mem _ ?_ | refine List.mem_append_right _ ?_))) | (rcases List.mem_append.mp hp with h | hp; focus (repeat (first | exact h | exact memH h | exact List.mem_append_left _ h | refine List.mem_cons_of_mem _ ?_ | refine List.mem_append_right _ ?_))) | (focus (repeat (first | exact hp | exact memH hp | exact List.mem_append_left _ hp | refine List.mem_cons_of_mem _ ?_ | refine List.mem_append_right _ ?_))) | exact absurd hp List.not_mem_nil)
    · rcases List.mem_cons.mp hp with rfl | hp
      · exact ⟨(lt _ _ hID).symm, lt _ _ hDC⟩
      · exact ⟨(q3 p hp).1, (q3 p hp).2.1⟩
  · rintro m₂ N₁ oC' ⟨ys, N₂, rfl, hoD, hJ2⟩ off ns
    exact ⟨ys, oC', m₂, N₂, ns, fun _ h => h, fun p hp => ⟨hoD p hp, (off p (List.mem_cons_of_mem _ hp)).2⟩, hJ2⟩
/-- a list made by two clauses -/
theorem WXE.comp2 {elt iter iter' : Expr} {scope : Scope} {cl : List (Str × Addr)} {pos px px' : Pos} {x x' : Str} {n n' : Nat} {P P' : Nat → Value → Prop} {objs objs' : Led} {z : Value} {C : Value → Map → Led → Prop} (J : Nat → Nat → List Value → Led → Prop)
    (he : WXE b k en m N iter (fun v m' N' => m' = m ∧ Srcs b k N' v n P objs ∧ J 0 0 [] N')) (hJ : ∀ i j ys N₁, J i j ys N₁ → (∀ p ∈ objs, p ∈ N₁) ∧ ∀ p ∈ objs', p ∈ N₁) (hz : ∀ i j ys N₁, J i j ys N₁ → ys.length ≤ 10000)
    (it2 : ∀ i ys N₁ X C₀, J i 0 ys N₁ → XE b k (compEnvC scope cl C₀ en) m (X ++ N₁) iter' (IsV z) ∧ ∀ N₂, (∀ p ∈ N₁, p ∈ N₂) → Srcs b k N₂ z n' P' objs')
    (turn : ∀ i j v v' ys N₁ X C₀ oC m₂, i < n → j < n' → P i v → P' j v' → J i j ys N₁ → (C₀, oC) ∈ X → NsObj oC m₂ → m₂ x = some v → m₂ x' = some v' → Apart N₁ X → WXE b k (compEnvC scope cl C₀ en) m (X ++ N₁) elt (fun y m'' N'' => Cm X m (J i (j + 1) (ys ++ [y])) m'' N''))
    (step : ∀ i ys N₁, J i n' ys N₁ → J (i + 1) 0 ys N₁) (done : ∀ D ys N₁, J n 0 ys N₁ → (∀ p ∈ N₁, p.1 ≠ D) → C (.ref D) m ((D, lst ys) :: N₁))
    (hclos : autoParam (closureFor scope en = pure cl) tUn) (hcell : autoParam (∀ y ∈ scope.names, y.2 ≠ .cell) tDec) (hkind : autoParam (scope.kind = .function) tRfl) (hnames : autoParam (∀ y ∈ scope.names, y.2 = .local → scope.names.lookup y.1 = some .local) tDec) (hx : autoParam (scope.names.lookup x = some .local) tRfl) (hx' : autoParam (scope.names.lookup x' = some .local) tRfl) (hxx : autoParam (x ≠ x') tDec)
    (hs : autoParam (∀ x, foldedSetIterable iter en x = pure x) tIRfl) (hs' : autoParam (∀ v C₀, foldedSetIterable iter' (compEnvC scope cl C₀ en) v = pure v) tIIRfl) : WXE b k en m N (.ListComp elt [⟨.Name x px, iter, [], 0⟩, ⟨.Name x' px', iter', [], 0⟩] scope pos) C := fun s Q F N' hQ => by
  rw [eval_ListComp]
  refine wpAny_comprehension_free (use := none) rfl hs hclos hkind hnames (he s _ F N' fun v m' N₁ h₁ tk₁ c F₁ NN₁ => ?_)
  obtain ⟨rfl, ⟨hsub, hit⟩, hj⟩ := c
  refine hit _ _ _ F₁ NN₁ fun oI St fp W hfp hlive hfr st => ?_
  have up : ∀ a o, h₁.get? a = some o → (h₁.push oI).get? a = some o := fun a o e => Heap.get?_push_of_some _ e
  have N₂ : News F₁.g b.L (h₁.push oI) ((h₁.objs.size, oI) :: N₁) := fun p hp => by
    rcases List.mem_cons.mp hp with rfl | hp
    · exact ⟨Heap.get?_push_size _ hfr, Nat.ne_of_gt F₁.ns.lt, next_is_new F₁.fr⟩
    · exact ⟨up _ _ (NN₁ p hp).1, (NN₁ p hp).2⟩
  have hst := W_start (s := { s with heap := h₁, toks := tk₁ }) W rfl hfp hfr st NN₁ hsub
  refine blk (I := h₁.objs.size) (oI := oI) (N := N₁) (Fin := J n 0) codeAny_compStart_list hcell hkind (F₁.of (F₁.fr.keeps up)) N₂ (fun s' Q' E' g' NN q => W.self 0 s' Q' E' (hst _ (NN _ (List.mem_cons_self ..)).1 fun p hp => (NN _ (List.mem_cons_of_mem _ (hsub p hp))).1) q) (fun C₀ D oC hD hDC hns => ?_) ?_
  · exact CL.two (px := px) (px' := px') (iter := iter) (pos := pos) J W hfp hlive hst hkind hx hx' hxx hz hs' (fun p hp => Nat.ne_of_lt (Heap.lt_size (NN₁ p hp).1)) hD hDC hns hj hJ (fun i ys N₁ X h => it2 i ys N₁ X C₀ h) (fun i j v v' ys N₁ X oC m₂ => turn i j v v' ys N₁ X C₀ oC m₂) step
  · intro D C₀ ys oC m₂ N₃ h tk hDC F₃ NN₃ ns off fin
    refine ⟨m₂, ns.ns (NN₃ _ (List.mem_cons_self ..)).1, fun h'' hs'' => ?_⟩
    have zC := (NN₃ _ (List.mem_cons_self ..)).2
    refine hQ (.ref D) m' _ h'' tk (done D ys N₃ fin fun p hp => (off p hp).1) (F₃.of (F₃.fr.change hs'' zC.1 zC.2)) fun p hp => ?_
    have z := NN₃ p (List.mem_cons_of_mem _ hp)
    refine ⟨hs''.extBut _ _ ?_ z.1, z.2⟩
    rcases List.mem_cons.mp hp with rfl | hp
    · exact hDC
    · exact (off p hp).2
end
end Mine
end
section
open PySem PySem.W PyProof.Rows PySem.Calls PyProof.Rows.LCg
set_option maxRecDepth 100000
set_option maxHeartbeats 8000000
set_option linter.unusedVariables false
namespace Mine
section
variable {w : World} {dn : Nat} {b : Bs w dn} {k : Cd} {m : Map} {N : Led} {en : Env}
theorem newEnvK {M : Model} {A : Around} {E : Value → Shared → Prop} {s : Shared} {scope : Scope} {globals : Addr} {cl : List (Str × Addr)} {qual : Str} {Q : Env → Shared → Prop}
    (hQ : Q { scope := scope, locals := s.heap.objs.size, globals := globals, cells := cellsFrom (s.heap.objs.size + 1) scope.names cl, qual := qual, func := none, code := en.code, frame := en.frame, builtins := en.builtins } { s with heap := pushCells (s.heap.push { cls := .type "dict", data := .dict #[] }) scope.names }) :
    wpAny M A (newFunctionEnv scope globals cl [] qual none .none (some en)) Q E s := by
  simp only [newFunctionEnv, Option.isSome_some, if_true]
  refine wpAny_bind (wpAny_alloc ?_)
  refine wpAny_bind (wpAny_layCells _ (fun name kind cells => by cases hkc : kind == NameKind.cell <;> simp [hkc]) _ _ _ _ ?_)
  rw [show ({ s with heap := s.heap.push { cls := .type "dict", data := .dict #[] } } : Shared).heap.objs.size = s.heap.objs.size + 1 from Heap.size_push ..]
  exact wpAny_pure hQ
/-- the loop of a block of one clause whose name is a cell -/
theorem CL.oneK {elt iter : Expr} {scope : Scope} {cl : List (Str × Addr)} {pos px : Pos} {x : Str} {n : Nat} {P : Nat → Value → Prop} {objs : Led} {I C₀ D cK : Addr} {oI oC oK : Obj} {v₀ : Option Value} {m₀ : Map} {fp : List Addr} {St : Nat → Heap → Prop} (J : Nat → List Value → Led → Prop)
    (W : Walks prog w (b.A k) I fp [I] n P St) (hfp : ∀ a ∈ fp, a = I ∨ ∃ o, (a, o) ∈ objs) (hlive : ∀ i h, St i h → ∃ o, h.get? I = some o) (hst : ∀ h, (h.get? I = some oI) → (∀ p ∈ objs, h.get? p.1 = some p.2) → St 0 h)
    (hkind : scope.kind = .function) (hx : (compEnvC scope ((x, cK) :: cl) C₀ en).kindOf x = some .cell) (hn : n ≤ 1000)
    (hI : ∀ p ∈ N, p.1 ≠ I) (hD : ∀ p ∈ (I, oI) :: N, p.1 < D) (hDC : D < C₀) (hCK : C₀ < cK) (hns : NsObj oC m₀) (hoK : oK.data = .cell v₀) (hj : J 0 [] N) (hJ : ∀ i ys N₁, J i ys N₁ → ∀ p ∈ objs, p ∈ N₁)
    (turn : ∀ i v ys N₁ X oK, i < n → P i v → J i ys N₁ → (cK, oK) ∈ X → oK.data = .cell (some v) → Apart N₁ X → WXE b k (compEnvC scope ((x, cK) :: cl) C₀ en) m (X ++ N₁) elt (fun y m'' N'' => Cm X m (J (i + 1) (ys ++ [y])) m'' N'')) :
    CL b k m ((cK, oK) :: (C₀, oC) :: (D, lst []) :: (I, oI) :: N) (.compLoop (.ListComp elt [⟨.Name x px, iter, [], 0⟩] scope pos) 0 (.ref I) (.ref D) (compEnvC scope ((x, cK) :: cl) C₀ en))
      (fun N' => ∃ ys oC m₂ N₁, NsObj oC m₂ ∧ (∀ p ∈ (C₀, oC) :: (D, lst ys) :: N₁, p ∈ N') ∧ (∀ p ∈ N₁, p.1 ≠ D ∧ p.1 ≠ C₀) ∧ J n ys N₁) := by
  have hID : I < D := hD _ (List.mem_cons_self ..)
  have lt : ∀ a c : Addr, a < c → a ≠ c := fun a c h => Nat.ne_of_lt h
  have dIC := lt _ _ (Nat.lt_trans hID hDC)
  have dIK := lt _ _ (Nat.lt_trans (Nat.lt_trans hID hDC) hCK)
  have dDK := lt _ _ (Nat.lt_trans hDC hCK)
  have dCK := lt _ _ hCK
  have dDC := lt _ _ hDC
  have dID := lt _ _ hID
  intro s R F NN₀ hR
  refine codeAny_loop rfl (fun kk s' => ∃ h' tk i ys N₁ oI oK v, ∃ F : FrB b h' m, s' = { s with heap := h', toks := tk } ∧ i ≤ n ∧ kk = n + 1 - i ∧ St i h' ∧ News F.g b.L h' ((I, oI) :: (cK, oK) :: (D, lst ys) :: (C₀, oC) :: N₁) ∧ oK.data = .cell v ∧ (∀ p ∈ N₁, p.1 ≠ I ∧ p.1 ≠ cK ∧ p.1 ≠ D ∧ p.1 ≠ C₀) ∧ ys.length ≤ i ∧ J i ys N₁) (fun kk s' hI' => ?_) (n + 1)
    ⟨s.heap, s.toks, 0, [], N, oI, oK, v₀, F, rfl, Nat.zero_le _, rfl, hst _ (NN₀ (I, oI) (by first | ((repeat (first | exact List.Mem.head _ | refine List.mem_cons_of_mem _ ?_ | refine List.mem_append_right _ ?_)); done) | simp)).1 fun p hp => (NN₀ p (by have := hJ 0 [] N hj p hp; (first | ((repeat (first | exact this | exact memH this | exact List.mem_append_left _ this | refine List.mem_cons_of_mem _ ?_ | refine List.mem_append_right _ ?_)); done) | simp [this]))).1, News.sub NN₀ fun p hp => ?_, hoK, fun p hp => ⟨hI p hp, ?_, ?_, ?_⟩, Nat.le_refl _, hj⟩
  rotate_left
  · repeat (first | (rcases List.mem_cons.mp hp with h | hp; focus (repeat (first | exact h | exact memH h | exact List.mem_append_left _ h | refine List.mem_cons_of_mem _ ?_ | refine List.mem_append_right _ ?_))) | (rcases List.mem_append.mp hp with h | hp; focus (repeat (first | exact h | exact memH h | exact List.mem_append_left _ h | refine List.mem_cons_of_mem _ ?_ | refine List.mem_append_right _ ?_))) | (focus (repeat (first | exact hp | exact memH hp | exact List.mem_append_left _ hp | refine List.mem_cons_of_mem _ ?_ | refine List.mem_append_right _ ?_))) | exact absurd hp List.not_mem_nil)
  · exact lt _ _ (Nat.lt_trans (Nat.lt_trans (hD p (List.mem_cons_of_mem _ hp)) hDC) hCK)
  · exact lt _ _ (hD p (List.mem_cons_of_mem _ hp))
  · exact lt _ _ (Nat.lt_trans (hD p (List.mem_cons_of_mem _ hp)) hDC)
  obtain ⟨h', tk, i, ys, N₁, oI, oK, v₁, F', rfl, hi, rfl, hst', NN, hoK', off', hyl, hJ'⟩ := hI'
  show wpAny _ (b.A k) ((compTurn (.ListComp elt [⟨.Name x px, iter, [], 0⟩] scope pos) 0 (.ref I) (.ref D) (compEnvC scope ((x, cK) :: cl) C₀ en)).onRaise (fun x => do noteFrame x _; theTreesLotGoes x)) _ _ _
  refine wpAny_noted (turn_one _ _ _ ?_)
  have eI := NN (I, oI) (List.mem_cons_self ..)
  have eK := NN (cK, oK) (List.mem_cons_of_mem _ (List.mem_cons_self ..))
  have hKf : cK ∉ fp := fun hm => by
    rcases hfp _ hm with e | ⟨o, ho⟩
    · exact dIK e.symm
    · exact (off' _ (hJ i ys N₁ hJ' _ ho)).2.1 rfl
  by_cases hlt : i < n
  · refine W.item i _ _ _ hlt hst' fun v h₂ tk₂ hPv hst₂ hk₂ => ?_
    refine wpAny_assign_Name (wpAny_storeName_cell (c := cK) (v₀ := v₁) (by exact hkind) hx (by simp [compEnvC]) ⟨oK, hk₂ _ _ (by simpa using dIK.symm) eK.1, hoK'⟩ fun h₃ hv₃ hs₃ => ?_)
    obtain ⟨oK', heK, hdK⟩ := hv₃
    have hst₃ : St (i + 1) h₃ := W.frame _ _ _ hst₂ fun a ha o e => (hs₃.2 a fun q => hKf (q ▸ ha)).trans e
    obtain ⟨oI', heI⟩ := hlive _ _ hst₂
    have heI3 : h₃.get? I = some oI' := (hs₃.2 I dIK).trans heI
    have F₃ : Fr F'.g b.L h₃ m := (fr_but' F'.fr hk₂ (Ne.symm eI.2.1) eI.2.2).change hs₃ eK.2.1 eK.2.2
    have N₃ : News F'.g b.L h₃ ((I, oI') :: (cK, oK') :: (D, lst ys) :: (C₀, oC) :: N₁) := fun p hp => by
      rcases List.mem_cons.mp hp with rfl | hp
      · exact ⟨heI3, eI.2⟩
      · rcases List.mem_cons.mp hp with rfl | hp
        · exact ⟨heK, eK.2⟩
        · have z := NN p (List.mem_cons_of_mem _ (List.mem_cons_of_mem _ hp))
          have o : p.1 ≠ I ∧ p.1 ≠ cK := by
            rcases List.mem_cons.mp hp with rfl | hp
            · exact ⟨dID.symm, dDK⟩
            · rcases List.mem_cons.mp hp with rfl | hp
              · exact ⟨dIC.symm, dCK⟩
              · exact ⟨(off' p hp).1, (off' p hp).2.1⟩
          exact ⟨(hs₃.2 _ o.2).trans (hk₂ _ _ (by simpa using o.1) z.1), z.2⟩
    have ap : Apart N₁ [(I, oI'), (cK, oK'), (D, lst ys), (C₀, oC)] := fun p hp r hr => by
      have o1 := off' p hp
      rcases List.mem_cons.mp hr with rfl | hr
      rotate_left 1
      rcases List.mem_cons.mp hr with rfl | hr
      rotate_right 1
      rotate_left 2
      rcases List.mem_cons.mp hr with rfl | hr
      rotate_right 2
      rotate_left 3
      rcases List.mem_singleton.mp hr with rfl
      rotate_right 3
      · exact o1.1
      · exact o1.2.1
      · exact o1.2.2.1
      · exact o1.2.2.2
    have tn := turn i v ys N₁ [(I, oI'), (cK, oK'), (D, lst ys), (C₀, oC)] oK' hlt hPv hJ' (by first | ((repeat (first | exact List.Mem.head _ | refine List.mem_cons_of_mem _ ?_ | refine List.mem_append_right _ ?_)); done) | simp) hdK ap
    have em : Wx b k m ([(I, oI'), (cK, oK'), (D, lst ys), (C₀, oC)] ++ N₁) (emit elt (.ref D) (compEnvC scope ((x, cK) :: cl) C₀ en)) (fun _ m' N' => m' = m ∧ ∃ y N₂, (∀ p ∈ N₂, p.1 ≠ I ∧ p.1 ≠ cK ∧ p.1 ≠ D ∧ p.1 ≠ C₀) ∧ J (i + 1) (ys ++ [y]) N₂ ∧ ∀ p ∈ (I, oI') :: (cK, oK') :: (D, lst (ys ++ [y])) :: (C₀, oC) :: N₂, p ∈ N') := by
      refine Wx.emit (C := fun m' N' => m' = m ∧ ∃ y N₂, (∀ p ∈ N₂, p.1 ≠ I ∧ p.1 ≠ cK ∧ p.1 ≠ D ∧ p.1 ≠ C₀) ∧ J (i + 1) (ys ++ [y]) N₂ ∧ ∀ p ∈ (I, oI') :: (cK, oK') :: (D, lst (ys ++ [y])) :: (C₀, oC) :: N₂, p ∈ N') (ys := ys) (by omega) (Wx.mono tn ?_)
      rintro y m'' N'' ⟨rfl, N₃, hs, ap3, j3⟩
      refine ⟨(I, oI') :: (cK, oK') :: (C₀, oC) :: N₃, fun p hp => ?_, fun p hp => ?_, rfl, y, N₃, fun p hp => ⟨ap3 p hp (I, oI') (by first | ((repeat (first | exact List.Mem.head _ | refine List.mem_cons_of_mem _ ?_ | refine List.mem_append_right _ ?_)); done) | simp), ap3 p hp (cK, oK') (by first | ((repeat (first | exact List.Mem.head _ | refine List.mem_cons_of_mem _ ?_ | refine List.mem_append_right _ ?_)); done) | simp), ap3 p hp (D, lst ys) (by first | ((repeat (first | exact List.Mem.head _ | refine List.mem_cons_of_mem _ ?_ | refine List.mem_append_right _ ?_)); done) | simp), ap3 p hp (C₀, oC) (by first | ((repeat (first | exact List.Mem.head _ | refine List.mem_cons_of_mem _ ?_ | refine List.mem_append_right _ ?_)); done) | simp)⟩, j3, fun p hp => ?_⟩
      · simp only [List.mem_cons] at hp
        exact hs p (by simp only [List.mem_append, List.mem_cons, List.not_mem_nil, or_false]; rcases hp with h | h | h | h | h <;> (first | ((repeat (first | exact h | exact memH h | exact List.mem_append_left _ h | refine List.mem_cons_of_mem _ ?_ | refine List.mem_append_right _ ?_)); done) | simp [h]))
      · rcases List.mem_cons.mp hp with rfl | hp
        rotate_left 1
        rcases List.mem_cons.mp hp with rfl | hp
        rotate_right 1
        rotate_left 2
        rcases List.mem_cons.mp hp with rfl | hp
        rotate_right 2
        · exact dID
        · exact dDK.symm
        · exact dDC.symm
        · exact ap3 p hp (D, lst ys) (by first | ((repeat (first | exact List.Mem.head _ | refine List.mem_cons_of_mem _ ?_ | refine List.mem_append_right _ ?_)); done) | simp)
      · repeat (first | (rcases List.mem_cons.mp hp with h | hp; focus (repeat (first | exact h | exact memH h | exact List.mem_append_left _ h | refine List.mem_cons_of_mem _ ?_ | refine List.mem_append_right _ ?_))) | (rcases List.mem_append.mp hp with h | hp; focus (repeat (first | exact h | exact memH h | exact List.mem_append_left _ h | refine List.mem_cons_of_mem _ ?_ | refine List.mem_append_right _ ?_))) | (focus (repeat (first | exact hp | exact memH hp | exact List.mem_append_left _ hp | refine List.mem_cons_of_mem _ ?_ | refine List.mem_append_right _ ?_))) | exact absurd hp List.not_mem_nil)
    refine wpAny_tests_nil ?_
    rw [if_pos rfl]
    refine wpAny_mono (em { s with heap := h₃, toks := tk₂ } (fun _ s₄ => ∃ kk', kk' < n + 1 - i ∧ ∃ h' tk i ys N₁ oI oK v, ∃ F : FrB b h' m, s₄ = { s with heap := h', toks := tk } ∧ i ≤ n ∧ kk' = n + 1 - i ∧ St i h' ∧ News F.g b.L h' ((I, oI) :: (cK, oK) :: (D, lst ys) :: (C₀, oC) :: N₁) ∧ oK.data = .cell v ∧ (∀ p ∈ N₁, p.1 ≠ I ∧ p.1 ≠ cK ∧ p.1 ≠ D ∧ p.1 ≠ C₀) ∧ ys.length ≤ i ∧ J i ys N₁) (F'.of F₃) N₃ fun _ m' N'' h₄ tk₄ c F₄ N₄ => ?_) (fun _ s₄ q => ⟨rfl, q⟩) fun _ _ e => e.elim
    obtain ⟨rfl, y, N₂, o2, j2, sub2⟩ := c
    have N₄' := News.sub N₄ sub2
    refine ⟨n + 1 - (i + 1), by omega, h₄, tk₄, i + 1, ys ++ [y], N₂, oI', oK', some v, F₄, rfl, hlt, rfl, ?_, N₄', hdK, o2, by simp; omega, j2⟩
    refine W.frame _ _ _ hst₃ fun a ha o e => ?_
    rcases hfp a ha with rfl | ⟨o', ho'⟩
    · rw [heI3] at e
      cases e
      exact (N₄' _ (List.mem_cons_self ..)).1
    · have m1 : ∀ {Z : Led} {a1 a2 a3 a4 : Addr × Obj}, (a, o') ∈ Z → (a, o') ∈ a1 :: a2 :: a3 :: a4 :: Z := fun h => List.mem_cons_of_mem _ (List.mem_cons_of_mem _ (List.mem_cons_of_mem _ (List.mem_cons_of_mem _ h)))
      have e1 := (N₃ _ (m1 (hJ i ys N₁ hJ' _ ho'))).1
      rw [e1] at e
      cases e
      exact (N₄' _ (m1 (hJ (i + 1) _ N₂ j2 _ ho'))).1
  · obtain rfl : i = n := Nat.le_antisymm hi (Nat.not_lt.mp hlt)
    refine W.done _ _ _ hst' fun h₂ tk₂ hk₂ => ?_
    refine hR ((D, lst ys) :: (C₀, oC) :: N₁) h₂ tk₂ ⟨ys, oC, m₀, N₁, hns, fun p hp => ?_, fun p hp => ⟨(off' p hp).2.2.1, (off' p hp).2.2.2⟩, hJ'⟩ (F'.of (fr_but' F'.fr hk₂ (Ne.symm eI.2.1) eI.2.2)) fun p hp => ?_
    · repeat (first | (rcases List.mem_cons.mp hp with h | hp; focus (repeat (first | exact h | exact memH h | exact List.mem_append_left _ h | refine List.mem_cons_of_mem _ ?_ | refine List.mem_append_right _ ?_))) | (rcases List.mem_append.mp hp with h | hp; focus (repeat (first | exact h | exact memH h | exact List.mem_append_left _ h | refine List.mem_cons_of_mem _ ?_ | refine List.mem_append_right _ ?_))) | (focus (repeat (first | exact hp | exact memH hp | exact List.mem_append_left _ hp | refine List.mem_cons_of_mem _ ?_ | refine List.mem_append_right _ ?_))) | exact absurd hp List.not_mem_nil)
    · have z := NN p (List.mem_cons_of_mem _ (List.mem_cons_of_mem _ hp))
      refine ⟨hk₂ _ _ ?_ z.1, z.2⟩
      rcases List.mem_cons.mp hp with rfl | hp
      · simpa using dID.symm
      · rcases List.mem_cons.mp hp with rfl | hp
        · simpa using dIC.symm
        · simpa using (off' p hp).1
/-- a name set to a list made by one clause whose name is a cell -/
theorem SX.compK {rest : List Stmt} {elt iter : Expr} {scope : Scope} {cl : List (Str × Addr)} {pos px py spos : Pos} {x y : Str} {n : Nat} {P : Nat → Value → Prop} {objs : Led} {C : Flow → Map → Led → Prop} (J : Nat → List Value → Led → Prop)
    (he : WE b k m N iter (fun v m' N' => m' = m ∧ Srcs b k N' v n P objs ∧ J 0 [] N')) (hJ : ∀ i ys N₁, J i ys N₁ → ∀ p ∈ objs, p ∈ N₁) (hn : n ≤ 1000)
    (turn : ∀ i v ys N₁ X C₀ cK oK, i < n → P i v → J i ys N₁ → (cK, oK) ∈ X → oK.data = .cell (some v) → Apart N₁ X → WXE b k (compEnvC scope ((x, cK) :: cl) C₀ (k.env b.L)) m (X ++ N₁) elt (fun y m'' N'' => Cm X m (J (i + 1) (ys ++ [y])) m'' N''))
    (done : ∀ D ys N₁, J n ys N₁ → (∀ p ∈ N₁, p.1 ≠ D) → SX b k (setv m y (.ref D)) ((D, lst ys) :: N₁) rest C)
    (hsw : autoParam (swapsWith (.ListComp elt [⟨.Name x px, iter, [], 0⟩] scope pos) (some (.Name y py)) spos.line (k.env b.L) = pure true) tRfl) (hy : autoParam ((k.env b.L).kindOf y = some .local) tRfl)
    (hclos : autoParam (closureFor scope (k.env b.L) = pure cl) tUn) (hcs : autoParam (∀ a, cellsFrom a scope.names cl = (x, a) :: cl) tIRfl) (hps : autoParam (∀ h, pushCells h scope.names = h.push { cls := .type "cell", data := .cell none }) tIRfl) (hkind : autoParam (scope.kind = .function) tRfl) (hnames : autoParam (∀ y ∈ scope.names, y.2 = .local → scope.names.lookup y.1 = some .local) tDec)
    (hx : autoParam (∀ cK C₀, (compEnvC scope ((x, cK) :: cl) C₀ (k.env b.L)).kindOf x = some .cell) tIIRfl)
    (hs : autoParam (∀ x, foldedSetIterable iter (k.env b.L) x = pure x) tIRfl) : SX b k m N (.Assign [.Name y py] (.ListComp elt [⟨.Name x px, iter, [], 0⟩] scope pos) spos :: rest) C :=
  SX.cons (C' := C) fun s Q F N' hQ => by
  rw [exec_Assign_Name_used _ _ _ _ hsw]
  refine wpAny_bind (wpAny_standAt (wpAny_bind ?_))
  show wpAny _ (b.A k) (do let _ ← comprehension (.ListComp elt [⟨.Name x px, iter, [], 0⟩] scope pos) scope (k.env b.L) _ (newList []) false (eval iter (k.env b.L)) (some (PySem.assign (.Name y py) (k.env b.L)))) _ _ s
  refine wpAny_bind (wpAny_mono (wpAny_comprehension_free (use := some (PySem.assign (.Name y py) (k.env b.L))) (Q := fun _ s' => Q .next s') rfl hs hclos hkind hnames (he s _ F N' fun v m' N₁ h₁ tk₁ c F₁ NN₁ => ?_)) (fun _ s' hq => wpAny_pure (wpAny_pure hq)) fun _ _ e => e)
  obtain ⟨rfl, ⟨hsub, hit⟩, hj⟩ := c
  refine hit _ _ _ F₁ NN₁ fun oI St fp W hfp hlive hfr st => ?_
  have up : ∀ a o, h₁.get? a = some o → (h₁.push oI).get? a = some o := fun a o e => Heap.get?_push_of_some _ e
  have N₂ : News F₁.g b.L (h₁.push oI) ((h₁.objs.size, oI) :: N₁) := fun p hp => by
    rcases List.mem_cons.mp hp with rfl | hp
    · exact ⟨Heap.get?_push_size _ hfr, Nat.ne_of_gt F₁.ns.lt, next_is_new F₁.fr⟩
    · exact ⟨up _ _ (NN₁ p hp).1, (NN₁ p hp).2⟩
  have hst := W_start (s := { s with heap := h₁, toks := tk₁ }) W rfl hfp hfr st NN₁ hsub
  have F₂ : Fr F₁.g b.L (h₁.push oI) m' := F₁.fr.keeps up
  generalize hI : h₁.objs.size = I at N₂ hst W hfp hlive
  generalize h₁.push oI = h2 at N₂ F₂
  -- the list
  have F₃ := F₂.push (lst [])
  have N₃ := News.push F₂ N₂ (lst []) rfl
  refine wpAny_newObj_type (s := { s with heap := h2, toks := tk₁ }) ?_
  have hD : ∀ p ∈ (I, oI) :: N₁, p.1 < h2.objs.size := fun p hp => Heap.lt_size (N₂ p hp).1
  generalize hDe : h2.objs.size = D at N₃ hD
  have hDs : (h2.push (lst [])).objs.size = D + 1 := by rw [Heap.size_push, hDe]
  have gD : ({ s with heap := h2, toks := tk₁ } : Shared).heap.objs.size = D := hDe
  show wpAny _ (b.A k) (newFunctionEnv scope (k.env b.L).globals cl [] (k.env b.L).qual none .none (some (k.env b.L))) _ _ { s with heap := h2.push (lst []), toks := tk₁ }
  generalize h2.push (lst []) = h3 at F₃ N₃ hDs
  refine newEnvK ?_
  rw [hcs, hps]
  have F₄ := F₃.push { cls := .type "dict", data := .dict #[] }
  have N₄ := News.push F₃ N₃ { cls := .type "dict", data := .dict #[] } rfl
  have ns4 := Heap.Ns.new h3 (.type "dict")
  have sz4 : (h3.push { cls := .type "dict", data := .dict #[] }).objs.size = h3.objs.size + 1 := Heap.size_push ..
  obtain ⟨oC, heC, hoC⟩ := ns_obj ns4
  generalize hCe : h3.objs.size = C₀ at N₄ ns4 heC sz4
  have gC : ({ s with heap := h3, toks := tk₁ } : Shared).heap.objs.size = C₀ := hCe
  have F₅ := F₄.push { cls := .type "cell", data := .cell none }
  have N₅ := News.push F₄ N₄ { cls := .type "cell", data := .cell none } rfl
  rw [sz4] at N₅
  have hDC : D < C₀ := by rw [← hCe, hDs]; exact Nat.lt_succ_self _
  have hns : NsObj ({ cls := .type "dict", data := .dict #[] } : Obj) (fun _ => none) := ⟨#[], 0, rfl, fun _ he => by simp at he, fun _ => rfl⟩
  show codeAny (model prog w) (b.A k) (.compStart (.ListComp elt [⟨.Name x px, iter, [], 0⟩] scope pos) 0 (.ref I) (.ref D) (compEnvC scope ((x, C₀ + 1) :: cl) C₀ (k.env b.L))) (compPost (model prog w) (b.A k) (fun _ _ => False) (some (PySem.assign (.Name y py) (k.env b.L))) (fun _ s' => Q .next s') (.ref D) C₀) _
  have loop := CL.oneK (b := b) (k := k) (m := m') (en := k.env b.L) (cl := cl) (px := px) (iter := iter) (pos := pos) (oK := { cls := .type "cell", data := .cell none }) J W hfp hlive hst hkind (hx (C₀ + 1) C₀) hn (fun p hp => by rw [← hI]; exact Nat.ne_of_lt (Heap.lt_size (NN₁ p hp).1)) hD hDC (Nat.lt_succ_self C₀) hns rfl hj hJ (fun i v ys N₁ X oK => turn i v ys N₁ X C₀ (C₀ + 1) oK) { s with heap := (h3.push { cls := .type "dict", data := .dict #[] }).push { cls := .type "cell", data := .cell none }, toks := tk₁ } (compPost (model prog w) (b.A k) (fun _ _ => False) (some (PySem.assign (.Name y py) (k.env b.L))) (fun _ s' => Q .next s') (.ref D) C₀) (F₁.of F₅) N₅ ?_
  · exact codeAny_compStart_list loop (W.self 0 _ _ _ (hst _ (N₅ (I, oI) (by first | ((repeat (first | exact List.Mem.head _ | refine List.mem_cons_of_mem _ ?_ | refine List.mem_append_right _ ?_)); done) | simp)).1 fun p hp => (N₅ p (by have := hsub p hp; (first | ((repeat (first | exact this | exact memH this | exact List.mem_append_left _ this | refine List.mem_cons_of_mem _ ?_ | refine List.mem_append_right _ ?_)); done) | simp [this]))).1) loop)
  rintro N' h tk ⟨ys, oC', m₂, N₃, ns, q2, off, fin⟩ F₃ NN₃'
  have NN₃ := News.sub NN₃' q2
  show wpAny _ (b.A k) (PySem.assign (.Name y py) (k.env b.L) (.ref D)) _ _ _
  refine wpAny_assign_Name (wpAny_storeName_local hy F₃.fr.ns (fun h' hn hs' => ?_) (by show (k.scope.kind == .class || (k.scope.kind == .module && b.L != mainGlobals)) = false; rw [k.fn]; rfl))
  have F₄ := F₃.fr.set hn hs'
  have NN₄ := NN₃.set hs'
  refine ⟨m₂, ns.ns (NN₄ _ (List.mem_cons_self ..)).1, fun h'' hs'' => ?_⟩
  have zC := (NN₄ _ (List.mem_cons_self ..)).2
  refine hQ .next _ _ h'' _ (done D ys N₃ fin fun p hp => (off p hp).1) (F₃.of (F₄.change hs'' zC.1 zC.2)) fun p hp => ?_
  have z := NN₄ p (List.mem_cons_of_mem _ hp)
  refine ⟨hs''.extBut _ _ ?_ z.1, z.2⟩
  rcases List.mem_cons.mp hp with rfl | hp
  · exact Nat.ne_of_lt hDC
  · exact (off p hp).2
end
end Mine
end
section
open PySem PySem.W PyProof.Rows PySem.Calls PyProof.Rows.LCg
set_option maxRecDepth 100000
set_option maxHeartbeats 8000000
set_option linter.unusedVariables false
namespace Mine
section
variable {w : World} {dn : Nat} {b : Bs w dn} {k : Cd} {m : Map} {N : Led} {en : Env}
/-- a list made by one clause, all chosen when its source is there -/
theorem WXE.comp1D {elt iter : Expr} {ifs : List Expr} {scope : Scope} {cl : List (Str × Addr)} {pos px : Pos} {x : Str} {n : Nat} {C : Value → Map → Led → Prop}
    (he : WXE b k en m N iter (fun v m' N' => m' = m ∧ ∃ (P : Nat → Value → Prop) (objs : Led) (J : Nat → List Value → Led → Prop), Srcs b k N' v n P objs ∧ J 0 [] N' ∧ (∀ i ys N₁, J i ys N₁ → ∀ p ∈ objs, p ∈ N₁) ∧
      (∀ i v ys N₁ X C₀ oC m₂, i < n → P i v → J i ys N₁ → (C₀, oC) ∈ X → NsObj oC m₂ → m₂ x = some v → Apart N₁ X → Wx b k m (X ++ N₁) (testsOf ifs (compEnvC scope cl C₀ en)) (fun ok m' N' => if ok = true then WXE b k (compEnvC scope cl C₀ en) m' N' elt (fun y m'' N'' => Cm X m (J (i + 1) (ys ++ [y])) m'' N'') else Cm X m (J (i + 1) ys) m' N')) ∧
      (∀ D ys N₁, J n ys N₁ → (∀ p ∈ N₁, p.1 ≠ D) → C (.ref D) m ((D, lst ys) :: N₁)))) (hn : n ≤ 1000)
    (hclos : autoParam (closureFor scope en = pure cl) tUn) (hcell : autoParam (∀ y ∈ scope.names, y.2 ≠ .cell) tDec) (hkind : autoParam (scope.kind = .function) tRfl) (hnames : autoParam (∀ y ∈ scope.names, y.2 = .local → scope.names.lookup y.1 = some .local) tDec) (hx : autoParam (scope.names.lookup x = some .local) tRfl)
    (hs : autoParam (∀ x, foldedSetIterable iter en x = pure x) tIRfl) : WXE b k en m N (.ListComp elt [⟨.Name x px, iter, ifs, 0⟩] scope pos) C := fun s Q F N' hQ => by
  rw [eval_ListComp]
  refine wpAny_comprehension_free (use := none) rfl hs hclos hkind hnames (he s _ F N' fun v m' N₁ h₁ tk₁ c F₁ NN₁ => ?_)
  obtain ⟨rfl, P, objs, J, ⟨hsub, hit⟩, hj, hJ, turn, done⟩ := c
  refine hit _ _ _ F₁ NN₁ fun oI St fp W hfp hlive hfr st => ?_
  have up : ∀ a o, h₁.get? a = some o → (h₁.push oI).get? a = some o := fun a o e => Heap.get?_push_of_some _ e
  have N₂ : News F₁.g b.L (h₁.push oI) ((h₁.objs.size, oI) :: N₁) := fun p hp => by
    rcases List.mem_cons.mp hp with rfl | hp
    · exact ⟨Heap.get?_push_size _ hfr, Nat.ne_of_gt F₁.ns.lt, next_is_new F₁.fr⟩
    · exact ⟨up _ _ (NN₁ p hp).1, (NN₁ p hp).2⟩
  have hst := W_start (s := { s with heap := h₁, toks := tk₁ }) W rfl hfp hfr st NN₁ hsub
  refine blk (I := h₁.objs.size) (oI := oI) (N := N₁) (Fin := J n) codeAny_compStart_list hcell hkind (F₁.of (F₁.fr.keeps up)) N₂ (fun s' Q' E' g' NN q => W.self 0 s' Q' E' (hst _ (NN _ (List.mem_cons_self ..)).1 fun p hp => (NN _ (List.mem_cons_of_mem _ (hsub p hp))).1) q) (fun C₀ D oC hD hDC hns => ?_) ?_
  · exact CL.one (px := px) (iter := iter) (pos := pos) J W hfp hlive hst hkind hx hn (fun p hp => Nat.ne_of_lt (Heap.lt_size (NN₁ p hp).1)) hD hDC hns hj hJ turn
  · intro D C₀ ys oC m₂ N₃ h tk hDC F₃ NN₃ ns off fin
    refine ⟨m₂, ns.ns (NN₃ _ (List.mem_cons_self ..)).1, fun h'' hs'' => ?_⟩
    have zC := (NN₃ _ (List.mem_cons_self ..)).2
    refine hQ (.ref D) m' _ h'' tk (done D ys N₃ fin fun p hp => (off p hp).1) (F₃.of (F₃.fr.change hs'' zC.1 zC.2)) fun p hp => ?_
    have z := NN₃ p (List.mem_cons_of_mem _ hp)
    refine ⟨hs''.extBut _ _ ?_ z.1, z.2⟩
    rcases List.mem_cons.mp hp with rfl | hp
    · exact hDC
    · exact (off p hp).2
end
theorem EqV.list' {N : Led} {a c : Addr} {vs us : List Value} {n n2 : Nat} (ha : (a, listOf vs.toArray n) ∈ N) (hc : (c, listOf us.toArray n2) ∈ N) (hl : vs.length = us.length) (he : ∀ (i : Nat) (x y : Value), vs[i]? = some x → us[i]? = some y → ∀ (A : Around) (s : Shared), SeqAt.EqAt A s x y true) : EqV N (.ref a) (.ref c) := by
  by_cases h : a = c
  · subst h
    exact fun A s _ _ => SeqAt.EqAt.same _
  · exact EqV.list ha hc hl (fun i x y e1 e2 A s _ => he i x y e1 e2 A s) h
theorem AreS.eq {vs us : List Value} {l : List Str} (h1 : AreS vs l) (h2 : AreS us l) (i : Nat) (x y : Value) (e1 : vs[i]? = some x) (e2 : us[i]? = some y) (A : Around) (s : Shared) : SeqAt.EqAt A s x y true := by
  have hi : i < l.length := h1.len ▸ (List.getElem?_eq_some_iff.mp e1).1
  obtain ⟨t, q1⟩ := h1.get (List.getElem?_eq_getElem hi)
  obtain ⟨u, q2⟩ := h2.get (List.getElem?_eq_getElem hi)
  rw [q1] at e1
  rw [q2] at e2
  cases e1
  cases e2
  have := SeqAt.EqAt.str_str (A := A) (s := s) l[i] t l[i] u
  rwa [beq_self_eq_true] at this
theorem AreI.eq {vs us : List Value} {l : List Int} (h1 : AreI vs l) (h2 : AreI us l) (i : Nat) (x y : Value) (e1 : vs[i]? = some x) (e2 : us[i]? = some y) (A : Around) (s : Shared) : SeqAt.EqAt A s x y true := by
  obtain ⟨a, q1, t, rfl⟩ := h1.get e1
  obtain ⟨c, q2, u, rfl⟩ := h2.get e2
  rw [q1] at q2
  cases q2
  have := SeqAt.EqAt.int_int (A := A) (s := s) a t a u
  rwa [beq_self_eq_true] at this
end Mine
end
section
open PySem PySem.W PyProof.Rows PySem.Calls
set_option maxRecDepth 100000
set_option maxHeartbeats 8000000
set_option linter.unusedVariables false
namespace Mine
/-- the name of a number -/
def nameI (x : Int) : Str := locName (langOf x) (encOf x)
theorem fmod15 (x : Int) : ∃ r : Nat, r < 15 ∧ x.fmod 15 = (r : Int) ∧ nameI x = nameI (r : Int) := by
  have h0 : x.fmod 15 = x % 15 := Int.fmod_eq_emod_of_nonneg x (by decide)
  refine ⟨(x % 15).toNat, by omega, by omega, ?_⟩
  have h1 : ((x % 15).toNat : Int) = x % 15 := by omega
  rw [h1]
  unfold nameI langOf encOf
  have e1 : x.fmod 5 = (x % 15).fmod 5 := by
    rw [Int.fmod_eq_emod_of_nonneg x (by decide), Int.fmod_eq_emod_of_nonneg (x % 15) (by decide)]
    omega
  have e2 : (x.fdiv 5).fmod 3 = ((x % 15).fdiv 5).fmod 3 := by
    rw [Int.fdiv_eq_ediv_of_nonneg x (by decide), Int.fdiv_eq_ediv_of_nonneg (x % 15) (by decide), Int.fmod_eq_emod_of_nonneg _ (by decide), Int.fmod_eq_emod_of_nonneg _ (by decide)]
    omega
  rw [e1, e2]
theorem names15 : ∀ r < 15, ∀ s < 15, nameI ((r : Nat) : Int) = nameI ((s : Nat) : Int) → r = s := by decide +kernel
theorem names15_len : ∀ r < 15, (nameI ((r : Nat) : Int)).length ≤ 100 := by decide +kernel
theorem names15_order : ∀ r < 15, ∀ s < 15, b2i ((nameI ((s : Nat) : Int)).cps.toList < (nameI ((r : Nat) : Int)).cps.toList) - b2i ((nameI ((r : Nat) : Int)).cps.toList < (nameI ((s : Nat) : Int)).cps.toList) = orderOf (nameI ((r : Nat) : Int)) (nameI ((s : Nat) : Int)) := by decide +kernel
theorem nameI_len (x : Int) : (nameI x).length ≤ 100 := by
  obtain ⟨r, h1, _, h3⟩ := fmod15 x
  rw [h3]; exact names15_len r h1
theorem nameI_order (x y : Int) : b2i ((nameI y).cps.toList < (nameI x).cps.toList) - b2i ((nameI x).cps.toList < (nameI y).cps.toList) = orderOf (nameI x) (nameI y) := by
  obtain ⟨r, h1, _, h3⟩ := fmod15 x
  obtain ⟨s, g1, _, g3⟩ := fmod15 y
  rw [h3, g3]; exact names15_order r h1 s g1
theorem nameI_inj {x y : Int} (h : nameI x = nameI y) : x.fmod 15 = y.fmod 15 := by
  obtain ⟨r, h1, h2, h3⟩ := fmod15 x
  obtain ⟨s, g1, g2, g3⟩ := fmod15 y
  rw [h3, g3] at h
  rw [h2, g2, names15 r h1 s g1 h]
/-- five numbers with names of their own -/
theorem five_nodup (xs : List Int) : ∀ acc : List Int, (acc.map (·.fmod 15)).Nodup → ((xs.foldl fiveF acc).map (·.fmod 15)).Nodup := by
  induction xs with
  | nil => exact fun _ h => h
  | cons x xs ih =>
    intro acc h
    refine ih _ ?_
    unfold fiveF
    split
    · rename_i q
      rw [List.map_append, List.nodup_append]
      refine ⟨h, by simp, fun a ha c hc e => ?_⟩
      simp at hc
      subst hc
      subst e
      exact q.2 ha
    · simpa using h
theorem five_full (xs : List Int) : ∀ acc : List Int, acc.length ≤ 5 → (xs.foldl fiveF acc).length = 5 ∨ ((∀ a ∈ acc, a.fmod 15 ∈ (xs.foldl fiveF acc).map (·.fmod 15)) ∧ ∀ x ∈ xs, x.fmod 15 ∈ (xs.foldl fiveF acc).map (·.fmod 15)) := by
  induction xs with
  | nil => exact fun acc _ => .inr ⟨fun a ha => List.mem_map.mpr ⟨a, ha, rfl⟩, fun x hx => (nomatch hx)⟩
  | cons x xs ih =>
    intro acc h
    rcases ih (fiveF acc x) (fiveF_len h) with h1 | ⟨h1, h2⟩
    · exact .inl h1
    · by_cases h5 : acc.length = 5
      · have e : fiveF acc x = acc := by
          unfold fiveF
          rw [if_neg fun q => by omega, List.append_nil]
        have key : ∀ (ys : List Int) (a : List Int), a.length = 5 → (ys.foldl fiveF a).length = 5 := by
          intro ys
          induction ys with
          | nil => exact fun _ h => h
          | cons y ys ih2 =>
            intro a ha
            refine ih2 _ ?_
            unfold fiveF
            rw [if_neg fun q => by omega, List.append_nil]
            exact ha
        left
        show (xs.foldl fiveF (fiveF acc x)).length = 5
        rw [e]
        exact key xs acc h5
      · right
        refine ⟨fun a ha => h1 a (by unfold fiveF; exact List.mem_append_left _ ha), fun y hy => ?_⟩
        rcases List.mem_cons.mp hy with rfl | hy
        · by_cases hm : y.fmod 15 ∈ acc.map (·.fmod 15)
          · obtain ⟨a, ha, he⟩ := List.mem_map.mp hm
            rw [← he]
            exact h1 a (by unfold fiveF; exact List.mem_append_left _ ha)
          · exact h1 y (by unfold fiveF; rw [if_pos ⟨by omega, hm⟩]; exact List.mem_append_right _ (List.mem_singleton.mpr rfl))
        · exact h2 y hy
def tailL : List Int := [5, 7, 1, 4, 93, 11, 0, 12]
theorem five_ok (ns : List Int) : (fiveOf (ns ++ tailL)).length = 5 ∧ ((fiveOf (ns ++ tailL)).map (·.fmod 15)).Nodup := by
  have hn := five_nodup (ns ++ tailL) [] (by simp)
  refine ⟨?_, hn⟩
  rcases five_full (ns ++ tailL) [] (by simp) with h | ⟨_, h⟩
  · exact h
  · have hl := five_len (ns ++ tailL) [] (by simp)
    have sub : ∀ r ∈ tailL.map (·.fmod 15), r ∈ ((ns ++ tailL).foldl fiveF []).map (·.fmod 15) := fun r hr => by
      obtain ⟨x, hx, rfl⟩ := List.mem_map.mp hr
      exact h x (List.mem_append_right _ hx)
    have n8 : (tailL.map (·.fmod 15)).Nodup := by decide
    have := n8.length_le_of_subset sub
    rw [List.length_map, List.length_map] at this
    have h8 : tailL.length = 8 := rfl
    exfalso
    omega
theorem five_at {fs : List Int} (h : (fs.map (·.fmod 15)).Nodup) {i j : Nat} (hi : i < fs.length) (hj : j < fs.length) (e : nameI (fs.getD i 0) = nameI (fs.getD j 0)) : i = j := by
  have e1 := nameI_inj e
  have g : ∀ l, l < fs.length → (fs.map (·.fmod 15))[l]? = some ((fs.getD l 0).fmod 15) := fun l hl => by
    rw [List.getElem?_map, List.getD_eq_getElem?_getD, List.getElem?_eq_getElem hl]; rfl
  exact (List.getElem?_inj (by simpa using hi) h).mp ((g i hi).trans (by rw [e1]; exact (g j hj).symm))
/-- what each needs -/
def bitI (x : Int) (j : Nat) : Bool := ((x.fdiv 15).fdiv ((2 ^ j : Nat) : Int)).fmod 2 == 1
def needsF (fs : List Int) (k : Nat) : List Nat := (List.range k).filter fun j => bitI (fs.getD k 0) j
theorem needsF_ok (fs : List Int) : Needs (needsF fs) where
  lt := fun k _ j hj => List.mem_range.mp (List.mem_filter.mp hj).1
  nd := fun k _ => List.Nodup.sublist List.filter_sublist List.nodup_range
end Mine
end
section
open PySem PySem.W PyProof.Rows PySem.Calls PyProof.Rows.LCg
set_option maxRecDepth 100000
set_option maxHeartbeats 8000000
namespace Mine
set_option linter.unusedVariables false
/-- where the law's rows behind the first three begin -/
structure TailIn {w : World} (b : Bs w 10) (m : Map) (N : Led) (fs : List Int) (o1 o2 : Obj) (Dn Dd Dq : Addr) (yn yd yq : List Value) : Prop where
  len : fs.length = 5
  nd : (fs.map (·.fmod 15)).Nodup
  c1 : (b.L + 1 + 1 + 1, o1) ∈ N
  d1 : o1.data = .cell (some (.ref Dd))
  c2 : (b.L + 1 + 1, o2) ∈ N
  d2 : o2.data = .cell (some (.ref Dn))
  n1 : (Dn, listOf yn.toArray yn.length) ∈ N
  sn : AreS yn (fs.map nameI)
  n2 : (Dd, listOf yd.toArray yd.length) ∈ N
  sd : AreS yd (fs.map nameI)
  n3 : (Dq, listOf yq.toArray yq.length) ∈ N
  ql : yq.length = 5
  qn : ∀ (j : Nat) (v : Value), yq[j]? = some v → ∃ (a : Addr) (us : List Value) (n : Nat), v = .ref a ∧ (a, listOf us.toArray n) ∈ N ∧ AreN us (needsF fs j)
  mn : m (Str.ofString "needs") = some (.ref Dq)
/-- what they do, whatever they are written as -/
def LawT (j : Nat) (w : World) : Prop := ∀ {oc : Value} {od : Option Addr} {osl : Array (Option Value)} {name qual : Str} {params : Arguments} {body : List Stmt} {scope : Scope} {dV kV doc pm : Value} {an : Option Addr} {cdv ct : Value},
  (Kh w.params).lookup 238 = some ⟨oc, od, .func (fnOf name qual params body scope dV kV doc pm an cdv ct), osl⟩ → ∀ (hk : scope.kind = .function) (f : Addr) (q' : Str) (cd : Value) (b : Bs w 10) (Tu : b.Tu) (m : Map) (N : Led) (fs : List Int) (o1 o2 : Obj) (Dn Dd Dq : Addr) (yn yd yq : List Value),
    TailIn b m N fs o1 o2 Dn Dd Dq yn yd yq →
      SX b ⟨q', scope, f, cd, hk, fun L => cellsFrom (L + 1) scope.names []⟩ m N (body.drop j) (EndsC fun r _ => r = .bool true)
theorem LawT.intro {j : Nat} {w : World} {oc : Value} {od : Option Addr} {osl : Array (Option Value)} {name qual : Str} {params : Arguments} {body : List Stmt} {scope : Scope} {dV kV doc pm : Value} {an : Option Addr} {cdv ct : Value}
    (ho : (Kh w.params).lookup 238 = some ⟨oc, od, .func (fnOf name qual params body scope dV kV doc pm an cdv ct), osl⟩) (h : (Kh w.params).lookup 238 = some ⟨oc, od, .func (fnOf name qual params body scope dV kV doc pm an cdv ct), osl⟩ → ∀ (hk : scope.kind = .function) (f : Addr) (q' : Str) (cd : Value) (b : Bs w 10) (Tu : b.Tu) (m : Map) (N : Led) (fs : List Int) (o1 o2 : Obj) (Dn Dd Dq : Addr) (yn yd yq : List Value),
    TailIn b m N fs o1 o2 Dn Dd Dq yn yd yq →
      SX b ⟨q', scope, f, cd, hk, fun L => cellsFrom (L + 1) scope.names []⟩ m N (body.drop j) (EndsC fun r _ => r = .bool true)) : LawT j w := by
  intro oc' od' osl' name' qual' params' body' scope' dV' kV' doc' pm' an' cdv' ct' ho'
  have e := Option.some.inj (ho.symm.trans ho')
  unfold fnOf at e
  injection e with e1 e2 e3 e4
  injection e3 with e5
  injection e5 with b1 b2 b3 b4
  injection b4
  subst_vars
  exact h ho
theorem TailIn.off {w : World} {b : Bs w 10} {m : Map} {N : Led} {fs : List Int} {o1 o2 : Obj} {Dn Dd Dq : Addr} {yn yd yq : List Value} (I : TailIn b m N fs o1 o2 Dn Dd Dq yn yd yq) {aN : Addr} {vn : List Value} {n1 : Nat} (hm : (aN, listOf vn.toArray n1) ∈ N) (hs : AreS vn (fs.map nameI)) :
    OffIn (fun i => nameI (fs.getD i 0)) (needsF fs) aN Dq vn yq n1 yq.length N where
  ok := needsF_ok fs
  inj := fun i hi j hj e => five_at I.nd (by rw [I.len]; exact hi) (by rw [I.len]; exact hj) e
  an := hm
  vn := fun i hi => hs.get (by rw [List.getElem?_map, List.getD_eq_getElem?_getD, List.getElem?_eq_getElem (by rw [I.len]; exact hi)]; rfl)
  ad := I.n3
  vd := fun i hi => by
    obtain ⟨a, us, n, h1, h2, h3⟩ := I.qn i _ (List.getElem?_eq_getElem (by rw [I.ql]; exact hi))
    exact ⟨a, us, n, by rw [List.getElem?_eq_getElem (by rw [I.ql]; exact hi), h1], h2, h3⟩
theorem TailIn.sub {w : World} {b : Bs w 10} {m m' : Map} {N N' : Led} {fs : List Int} {o1 o2 : Obj} {Dn Dd Dq : Addr} {yn yd yq : List Value} (I : TailIn b m N fs o1 o2 Dn Dd Dq yn yd yq) (h : ∀ p ∈ N, p ∈ N') (hm : m' (Str.ofString "needs") = some (.ref Dq)) : TailIn b m' N' fs o1 o2 Dn Dd Dq yn yd yq where
  len := I.len
  nd := I.nd
  c1 := h _ I.c1
  d1 := I.d1
  c2 := h _ I.c2
  d2 := I.d2
  n1 := h _ I.n1
  sn := I.sn
  n2 := h _ I.n2
  sd := I.sd
  n3 := h _ I.n3
  ql := I.ql
  qn := fun j v e => by
    obtain ⟨a, us, n, h1, h2, h3⟩ := I.qn j v e
    exact ⟨a, us, n, h1, h _ h2, h3⟩
  mn := hm
/-- the signs of all pairs, row by row -/
def pairsTo (F : Int → Int → Int) (fs : List Int) (i j : Nat) : List Int := ((fs.take i).flatMap fun x => fs.map (F x)) ++ fs[i]?.elim [] fun x => (fs.take j).map (F x)
theorem pairsTo_zero {F : Int → Int → Int} {fs : List Int} : pairsTo F fs 0 0 = [] := by
  unfold pairsTo
  cases fs <;> simp
theorem pairsTo_succ {F : Int → Int → Int} {fs : List Int} {i j : Nat} {x y : Int} (hi : fs[i]? = some x) (hj : fs[j]? = some y) : pairsTo F fs i (j + 1) = pairsTo F fs i j ++ [F x y] := by
  unfold pairsTo
  rw [hi, List.take_add_one, hj, List.append_assoc]
  simp
theorem pairsTo_step {F : Int → Int → Int} {fs : List Int} {i : Nat} : pairsTo F fs i fs.length = pairsTo F fs (i + 1) 0 := by
  unfold pairsTo
  rw [List.take_length, List.take_zero, List.take_add_one, List.flatMap_append]
  cases fs[i]? <;> cases fs[i + 1]? <;> simp
theorem pairsTo_len {F : Int → Int → Int} {fs : List Int} {i j : Nat} (h : fs.length = 5) : (pairsTo F fs i j).length ≤ 100 := by
  unfold pairsTo
  have h1 : ((fs.take i).flatMap fun x => fs.map (F x)).length = (fs.take i).length * 5 := by
    generalize fs.take i = l
    induction l with
    | nil => rfl
    | cons a l ih => rw [List.flatMap_cons, List.length_append, ih, List.length_map, h, List.length_cons]; omega
  rw [List.length_append, h1, List.length_take, h]
  cases fs[i]? with
  | none => simp; omega
  | some x => simp [h]; omega
end Mine
end
section
open PySem PySem.W PyProof.Rows PySem.Calls PyProof.Rows.LCg
set_option maxRecDepth 100000
set_option maxHeartbeats 8000000
namespace Mine
set_option linter.unusedVariables false
theorem law_end (w : World) : LawT 5 w := by
  k_dflt (refine' LawT.intro ?k6 ?_; (case k6 => k_is); k_whole)
  intro _ hk f q' cd b Tu m N fs o1 o2 Dn Dd Dq yn yd yq I
  show SX b _ _ _ (_ :: _ :: []) _
  have lyn : yn.length = fs.length := I.sn.len.trans (by rw [List.length_map])
  have lyd : yd.length = fs.length := I.sd.len.trans (by rw [List.length_map])
  have l5 := I.len
  have at5 : ∀ {vs : List Value} {i : Nat} {v : Value}, AreS vs (fs.map nameI) → vs[i]? = some v → ∃ x t, fs[i]? = some x ∧ v = .str (nameI x) t := fun {vs} {i} {v} h e => by
    have hi : i < fs.length := by
      have := (List.getElem?_eq_some_iff.mp e).1
      have := h.len
      rw [List.length_map] at this
      omega
    obtain ⟨t, q⟩ := h.get (i := i) (x := nameI fs[i]) (by rw [List.getElem?_map, List.getElem?_eq_getElem hi]; rfl)
    rw [e] at q
    exact ⟨fs[i], t, List.getElem?_eq_getElem hi, Option.some.inj q⟩
  refine SX.abs fun C hC => ?_
  refine SX.ifW (WT.cmpW (WXE.comp2 (n := fs.length) (n' := fs.length) (P := fun i v => yn[i]? = some v) (P' := fun i v => yn[i]? = some v) (objs := [(Dn, listOf yn.toArray yn.length)]) (objs' := [(Dn, listOf yn.toArray yn.length)]) (z := .ref Dn) (fun i j ys N' => (∀ p ∈ N, p ∈ N') ∧ AreI ys (pairsTo (fun x y => orderOf (nameI x) (nameI y)) fs i j)) (Rd.wx (Ex.cell I.c2 I.d2 rfl rfl) fun v hv => by cases hv; exact ⟨rfl, lyn ▸ Srcs.list I.n1, fun p hp => hp, by rw [pairsTo_zero]; trivial⟩) (fun i j ys N' h => ⟨fun p hp => by rw [List.mem_singleton.mp hp]; exact h.1 _ I.n1, fun p hp => by rw [List.mem_singleton.mp hp]; exact h.1 _ I.n1⟩) (fun i j ys N' h => by have := h.2.len; have := pairsTo_len (F := fun x y => orderOf (nameI x) (nameI y)) (i := i) (j := j) l5; omega) (fun i ys N' X C₀ h => ⟨Ex.cell (List.mem_append_right _ (h.1 _ I.c2)) I.d2 rfl rfl, fun N2 hs => lyn ▸ Srcs.list (hs _ (h.1 _ I.n1))⟩) ?_ (fun i ys N' h => ?_) ?_))
  · rintro i j v v' ys N₁ X C₀ oC m₂ hi hj hP hP' ⟨hs, hy⟩ hX hns hv hv' ap
    obtain ⟨x, t, hx, rfl⟩ := at5 I.sn hP
    obtain ⟨y, u, hy', rfl⟩ := at5 I.sn hP'
    refine WE.fn (Ex.glob (by k_is)) (by k_is) (Ars.cons (XE.blk (List.mem_append_left _ hX) hns hv) (Ars.one (XE.blk (List.mem_append_left _ hX) hns hv'))) fun us hus => ?_
    obtain ⟨v1, us, rfl, hv1, v2, rfl, hv2⟩ := hus
    cases hv1
    cases hv2
    refine Wx.spec (strcoll_spec w _ _ t u _) fun r n' hr => ?_
    obtain ⟨hr, rfl⟩ := hr
    rw [nameI_order] at hr
    exact ⟨rfl, N₁, fun p hp => hp, ap, hs, pairsTo_succ (F := fun x y => orderOf (nameI x) (nameI y)) hx hy' ▸ hy.app hr⟩
  · exact ⟨h.1, pairsTo_step ▸ h.2⟩
  · rintro D1 y1 N₁ ⟨hs, hy1⟩ hD1
    have hsN : ∀ p ∈ N, p ∈ (D1, lst y1) :: N₁ := fun p hp => List.mem_cons_of_mem _ (hs p hp)
    have b1 : (D1, listOf y1.toArray y1.length) ∈ (D1, lst y1) :: N₁ := List.mem_cons_self ..
    have I1 := I.sub hsN I.mn
    generalize (D1, lst y1) :: N₁ = M at b1 I1 ⊢
    clear hsN hs hD1
    refine WXE.comp2 (n := fs.length) (n' := fs.length) (P := fun i v => yd[i]? = some v) (P' := fun i v => yd[i]? = some v) (objs := [(Dd, listOf yd.toArray yd.length)]) (objs' := [(Dd, listOf yd.toArray yd.length)]) (z := .ref Dd) (fun i j ys N' => (∀ p ∈ M, p ∈ N') ∧ AreI ys (pairsTo (fun x y => orderOf (nameI x) (nameI y)) fs i j)) (Rd.wx (Ex.cell I1.c1 I1.d1 rfl rfl) fun v hv => by cases hv; exact ⟨rfl, lyd ▸ Srcs.list I1.n2, fun p hp => hp, by rw [pairsTo_zero]; trivial⟩) (fun i j ys N' h => ⟨fun p hp => by rw [List.mem_singleton.mp hp]; exact h.1 _ I1.n2, fun p hp => by rw [List.mem_singleton.mp hp]; exact h.1 _ I1.n2⟩) (fun i j ys N' h => by have := h.2.len; have := pairsTo_len (F := fun x y => orderOf (nameI x) (nameI y)) (i := i) (j := j) l5; omega) (fun i ys N' X C₀ h => ⟨Ex.cell (List.mem_append_right _ (h.1 _ I1.c1)) I1.d1 rfl rfl, fun N2 hs => lyd ▸ Srcs.list (hs _ (h.1 _ I1.n2))⟩) ?_ (fun i ys N' h => ?_) ?_
    · rintro i j v v' ys N₁ X C₀ oC m₂ hi hj hP hP' ⟨hs, hy⟩ hX hns hv hv' ap
      obtain ⟨x, t, hx, rfl⟩ := at5 I.sd hP
      obtain ⟨y, u, hy', rfl⟩ := at5 I.sd hP'
      refine WE.fn (Ex.glob (by k_is)) (by k_is) (Ars.cons (XE.blk (List.mem_append_left _ hX) hns hv) (Ars.one (XE.blk (List.mem_append_left _ hX) hns hv'))) fun us hus => ?_
      obtain ⟨v1, us, rfl, hv1, v2, rfl, hv2⟩ := hus
      cases hv1
      cases hv2
      refine Wx.spec (order_spec w _ _ t u _ (nameI_len x) (nameI_len y)) fun r n' hr => ?_
      obtain ⟨hr, hn⟩ := hr
      exact ⟨rfl, N₁, hn, ap, hs, pairsTo_succ (F := fun x y => orderOf (nameI x) (nameI y)) hx hy' ▸ hy.app hr⟩
    · exact ⟨h.1, pairsTo_step ▸ h.2⟩
    · rintro D2 y2 N₁ ⟨hs, hy2⟩ hD2
      have hsN : ∀ p ∈ M, p ∈ (D2, lst y2) :: N₁ := fun p hp => List.mem_cons_of_mem _ (hs p hp)
      refine ⟨false, Rd.neEq (hsN _ b1) (n2 := y2.length) (List.mem_cons_self ..) (hy1.len.trans hy2.len.symm) (by decide) (fun i x y e1 e2 A s _ _ => AreI.eq hy1 hy2 i x y e1 e2 A s), fun h => (by cases h), fun _ => SX.nil ?_⟩
      have J := I1.sub hsN I.mn
      generalize (D2, lst y2) :: N₁ = N at J ⊢
      clear hsN hs hD2 hy2 hy1 b1 I1 I M N₁ D1 D2 y1 y2
      refine SX.ret (WXE.cmp (WE.fn (Ex.glob (by k_is)) (by k_is) (Ars.cons (Ex.cell J.c2 J.d2 rfl rfl) (Ars.one (Ex.name J.mn))) fun us hus => ?_))
      obtain ⟨v1, us, rfl, hv1, v2, rfl, hv2⟩ := hus
      cases hv1
      cases hv2
      refine Wx.specT Tu (off_spec w _ _ Dn Dq yn yq _ _ N (J.off J.n1 J.sn)) fun r n' hr => ?_
      obtain ⟨A, O, R, vo, nO, nR, nA, d, rfl, hA, hO, hR, hvo, hd5, hgr, hsub⟩ := hr
      have K := J.sub hsub J.mn
      refine WXE.listW (WArs.cons (WE.fnW (Ex.glob (by k_is)) (by k_is) (WArs.cons ((Ex.cell K.c1 K.d1 rfl rfl).wx fun v1 hv1 => WArs.cons ((Ex.name K.mn).wx fun v2 hv2 => WArs.cons (WE.listE Ars.nil (fun vs e => by rw [e]; decide) fun aO vs e ltO => WArs.nil ?_))))))
      cases hv1
      cases hv2
      subst e
      have sO : ∀ p ∈ n', p ∈ (aO, listOf ([] : List Value).toArray 0) :: n' := fun p hp => List.mem_cons_of_mem _ hp
      have K2 := K.sub sO K.mn
      refine Wx.spec (least_spec w (fun i => nameI (fs.getD i 0)) (needsF fs) Dd Dq yd yq _ _ 5 [] aO [] 0 _ (K2.off K2.n2 K2.sd) (List.mem_cons_self ..) trivial rfl (fun x hx => (nomatch hx))) fun r n2 hr => ?_
      obtain ⟨Lr, vl, nl, d', rfl, hL, hvl, hgf, _, hsub2⟩ := hr
      have hdd : d' = d := (hgf.ok).uniq hgr (hgf.1.trans hd5.symm)
      subst hdd
      refine WArs.cons (WXE.mulL (j := 5) (WE.listE (Ars.one Ex.boolE) (fun vs e => by obtain ⟨v, rfl, _⟩ := e; simp) fun l2 vs e ltl => ?_))
      obtain ⟨v, rfl, hv⟩ := e
      cases hv
      refine ⟨Ex.lit, l2, _, 0, rfl, List.mem_cons_self .., by simp, by simp, fun D2 lt2 => ?_⟩
      refine WArs.cons (Ex.boolE.wx fun v hv => WArs.nil ⟨by simp, fun l3 lt3 => ?_⟩)
      cases hv
      have up : ∀ p ∈ n', p ∈ (l3, listOf [Value.ref Lr, .ref D2, .bool false].toArray 0) :: (D2, listOf (List.replicate 5 [Value.bool true]).flatten.toArray 0) :: (l2, listOf [Value.bool true].toArray 0) :: n2 := fun p hp => List.mem_cons_of_mem _ (List.mem_cons_of_mem _ (List.mem_cons_of_mem _ (hsub2 p (sO p hp))))
      have hL' : (Lr, listOf vl.toArray nl) ∈ (l3, listOf [Value.ref Lr, .ref D2, .bool false].toArray 0) :: (D2, listOf (List.replicate 5 [Value.bool true]).flatten.toArray 0) :: (l2, listOf [Value.bool true].toArray 0) :: n2 := List.mem_cons_of_mem _ (List.mem_cons_of_mem _ (List.mem_cons_of_mem _ hL))
      refine ⟨true, Rd.eqEq (up _ hA) (n2 := 0) (us := [Value.ref Lr, .ref D2, .bool false]) (List.mem_cons_self ..) rfl (by decide) (fun i x y e1 e2 => ?_), hC _ _ _ rfl⟩
      match i, e1, e2 with
      | 0, e1, e2 =>
        cases e1; cases e2
        exact EqV.list' (up _ hO) hL' (hvo.len.trans hvl.len.symm) fun i x y e1 e2 A s => AreS.eq hvo hvl i x y e1 e2 A s
      | 1, e1, e2 =>
        cases e1; cases e2
        exact EqV.list' (us := List.replicate 5 (Value.bool true)) (n2 := 0) (up _ hR) (List.mem_cons_of_mem _ (List.mem_cons_self ..)) rfl fun i x y e1 e2 A s => by rw [e1] at e2; cases e2; exact SeqAt.EqAt.same _
      | 2, e1, e2 => cases e1; cases e2; exact fun A s _ _ => SeqAt.EqAt.same _
      | i + 3, e1, e2 => simp at e1
end Mine
end
section
open PySem PySem.W PyProof.Rows PySem.Calls PyProof.Rows.LCg
set_option maxRecDepth 100000
set_option maxHeartbeats 8000000
namespace Mine
set_option linter.unusedVariables false
theorem law_tail (w : World) : LawT 3 w := by
  k_dflt (refine' LawT.intro ?k6 ?_; (case k6 => k_is); k_whole)
  intro ho hk f q' cd b Tu m N fs o1 o2 Dn Dd Dq yn yd yq I
  show SX b _ _ _ (_ :: _ :: _ :: _ :: []) _
  have lyn : yn.length = 5 := I.sn.len.trans (by rw [List.length_map, I.len])
  have lyd : yd.length = 5 := I.sd.len.trans (by rw [List.length_map, I.len])
  refine SX.abs fun C hC => ?_
  refine SX.assign Ex.litS fun vw hvw => ?_
  have hvw : IsS wordsB vw := hvw
  have hmn : setv m (Str.ofString "words") vw (Str.ofString "needs") = some (.ref Dq) := I.mn
  have hmw : setv m (Str.ofString "words") vw (Str.ofString "words") = some vw := rfl
  generalize setv m (Str.ofString "words") vw = m1 at hmn hmw
  refine SX.ifW (WT.or (WT.of (c := false) (Tst.cmp (Ex.cell I.c2 I.d2 rfl rfl) (Ex.cell I.c1 I.d1 rfl rfl) (fun va vb pa pb => by cases pa; cases pb; exact Rd.neEq I.n1 I.n2 (lyn.trans lyd.symm) (by decide) fun i x y e1 e2 A s _ _ => AreS.eq I.sn I.sd i x y e1 e2 A s)) ⟨fun _ => ?_, fun h => by cases h⟩))
  refine WT.or ?_
  refine WT.cmpW ?_
  refine WXE.comp1D (n := 3) ?_ (by decide)
  refine WXE.listW (WArs.cons (WXE.tupW (WArs.cons (Ex.litS.wx fun v1 hv1 => WArs.nil ⟨by simp, fun T1 l1 => ?_⟩))))
  refine WArs.cons (WXE.tupW (WArs.cons (Ex.litS.wx fun v2 hv2 => WArs.cons (Ex.litS.wx fun v3 hv3 => WArs.cons (Ex.litS.wx fun v4 hv4 => WArs.nil ⟨by simp, fun T2 l2 => ?_⟩)))))
  refine WArs.cons (WXE.tupW (WArs.cons (Ex.lit.wx fun v5 hv5 => WArs.cons (Ex.litS.wx fun v6 hv6 => WArs.nil ⟨by simp, fun T3 l3 => ?_⟩))))
  refine WArs.nil ⟨by simp, fun l ll => ?_⟩
  have b1 : (T1, tupO [v1]) ∈ (l, listOf [Value.ref T1, .ref T2, .ref T3].toArray 0) :: (T3, tupO [v5, v6]) :: (T2, tupO [v2, v3, v4]) :: (T1, tupO [v1]) :: N := by simp
  have b2 : (T2, tupO [v2, v3, v4]) ∈ (l, listOf [Value.ref T1, .ref T2, .ref T3].toArray 0) :: (T3, tupO [v5, v6]) :: (T2, tupO [v2, v3, v4]) :: (T1, tupO [v1]) :: N := by simp
  have b3 : (T3, tupO [v5, v6]) ∈ (l, listOf [Value.ref T1, .ref T2, .ref T3].toArray 0) :: (T3, tupO [v5, v6]) :: (T2, tupO [v2, v3, v4]) :: (T1, tupO [v1]) :: N := by simp
  have b4 : (l, listOf [Value.ref T1, .ref T2, .ref T3].toArray 0) ∈ (l, listOf [Value.ref T1, .ref T2, .ref T3].toArray 0) :: (T3, tupO [v5, v6]) :: (T2, tupO [v2, v3, v4]) :: (T1, tupO [v1]) :: N := by simp
  have b5 : ∀ p ∈ N, p ∈ (l, listOf [Value.ref T1, .ref T2, .ref T3].toArray 0) :: (T3, tupO [v5, v6]) :: (T2, tupO [v2, v3, v4]) :: (T1, tupO [v1]) :: N := fun p hp => by (first | ((repeat (first | exact hp | exact memH hp | exact List.mem_append_left _ hp | refine List.mem_cons_of_mem _ ?_ | refine List.mem_append_right _ ?_)); done) | simp [hp])
  generalize (l, listOf [Value.ref T1, .ref T2, .ref T3].toArray 0) :: (T3, tupO [v5, v6]) :: (T2, tupO [v2, v3, v4]) :: (T1, tupO [v1]) :: N = M at b1 b2 b3 b4 b5 ⊢
  have bad : ∀ (i : Nat) (v : Value), [Value.ref T1, .ref T2, .ref T3][i]? = some v → ∃ T vs, v = .ref T ∧ (T, tupO vs) ∈ M ∧ Bad vs := fun i v e => by
    match i, e with
    | 0, e => cases e; exact ⟨T1, _, rfl, b1, .inl ⟨_, rfl⟩⟩
    | 1, e => cases e; exact ⟨T2, _, rfl, b2, .inr (.inl ⟨_, _, _, rfl⟩)⟩
    | 2, e => cases e; obtain ⟨t5, rfl⟩ := hv5; obtain ⟨t6, rfl⟩ := hv6; exact ⟨T3, _, rfl, b3, .inr (.inr ⟨_, _, _, _, rfl⟩)⟩
    | i + 3, e => simp at e
  refine ⟨rfl, fun i v => [Value.ref T1, .ref T2, .ref T3][i]? = some v, [(l, listOf [Value.ref T1, .ref T2, .ref T3].toArray 0)], fun i ys N' => (∀ p ∈ M, p ∈ N') ∧ AreS ys (List.replicate i wordsB), Srcs.list b4, ⟨fun p hp => hp, trivial⟩, fun i ys N₁ h p hp => by rw [List.mem_singleton.mp hp]; exact h.1 _ b4, ?_, ?_⟩
  · rintro i v ys N₁ X C₀ oC m₂ hi hP ⟨hs, hy⟩ hX hns hv ap
    refine Wx.testsNil ?_
    rw [if_pos rfl]
    obtain ⟨T, vs, rfl, hT, hB⟩ := bad i v hP
    refine WE.fn (Ex.glob (by k_is)) (by k_is) (Ars.one (XE.blk (List.mem_append_left _ hX) hns hv)) fun us hus => ?_
    obtain ⟨v', rfl, hv'⟩ := hus
    cases hv'
    refine Wx.specT Tu (refused_spec w T vs _ (List.mem_append_right _ (hs _ hT)) hB) fun r n' hr => ?_
    obtain ⟨hr, rfl⟩ := hr
    refine ⟨rfl, N₁, fun p hp => hp, ap, hs, ?_⟩
    rw [List.replicate_succ']
    exact hy.app hr
  · rintro D1 y1 N₁ ⟨hs, hy⟩ hD1
    have hsN : ∀ p ∈ N, p ∈ (D1, lst y1) :: N₁ := fun p hp => List.mem_cons_of_mem _ (hs p (b5 p hp))
    refine WXE.mulL (j := 3) (WE.listE (Ars.one (Ex.name hmw)) (fun vs e => by obtain ⟨v, rfl, _⟩ := e; simp) fun l2 vs e ltl => ?_)
    obtain ⟨v, rfl, hv⟩ := e
    cases hv
    refine ⟨Ex.lit, l2, _, 0, rfl, List.mem_cons_self .., by simp, by simp, fun D2 lt2 => ?_⟩
    refine ⟨false, Rd.neEq (vs := y1) (n := y1.length) (us := (List.replicate 3 [vw]).flatten) (n2 := 0) (List.mem_cons_of_mem _ (List.mem_cons_of_mem _ (List.mem_cons_self ..))) (List.mem_cons_self ..) hy.len (by decide) (fun i x y e1 e2 A s _ _ => AreS.eq hy (us := [vw, vw, vw]) ⟨hvw, hvw, hvw, trivial⟩ i x y e1 e2 A s), fun _ => WT.orNil ⟨fun h => (by cases h), fun _ => SX.nil ?_⟩, fun h => by cases h⟩
    have I2 := I.sub (m' := m1) (N' := (D2, listOf (List.replicate 3 [vw]).flatten.toArray 0) :: (l2, listOf [vw].toArray 0) :: (D1, lst y1) :: N₁) (fun p hp => List.mem_cons_of_mem _ (List.mem_cons_of_mem _ (hsN p hp))) hmn
    generalize (D2, listOf (List.replicate 3 [vw]).flatten.toArray 0) :: (l2, listOf [vw].toArray 0) :: (D1, lst y1) :: N₁ = M2 at I2 ⊢
    clear bad b1 b2 b3 b4 b5 hs hy hD1 hsN lt2 ltl ll l3 l2 l1 hv1 hv2 hv3 hv4 hv5 hv6 I
    have I := I2
    clear I2
    exact Wx.mono (law_end w ho hk f q' cd b Tu m1 M2 fs o1 o2 Dn Dd Dq yn yd yq I) hC
end Mine
end
section
open PySem PySem.W PyProof.Rows PySem.Calls
set_option maxRecDepth 100000
set_option maxHeartbeats 8000000
namespace Mine
set_option linter.unusedVariables false
/-- what the law's rows do, whatever they are written as -/
def LawOk (w : World) : Prop := ∀ {oc : Value} {od : Option Addr} {osl : Array (Option Value)} {name qual : Str} {params : Arguments} {body : List Stmt} {scope : Scope} {dV kV doc pm : Value} {an : Option Addr} {cdv ct : Value},
  (Kh w.params).lookup 238 = some ⟨oc, od, .func (fnOf name qual params body scope dV kV doc pm an cdv ct), osl⟩ → ∀ (hk : scope.kind = .function) (f : Addr) (q' : Str) (cd : Value) (b : Bs w 10) (Tu : b.Tu) (aS : Addr) (vs : List Value) (ns : List Int) (cells : Led),
    (∀ g, b.G g → g.IsList aS vs.toArray) → AreI vs ns → vs.length ≤ 63 → CellsAre (bindC (envOfC q' scope b.L f cd).kindOf [(Str.ofString "script", .ref aS)] fun _ => none) (cellsFrom (b.L + 1) scope.names []) cells →
      SX b ⟨q', scope, f, cd, hk, fun L => cellsFrom (L + 1) scope.names []⟩ (bindL (envOfC q' scope b.L f cd).kindOf [(Str.ofString "script", .ref aS)] fun _ => none) cells body (EndsC fun r _ => r = .bool true)
theorem LawOk.intro {w : World} {oc : Value} {od : Option Addr} {osl : Array (Option Value)} {name qual : Str} {params : Arguments} {body : List Stmt} {scope : Scope} {dV kV doc pm : Value} {an : Option Addr} {cdv ct : Value}
    (ho : (Kh w.params).lookup 238 = some ⟨oc, od, .func (fnOf name qual params body scope dV kV doc pm an cdv ct), osl⟩) (h : (Kh w.params).lookup 238 = some ⟨oc, od, .func (fnOf name qual params body scope dV kV doc pm an cdv ct), osl⟩ → ∀ (hk : scope.kind = .function) (f : Addr) (q' : Str) (cd : Value) (b : Bs w 10) (Tu : b.Tu) (aS : Addr) (vs : List Value) (ns : List Int) (cells : Led),
    (∀ g, b.G g → g.IsList aS vs.toArray) → AreI vs ns → vs.length ≤ 63 → CellsAre (bindC (envOfC q' scope b.L f cd).kindOf [(Str.ofString "script", .ref aS)] fun _ => none) (cellsFrom (b.L + 1) scope.names []) cells →
      SX b ⟨q', scope, f, cd, hk, fun L => cellsFrom (L + 1) scope.names []⟩ (bindL (envOfC q' scope b.L f cd).kindOf [(Str.ofString "script", .ref aS)] fun _ => none) cells body (EndsC fun r _ => r = .bool true)) : LawOk w := by
  intro oc' od' osl' name' qual' params' body' scope' dV' kV' doc' pm' an' cdv' ct' ho'
  have e := Option.some.inj (ho.symm.trans ho')
  unfold fnOf at e
  injection e with e1 e2 e3 e4
  injection e3 with e5
  injection e5 with b1 b2 b3 b4
  injection b4
  subst_vars
  exact h ho
end Mine
end
section
open PySem PySem.W PyProof.Rows PySem.Calls PyProof.Rows.LCg
set_option maxRecDepth 100000
set_option maxHeartbeats 8000000
namespace Mine
set_option linter.unusedVariables false
section
variable {w : World} {dn : Nat} {b : Bs w dn} {k : Cd} {m : Map} {N : Led} {rest : List Stmt} {en : Env} {α : Type}
theorem Wx.funs {p : Sem α} {C : α → Map → Led → Prop} (h : Fun N → Wx b k m N p C) : Wx b k m N p C := fun s Q F N' hQ => h (fun_of N' fun _ h => h) s Q F N' hQ
/-- o[:j] of a list that stands below -/
theorem WXE.uptoG {en : Env} {C : Value → Map → Led → Prop} {o u : Expr} {p pos : Pos} {a : Addr} {vs : List Value} {j : Nat} (ho : XE b k en m N o (IsV (.ref a))) (hu : XE b k en m N u (IsI (j : Int))) (hm : ∀ g, b.G g → g.IsList a vs.toArray) (hz : vs.length ≤ 1000)
    (h : ∀ D sl, (D, listOf (vs.take j).toArray 0) ∈ sl → (∀ p ∈ N, p ∈ sl) → C (.ref D) m sl) (ht : autoParam (∀ v r, letTemporaryGo o v r = pure ()) tIIRfl) : WXE b k en m N (.Subscript o (.Slice none (some u) none p) pos) C := fun s Q F N' hQ => by
  refine wpAny_Subscript_list_slice (ho s _ F N' fun v tk pv => ?_) ht
  cases pv
  refine wpAny_evalPart_none (wpAny_evalPart_some (hu _ _ F N' fun vu tk2 pu => ?_))
  obtain ⟨t, rfl⟩ := pu
  obtain ⟨ol, hl1, hl2⟩ := hm F.g F.G
  refine ⟨a, vs.toArray, none, some (j : Int), rfl, ⟨ol, F.keep _ _ hl1, hl2⟩, by rw [sizeLine_eq, List.size_toArray]; omega, .none, .int .., ?_⟩
  have F1 := F.fr.push { cls := .type "slice", data := .fields #[.none, .int (j : Int) t, .none] }
  have N1 := News.push F.fr N' { cls := .type "slice", data := .fields #[.none, .int (j : Int) t, .none] } rfl
  have F2 := F1.push { cls := .type "list", data := .seq (slicePick vs.toArray none (some (j : Int)) none) }
  have N2 := News.push F1 N1 { cls := .type "list", data := .seq (slicePick vs.toArray none (some (j : Int)) none) } rfl
  rw [Heap.size_push] at N2
  refine hQ _ m _ _ _ (h _ _ ?_ ?_) (F.of F2) N2
  · rw [slicePick_upto']
    exact List.mem_cons_self ..
  · exact fun p hp => List.mem_cons_of_mem _ (List.mem_cons_of_mem _ hp)
theorem SX.unpackC2 {x y : Str} {xp yp tp pos : Pos} {u : Nat} {e : Expr} {C : Flow → Map → Led → Prop} (he : WE b k m N e (fun v m' N' => ∃ t v1 v2, v = .ref t ∧ (t, tupO [v1, v2]) ∈ N' ∧ Wx b k m' N' (storeName (k.env b.L) x v1) (fun _ m1 N1 => Wx b k m1 N1 (storeName (k.env b.L) y v2) (fun _ m2 N2 => SX b k m2 N2 rest C))))
    (hs : autoParam (swapsWithSole [.Tuple [.Name x xp, .Name y yp] u tp] e pos.line (k.env b.L) = pure false) tRfl) (hw : autoParam (swappedStores [.Tuple [.Name x xp, .Name y yp] u tp] e (k.env b.L) = pure none) tRfl) : SX b k m N (.Assign [.Tuple [.Name x xp, .Name y yp] u tp] e pos :: rest) C :=
  SX.cons (C' := C) fun s Q F N' hQ => Assign_Tuple (he s _ F N' fun v m' N'' h' tk c F' NN => by
    obtain ⟨t, v1, v2, rfl, hm, hk⟩ := c
    refine unpackN_ (s := { s with heap := h', toks := tk }) (items := #[v1, v2]) F'.fr NN ⟨_, (NN _ hm).1, rfl, _, rfl⟩ rfl rfl rfl fun h₂ F₂ NN₂ => ?_
    refine assignInOrder_cons (assign_Name (hk { s with heap := h₂, toks := tk } _ (F'.of F₂) NN₂ fun _ m1 N1 h3 tk3 c3 F3 NN3 => ?_))
    exact assignInOrder_cons (assign_Name (c3 _ _ F3 NN3 fun _ m2 N2 h4 tk4 c4 F4 NN4 => assignInOrder_nil (hQ .next m2 N2 h4 tk4 c4 F4 NN4)))) hs hw
end
theorem AreI.take : ∀ {vs : List Value} {l : List Int} (n : Nat), AreI vs l → AreI (vs.take n) (l.take n)
  | [], [], n, h => by cases n <;> trivial
  | _ :: _, _ :: _, 0, _ => trivial
  | _ :: _, _ :: _, n + 1, h => ⟨h.1, AreI.take n h.2⟩
theorem AreI.apps : ∀ {vs us : List Value} {l k : List Int}, AreI vs l → AreI us k → AreI (vs ++ us) (l ++ k)
  | [], _, [], _, _, h2 => h2
  | _ :: _, _, _ :: _, _, h, h2 => ⟨h.1, AreI.apps h.2 h2⟩
theorem AreI.at : ∀ {vs : List Value} {l : List Int} {i : Nat}, AreI vs l → i < l.length → ∃ t, vs[i]? = some (.int (l.getD i 0) t)
  | [], [], _, _, h => absurd h (Nat.not_lt_zero _)
  | _ :: _, _ :: _, 0, h, _ => by
    obtain ⟨t, rfl⟩ := h.1
    exact ⟨t, rfl⟩
  | _ :: _, _ :: _, i + 1, h, hi => AreI.at (i := i) h.2 (Nat.lt_of_succ_lt_succ hi)
theorem ne_cell {N : Led} (hf : Fun N) {a c : Addr} {us : Array Value} {n : Nat} {oc : Obj} {v : Option Value} (h1 : (a, listOf us n) ∈ N) (h2 : (c, oc) ∈ N) (hd : oc.data = .cell v) : a ≠ c := fun e => by
  subst e
  rw [← hf _ _ _ h1 h2] at hd
  cases hd
theorem law_ok (w : World) : LawOk w := by
  k_dflt (refine' LawOk.intro ?k6 ?_; (case k6 => k_is); k_whole)
  intro ho hk f q' cd b Tu aS vs ns cells hS hv h63 Y
  obtain ⟨o1, o2, o3, rfl, d1, d2, d3⟩ := CellsAre.three Y
  clear Y
  generalize hm0 : bindL (Env.kindOf _) _ (fun _ => none) = m₀
  have hscr : m₀ (Str.ofString "script") = some (.ref aS) := by rw [← hm0]; rfl
  clear hm0
  refine SX.abs fun C hC => ?_
  have hvl := hv.len
  refine SX.assignCell (WE.fnW (Ex.glob (by k_is)) (by k_is) (WArs.cons (WXE.addLW (WXE.uptoG (j := 5) (Ex.name hscr) Ex.lit hS (by omega) fun D1 N1 hD1 hs1 => WE.listE (Ars.cons Ex.lit (Ars.cons Ex.lit (Ars.cons Ex.lit (Ars.cons Ex.lit (Ars.cons Ex.lit (Ars.cons Ex.lit (Ars.cons Ex.lit (Ars.cons Ex.lit Ars.nil)))))))) (fun us e => ?_) fun D2 us e lt2 => ?_))))
  · obtain ⟨_, _, rfl, _, _, _, rfl, _, _, _, rfl, _, _, _, rfl, _, _, _, rfl, _, _, _, rfl, _, _, _, rfl, _, _, _, rfl, _, rfl⟩ := e
    simp
  have hus : AreI us tailL := by
    obtain ⟨_, _, rfl, a1, _, _, rfl, a2, _, _, rfl, a3, _, _, rfl, a4, _, _, rfl, a5, _, _, rfl, a6, _, _, rfl, a7, _, _, rfl, a8, rfl⟩ := e
    exact ⟨a1, a2, a3, a4, a5, a6, a7, a8, trivial⟩
  have husl : us.length = 8 := hus.len
  refine ⟨D1, D2, vs.take 5, us, 0, 0, rfl, rfl, List.mem_cons_of_mem _ hD1, List.mem_cons_self .., by rw [husl, List.length_take]; omega, fun D3 lt3 => WArs.nil (Wx.spec (five_spec w D3 (vs.take 5 ++ us) 0 (ns.take 5 ++ tailL) _ (List.mem_cons_self ..) ((hv.take 5).apps hus)) fun r n' hr => ?_)⟩
  obtain ⟨D5, vf, nf, rfl, hD5, hvf, hsub⟩ := hr
  obtain ⟨hf5, hfn⟩ := five_ok (ns.take 5)
  generalize fiveOf (ns.take 5 ++ tailL) = fs at hvf hf5 hfn
  have hb : ∀ p ∈ [(b.L + 1 + 1 + 1, o1), (b.L + 1 + 1, o2), (b.L + 1, o3)], p ∈ n' := fun p hp => hsub p (List.mem_cons_of_mem _ (List.mem_cons_of_mem _ (hs1 p (by simp only [List.mem_cons, List.not_mem_nil, or_false] at hp; rcases hp with h | h | h <;> (first | ((repeat (first | exact h | exact memH h | exact List.mem_append_left _ h | refine List.mem_cons_of_mem _ ?_ | refine List.mem_append_right _ ?_)); done) | simp [h])))))
  refine Wx.funs fun hfun => ?_
  refine Wx.storeC (c := b.L + 1) (o := o3) (r := [(b.L + 1 + 1 + 1, o1), (b.L + 1 + 1, o2), (D5, listOf vf.toArray nf)]) (fun p hp => ?_) (fun p hp => ?_) d3 (fun o3' d3' => ?_) rfl rfl
  · rcases List.mem_cons.mp hp with rfl | hp
    rotate_left 1
    rcases List.mem_cons.mp hp with rfl | hp
    rotate_right 1
    rotate_left 2
    rcases List.mem_cons.mp hp with rfl | hp
    rotate_right 2
    rotate_left 3
    rcases List.mem_singleton.mp hp with rfl
    rotate_right 3
    · exact hb _ (by first | ((repeat (first | exact List.Mem.head _ | refine List.mem_cons_of_mem _ ?_ | refine List.mem_append_right _ ?_)); done) | simp)
    · exact hb _ (by first | ((repeat (first | exact List.Mem.head _ | refine List.mem_cons_of_mem _ ?_ | refine List.mem_append_right _ ?_)); done) | simp)
    · exact hb _ (by first | ((repeat (first | exact List.Mem.head _ | refine List.mem_cons_of_mem _ ?_ | refine List.mem_append_right _ ?_)); done) | simp)
    · exact hD5
  · rcases List.mem_cons.mp hp with rfl | hp
    rotate_left 1
    rcases List.mem_cons.mp hp with rfl | hp
    rotate_right 1
    rotate_left 2
    rcases List.mem_singleton.mp hp with rfl
    rotate_right 2
    · exact Nat.ne_of_gt (by show b.L + 1 < b.L + 1 + 1 + 1; exact Nat.lt_succ_of_lt (Nat.lt_succ_self _))
    · exact Nat.ne_of_gt (by show b.L + 1 < b.L + 1 + 1; exact Nat.lt_succ_self _)
    · exact ne_cell hfun hD5 (hb (b.L + 1, o3) (by first | ((repeat (first | exact List.Mem.head _ | refine List.mem_cons_of_mem _ ?_ | refine List.mem_append_right _ ?_)); done) | simp)) d3
  clear hfun hb hsub hD5 lt3 lt2 hs1 hD1 n'
  have hvfl : vf.length = 5 := hvf.len.trans hf5
  -- names, due
  refine SX.unpackC2 (WXE.tupW (WArs.cons (WXE.comp1 (n := 5) (P := fun i v => vf[i]? = some v) (objs := [(D5, listOf vf.toArray nf)]) (fun i ys N' => (∀ p ∈ [(b.L + 1, o3'), (b.L + 1 + 1 + 1, o1), (b.L + 1 + 1, o2), (D5, listOf vf.toArray nf)], p ∈ N') ∧ AreS ys ((fs.take i).map nameI)) (Rd.wx (Ex.cell (c := b.L + 1) (List.mem_cons_self ..) d3' rfl rfl) fun v hv' => by cases hv'; exact ⟨rfl, hvfl ▸ Srcs.list (List.mem_cons_of_mem _ (List.mem_cons_of_mem _ (List.mem_cons_of_mem _ (List.mem_cons_self ..)))), fun p hp => hp, trivial⟩) (fun i ys N' ⟨h, _⟩ p hp => by rw [List.mem_singleton.mp hp]; exact h _ (by first | ((repeat (first | exact List.Mem.head _ | refine List.mem_cons_of_mem _ ?_ | refine List.mem_append_right _ ?_)); done) | simp)) (by omega) ?_ ?_)))
  · rintro i v ys N₁ X C₀ oC m₂ hi hP ⟨hs, hy⟩ hX hns hv ap
    refine Wx.testsNil ?_
    rw [if_pos rfl]
    obtain ⟨x, hx, t, rfl⟩ := hvf.get hP
    refine WE.fnW (Ex.glob (by k_is)) (by k_is) (WArs.cons (WE.fn (Ex.glob (by k_is)) (by k_is) (Ars.one (XE.blk (List.mem_append_left _ hX) hns hv)) fun us hus' => ?_))
    obtain ⟨v', rfl, hv'⟩ := hus'
    cases hv'
    refine Wx.spec (pair_spec w x t _) fun r n' hr => ?_
    obtain ⟨T, v1, v2, rfl, rfl, q1, q2, q3⟩ := hr
    refine WArs.nil (Wx.spec (build_spec w T v1 v2 _ _ _ (List.mem_cons_self ..) q1 q2) fun r n' hr => ?_)
    obtain ⟨hr, rfl⟩ := hr
    refine ⟨rfl, N₁, fun p hp => List.mem_cons_of_mem _ hp, ap, hs, ?_⟩
    rw [List.take_add_one, hx, List.map_append]
    exact hy.app hr
  · rintro Dn yn N₁ ⟨hs, hy⟩ hDn
    rw [← hf5, List.take_length] at hy
    refine WArs.cons (WXE.comp1 (n := 5) (P := fun i v => vf[i]? = some v) (objs := [(D5, listOf vf.toArray nf)]) (fun i ys N' => (∀ p ∈ (Dn, lst yn) :: N₁, p ∈ N') ∧ AreS ys ((fs.take i).map nameI)) (Rd.wx (Ex.cell (c := b.L + 1) (List.mem_cons_of_mem _ (hs _ (by first | ((repeat (first | exact List.Mem.head _ | refine List.mem_cons_of_mem _ ?_ | refine List.mem_append_right _ ?_)); done) | simp))) d3' rfl rfl) fun v hv' => by cases hv'; exact ⟨rfl, hvfl ▸ Srcs.list (List.mem_cons_of_mem _ (hs _ (by first | ((repeat (first | exact List.Mem.head _ | refine List.mem_cons_of_mem _ ?_ | refine List.mem_append_right _ ?_)); done) | simp))), fun p hp => hp, trivial⟩) (fun i ys N' ⟨h, _⟩ p hp => by rw [List.mem_singleton.mp hp]; exact h _ (List.mem_cons_of_mem _ (hs _ (by first | ((repeat (first | exact List.Mem.head _ | refine List.mem_cons_of_mem _ ?_ | refine List.mem_append_right _ ?_)); done) | simp)))) (by omega) ?_ ?_)
    · rintro i v ys N₂ X C₀ oC m₂ hi hP ⟨hs2, hy2⟩ hX hns hv ap
      refine Wx.testsNil ?_
      rw [if_pos rfl]
      obtain ⟨x, hx, t, rfl⟩ := hvf.get hP
      refine WE.fn (Ex.glob (by k_is)) (by k_is) (Ars.one (XE.blk (List.mem_append_left _ hX) hns hv)) fun us hus' => ?_
      obtain ⟨v', rfl, hv'⟩ := hus'
      cases hv'
      refine Wx.spec (name_spec w x t _) fun r n' hr => ?_
      obtain ⟨hr, rfl⟩ := hr
      refine ⟨rfl, N₂, fun p hp => hp, ap, hs2, ?_⟩
      rw [List.take_add_one, hx, List.map_append]
      exact hy2.app hr
    · rintro Dd yd N₂ ⟨hs2, hy2⟩ hDd
      rw [← hf5, List.take_length] at hy2
      refine WArs.nil ⟨by simp, fun T ltT => ⟨T, .ref Dn, .ref Dd, rfl, List.mem_cons_self .., ?_⟩⟩
      refine Wx.funs fun hfun => ?_
      have hb : ∀ p ∈ [(b.L + 1, o3'), (b.L + 1 + 1 + 1, o1), (b.L + 1 + 1, o2), (D5, listOf vf.toArray nf), (Dn, lst yn), (Dd, lst yd)], p ∈ (T, tupO [Value.ref Dn, .ref Dd]) :: (Dd, lst yd) :: N₂ := fun p hp => by
        rcases List.mem_cons.mp hp with h | hp
        rotate_left 1
        rcases List.mem_cons.mp hp with h | hp
        rotate_right 1
        rotate_left 2
        rcases List.mem_cons.mp hp with h | hp
        rotate_right 2
        rotate_left 3
        rcases List.mem_cons.mp hp with h | hp
        rotate_right 3
        rotate_left 4
        rcases List.mem_cons.mp hp with h | hp
        rotate_right 4
        rotate_left 5
        rcases List.mem_singleton.mp hp with h
        rotate_right 5
        · exact List.mem_cons_of_mem _ (List.mem_cons_of_mem _ (hs2 _ (List.mem_cons_of_mem _ (hs _ (by (first | ((repeat (first | exact h | exact memH h | exact List.mem_append_left _ h | refine List.mem_cons_of_mem _ ?_ | refine List.mem_append_right _ ?_)); done) | simp [h]))))))
        · exact List.mem_cons_of_mem _ (List.mem_cons_of_mem _ (hs2 _ (List.mem_cons_of_mem _ (hs _ (by (first | ((repeat (first | exact h | exact memH h | exact List.mem_append_left _ h | refine List.mem_cons_of_mem _ ?_ | refine List.mem_append_right _ ?_)); done) | simp [h]))))))
        · exact List.mem_cons_of_mem _ (List.mem_cons_of_mem _ (hs2 _ (List.mem_cons_of_mem _ (hs _ (by (first | ((repeat (first | exact h | exact memH h | exact List.mem_append_left _ h | refine List.mem_cons_of_mem _ ?_ | refine List.mem_append_right _ ?_)); done) | simp [h]))))))
        · exact List.mem_cons_of_mem _ (List.mem_cons_of_mem _ (hs2 _ (List.mem_cons_of_mem _ (hs _ (by (first | ((repeat (first | exact h | exact memH h | exact List.mem_append_left _ h | refine List.mem_cons_of_mem _ ?_ | refine List.mem_append_right _ ?_)); done) | simp [h]))))))
        · exact List.mem_cons_of_mem _ (List.mem_cons_of_mem _ (hs2 _ (by (first | ((repeat (first | exact h | exact memH h | exact List.mem_append_left _ h | refine List.mem_cons_of_mem _ ?_ | refine List.mem_append_right _ ?_)); done) | simp [h]))))
        · (first | ((repeat (first | exact h | exact memH h | exact List.mem_append_left _ h | refine List.mem_cons_of_mem _ ?_ | refine List.mem_append_right _ ?_)); done) | simp [h])
      generalize (T, tupO [Value.ref Dn, .ref Dd]) :: (Dd, lst yd) :: N₂ = N3 at hfun hb
      have l1 : b.L + 1 ≠ b.L + 1 + 1 := Nat.ne_of_lt (Nat.lt_succ_self _)
      have l2 : b.L + 1 + 1 + 1 ≠ b.L + 1 + 1 := Nat.ne_of_gt (Nat.lt_succ_self _)
      have l3 : b.L + 1 ≠ b.L + 1 + 1 + 1 := Nat.ne_of_lt (Nat.lt_succ_of_lt (Nat.lt_succ_self _))
      have c1 : ∀ {a : Addr} {us : Array Value} {n : Nat}, (a, listOf us n) ∈ N3 → a ≠ b.L + 1 + 1 := fun h => ne_cell hfun h (hb (b.L + 1 + 1, o2) (by first | ((repeat (first | exact List.Mem.head _ | refine List.mem_cons_of_mem _ ?_ | refine List.mem_append_right _ ?_)); done) | simp)) d2
      have c2 : ∀ {a : Addr} {us : Array Value} {n : Nat}, (a, listOf us n) ∈ N3 → a ≠ b.L + 1 + 1 + 1 := fun h => ne_cell hfun h (hb (b.L + 1 + 1 + 1, o1) (by first | ((repeat (first | exact List.Mem.head _ | refine List.mem_cons_of_mem _ ?_ | refine List.mem_append_right _ ?_)); done) | simp)) d1
      have h5 := hb (D5, listOf vf.toArray nf) (by first | ((repeat (first | exact List.Mem.head _ | refine List.mem_cons_of_mem _ ?_ | refine List.mem_append_right _ ?_)); done) | simp)
      have h6 := hb (Dn, lst yn) (by first | ((repeat (first | exact List.Mem.head _ | refine List.mem_cons_of_mem _ ?_ | refine List.mem_append_right _ ?_)); done) | simp)
      have h7 := hb (Dd, lst yd) (by first | ((repeat (first | exact List.Mem.head _ | refine List.mem_cons_of_mem _ ?_ | refine List.mem_append_right _ ?_)); done) | simp)
      refine Wx.storeC (c := b.L + 1 + 1) (o := o2) (r := [(b.L + 1 + 1 + 1, o1), (b.L + 1, o3'), (D5, listOf vf.toArray nf), (Dn, lst yn), (Dd, lst yd)]) (fun p hp => ?_) (fun p hp => ?_) d2 (fun o2' d2' => ?_) rfl rfl
      · simp only [List.mem_cons, List.not_mem_nil, or_false] at hp
        exact hb p (by simp only [List.mem_cons, List.not_mem_nil, or_false]; rcases hp with h | h | h | h | h | h <;> (first | ((repeat (first | exact h | exact memH h | exact List.mem_append_left _ h | refine List.mem_cons_of_mem _ ?_ | refine List.mem_append_right _ ?_)); done) | simp [h]))
      · rcases List.mem_cons.mp hp with rfl | hp
        rotate_left 1
        rcases List.mem_cons.mp hp with rfl | hp
        rotate_right 1
        rotate_left 2
        rcases List.mem_cons.mp hp with rfl | hp
        rotate_right 2
        rotate_left 3
        rcases List.mem_cons.mp hp with rfl | hp
        rotate_right 3
        rotate_left 4
        rcases List.mem_singleton.mp hp with rfl
        rotate_right 4
        · exact l2
        · exact l1
        · exact c1 h5
        · exact c1 h6
        · exact c1 h7
      refine Wx.storeC (c := b.L + 1 + 1 + 1) (o := o1) (r := [(b.L + 1 + 1, o2'), (b.L + 1, o3'), (D5, listOf vf.toArray nf), (Dn, lst yn), (Dd, lst yd)]) (fun p hp => ?_) (fun p hp => ?_) d1 (fun o1' d1' => ?_) rfl rfl
      · repeat (first | (rcases List.mem_cons.mp hp with h | hp; focus (repeat (first | exact h | exact memH h | exact List.mem_append_left _ h | refine List.mem_cons_of_mem _ ?_ | refine List.mem_append_right _ ?_))) | (rcases List.mem_append.mp hp with h | hp; focus (repeat (first | exact h | exact memH h | exact List.mem_append_left _ h | refine List.mem_cons_of_mem _ ?_ | refine List.mem_append_right _ ?_))) | (focus (repeat (first | exact hp | exact memH hp | exact List.mem_append_left _ hp | refine List.mem_cons_of_mem _ ?_ | refine List.mem_append_right _ ?_))) | exact absurd hp List.not_mem_nil)
      · rcases List.mem_cons.mp hp with rfl | hp
        rotate_left 1
        rcases List.mem_cons.mp hp with rfl | hp
        rotate_right 1
        rotate_left 2
        rcases List.mem_cons.mp hp with rfl | hp
        rotate_right 2
        rotate_left 3
        rcases List.mem_cons.mp hp with rfl | hp
        rotate_right 3
        rotate_left 4
        rcases List.mem_singleton.mp hp with rfl
        rotate_right 4
        · exact l2.symm
        · exact l3
        · exact c2 h5
        · exact c2 h6
        · exact c2 h7
      clear c1 c2 h5 h6 h7 hfun hb N3
      have hk5 : ∀ k : Nat, k < 5 → ∃ t, vf[k]? = some (.int (fs.getD k 0) t) := fun k hk => hvf.at (by omega)
      obtain ⟨Base, hBase⟩ : ∃ Base : Led, ∀ p, p ∈ Base ↔ p ∈ [(b.L + 1 + 1 + 1, o1'), (b.L + 1 + 1, o2'), (b.L + 1, o3'), (D5, listOf vf.toArray nf), (Dn, lst yn), (Dd, lst yd)] := ⟨_, fun p => Iff.rfl⟩
      have b1 : (b.L + 1 + 1 + 1, o1') ∈ Base := (hBase _).mpr (by first | ((repeat (first | exact List.Mem.head _ | refine List.mem_cons_of_mem _ ?_ | refine List.mem_append_right _ ?_)); done) | simp)
      have b2 : (b.L + 1 + 1, o2') ∈ Base := (hBase _).mpr (by first | ((repeat (first | exact List.Mem.head _ | refine List.mem_cons_of_mem _ ?_ | refine List.mem_append_right _ ?_)); done) | simp)
      have b3 : (b.L + 1, o3') ∈ Base := (hBase _).mpr (by first | ((repeat (first | exact List.Mem.head _ | refine List.mem_cons_of_mem _ ?_ | refine List.mem_append_right _ ?_)); done) | simp)
      have b5 : (D5, listOf vf.toArray nf) ∈ Base := (hBase _).mpr (by first | ((repeat (first | exact List.Mem.head _ | refine List.mem_cons_of_mem _ ?_ | refine List.mem_append_right _ ?_)); done) | simp)
      have b6 : (Dn, listOf yn.toArray yn.length) ∈ Base := (hBase _).mpr (List.mem_cons_of_mem _ (List.mem_cons_of_mem _ (List.mem_cons_of_mem _ (List.mem_cons_of_mem _ (List.mem_cons_self ..)))))
      have b7 : (Dd, listOf yd.toArray yd.length) ∈ Base := (hBase _).mpr (List.mem_cons_of_mem _ (List.mem_cons_of_mem _ (List.mem_cons_of_mem _ (List.mem_cons_of_mem _ (List.mem_cons_of_mem _ (List.mem_cons_self ..))))))
      refine Wx.sub (N' := Base) ?_ (fun p hp => ?_)
      rotate_left
      · have hp := (hBase p).mp hp
        repeat (first | (rcases List.mem_cons.mp hp with h | hp; focus (repeat (first | exact h | exact memH h | exact List.mem_append_left _ h | refine List.mem_cons_of_mem _ ?_ | refine List.mem_append_right _ ?_))) | (rcases List.mem_append.mp hp with h | hp; focus (repeat (first | exact h | exact memH h | exact List.mem_append_left _ h | refine List.mem_cons_of_mem _ ?_ | refine List.mem_append_right _ ?_))) | (focus (repeat (first | exact hp | exact memH hp | exact List.mem_append_left _ hp | refine List.mem_cons_of_mem _ ?_ | refine List.mem_append_right _ ?_))) | exact absurd hp List.not_mem_nil)
      clear hDd hDn hs hs2 ltT l1 l2 l3 N₁ N₂
      -- needs
      refine SX.compK (n := 5) (P := fun i v => IsI (i : Int) v) (objs := []) (fun i ys N' => (∀ p ∈ Base, p ∈ N') ∧ ys.length = i ∧ ∀ (j : Nat) (v : Value), ys[j]? = some v → ∃ (a : Addr) (us : List Value) (n : Nat), v = Value.ref a ∧ (a, listOf us.toArray n) ∈ N' ∧ AreN us (needsF fs j)) (WE.range (Ex.blt (by k_is) (by boot_by_name)) Ex.lit fun r t u v lt => ⟨rfl, Srcs.range (t := t) (u := u) (v := v) (List.mem_cons_self ..) rfl (by omega), fun p hp => List.mem_cons_of_mem _ hp, rfl, fun j v e => by simp at e⟩) (fun _ _ _ _ p hp => (nomatch hp)) (by omega) ?_ ?_
      · rintro i v ys N₁ X C₀ cK oK hi hP ⟨hs, hyl, hyn⟩ hX hoK ap
        obtain ⟨ti, rfl⟩ := hP
        obtain ⟨t5, ht5⟩ := hk5 i hi
        refine WXE.comp1 (n := i) (P := fun j v => IsI (j : Int) v) (objs := []) (fun j zs N' => (∀ p ∈ X ++ N₁, p ∈ N') ∧ AreN zs ((List.range j).filter fun j => bitI (fs.getD i 0) j)) (WE.range (Ex.blt (by k_is) (by boot_by_name)) (Rd.mono (Ex.cell (List.mem_append_left _ hX) hoK rfl rfl) fun v e => ⟨ti, e⟩) fun r t u v lt => ⟨rfl, Srcs.range (t := t) (u := u) (v := v) (List.mem_cons_self ..) rfl (by omega), fun p hp => List.mem_cons_of_mem _ hp, trivial⟩) (fun _ _ _ _ p hp => (nomatch hp)) (by omega) ?_ ?_
        · rintro j v2 zs N₂ X2 C₁ oC2 m₃ hj hPj ⟨hs2, hz⟩ hX2 hns2 hv2 ap2
          have er := filter_range_succ (fun j => bitI (fs.getD i 0) j) j
          have hj5 : j < 5 := by omega
          refine Wx.testsOne (WT.of (c := bitI (fs.getD i 0) j) (Tst.eqI (Ex.mod (Ex.fdiv (Ex.fdiv (Rd.mono (Ex.item (j := i) (Ex.cell (c := b.L + 1) (List.mem_append_right _ (hs2 _ (List.mem_append_right _ (hs _ b3)))) d3' rfl rfl) (Rd.mono (Ex.cell (List.mem_append_right _ (hs2 _ (List.mem_append_left _ hX))) hoK rfl rfl) fun v e => ⟨ti, e⟩) (List.mem_append_right _ (hs2 _ (List.mem_append_right _ (hs _ b5)))) ht5 (by omega)) fun v e => ⟨t5, e⟩) Ex.lit (by decide) (PyProof.noPylong_small (by decide))) (Ex.pow2 (j := j) Ex.lit (Rd.mono (XE.blk (List.mem_append_left _ hX2) hns2 hv2) fun v e => by cases e; exact hPj) hj5) ?_ ?_) Ex.lit (by decide)) Ex.lit) ?_)
          · exact Int.ne_of_gt (Int.ofNat_lt.mpr (Nat.two_pow_pos j))
          · refine PyProof.noPylong_small ?_
            rw [Int.natAbs_natCast]
            exact Nat.lt_of_lt_of_le (Nat.pow_lt_pow_right (by decide) hj5) (by decide)
          · split
            · rename_i hc
              refine (XE.blk (List.mem_append_left _ hX2) hns2 hv2).wx fun z hz' => ⟨rfl, N₂, fun p hp => hp, ap2, hs2, ?_⟩
              cases hz'
              obtain ⟨tj, rfl⟩ := hPj
              rw [er, if_pos hc]
              exact hz.app j tj
            · rename_i hc
              refine ⟨rfl, N₂, fun p hp => hp, ap2, hs2, ?_⟩
              rw [er, if_neg hc, List.append_nil]
              exact hz
        · rintro D2 zs N₂ ⟨hs2, hz⟩ hD2
          refine ⟨rfl, N₁ ++ [(D2, lst zs)], fun p hp => ?_, fun p hp r hr => ?_, fun p hp => List.mem_append_left _ (hs p hp), by simp [hyl], fun j' v hv' => ?_⟩
          · rw [← List.append_assoc] at hp
            rcases List.mem_append.mp hp with hp | hp
            · exact List.mem_cons_of_mem _ (hs2 p hp)
            · rw [List.mem_singleton.mp hp]; exact List.mem_cons_self ..
          · rcases List.mem_append.mp hp with hp | hp
            · exact ap p hp r hr
            · rw [List.mem_singleton.mp hp]; exact (hD2 r (hs2 r (List.mem_append_left _ hr))).symm
          · by_cases hj : j' < ys.length
            · rw [List.getElem?_append_left hj] at hv'
              obtain ⟨a', us', n'', e1, e2, e3⟩ := hyn j' v hv'
              exact ⟨a', us', n'', e1, List.mem_append_left _ e2, e3⟩
            · have hj' : j' = i := by
                have := (List.getElem?_eq_some_iff.mp hv').1
                simp at this
                omega
              subst hj'
              rw [List.getElem?_append_right (by omega), hyl, Nat.sub_self] at hv'
              cases hv'
              exact ⟨D2, zs, zs.length, rfl, List.mem_append_right _ (List.mem_singleton.mpr rfl), hz⟩
      · rintro Dq yq N₁ ⟨hs, hyl, hyn⟩ hDq
        refine Wx.mono (law_tail w ho hk f q' cd b Tu _ _ fs o1' o2' Dn Dd Dq yn yd yq { len := hf5, nd := hfn, c1 := List.mem_cons_of_mem _ (hs _ b1), d1 := d1', c2 := List.mem_cons_of_mem _ (hs _ b2), d2 := d2', n1 := List.mem_cons_of_mem _ (hs _ b6), sn := hy, n2 := List.mem_cons_of_mem _ (hs _ b7), sd := hy2, n3 := List.mem_cons_self .., ql := hyl, qn := fun j v e => ?_, mn := rfl }) hC
        obtain ⟨a, us, n, e1, e2, e3⟩ := hyn j v e
        exact ⟨a, us, n, e1, List.mem_cons_of_mem _ e2, e3⟩
end Mine
end
section
open PySem PySem.W PyProof.Rows PySem.Calls
set_option maxRecDepth 100000
set_option maxHeartbeats 8000000
namespace Mine
set_option linter.unusedVariables false
/-- a def with cells, called from outside -/
theorem enterTop {w : World} {f : Addr} {vs : List Value} {binds : List (Str × Value)} {R : Result → Shared → Prop} {s : Shared} {Post : Value → Prop} {v : Program} {lo : List Str} {mean : ExcName → Option Value} {mg mb : Str → Option Value}
    {name qual : Str} {params : Arguments} {body : List Stmt} {scope : Scope} {dV kV doc pm cdv ct oc : Value} {an od : Option Addr} {osl : Array (Option Value)}
    (X : (Kh w.params).In s.heap) (T : Top v lo mean mg mb s.heap)
    (ho : (Kh w.params).lookup f = some ⟨oc, od, .func (fnOf name qual params body scope dV kV doc pm an cdv ct), osl⟩) (hcd : codeIn (Kh w.params) cdv qual = true)
    (hbind : bindArgs (fnOf name qual params body scope dV kV doc pm an cdv ct) ⟨vs, []⟩ = pure binds) (hkind : (binds.all fun y => scope.names.lookup y.1 == some .local || scope.names.lookup y.1 == some .cell) = true)
    (hnd : ((cellsFrom 0 scope.names []).map (·.1)).Nodup) (hco : scope.isCoroutine = false) (hgen : scope.isGenerator = false) (hk : scope.kind = .function)
    (h : ∀ (b : Bs w 10), b.Tu → (∀ g, b.G g → ∀ a o, s.heap.get? a = some o → g.get? a = some o) → ∀ cells, CellsAre (bindC (envOfC qual scope b.L f cdv).kindOf binds fun _ => none) (cellsFrom (b.L + 1) scope.names []) cells →
      SX b ⟨qual, scope, f, cdv, hk, fun L => cellsFrom (L + 1) scope.names []⟩ (bindL (envOfC qual scope b.L f cdv).kindOf binds fun _ => none) cells body (EndsC fun r _ => Post r))
    (hret : ∀ r m' L h' tk, Post r → Fr s.heap L h' m' → R (.ok (.ret r)) { s with heap := h', toks := tk }) : codeAny (model prog w) callerA (.call (.ref f) ⟨vs, []⟩) R s := by
  refine codeAny_call_cells (fd := fnOf name qual params body scope dV kV doc pm an cdv ct) (by decide) (X _ _ ho) rfl T.nolimit (codeRec_of X hcd) rfl hbind rfl (kindsX hkind _) (fun s₁ Y => ?_) hco hgen hk
  obtain ⟨h₁, tk, rfl, _⟩ := Y.done
  obtain ⟨cells, N, Z⟩ := Cl.news (h₀ := s.heap) (Nat.le_refl _) fun n c hm => ⟨Y.cell n c (lookup_of_mem_nodup (cellsFrom_names scope.names 0 (s.heap.objs.size + 1) [] [] rfl ▸ hnd) hm), Y.above n c hm⟩
  have F : Fr s.heap s.heap.objs.size h₁ (bindL (envOfC qual scope s.heap.objs.size f cdv).kindOf binds fun _ => none) := ⟨Y.toInCall.ns, Y.toInCall.keep, Y.toInCall.fresh⟩
  have hAT : AmbT w ⟨302, 7, some [], []⟩ s.heap := ⟨callerA, s.heap, below_caller _, X, v, lo, mean, mg, mb, T⟩
  have hb := h ⟨⟨302, 7, some [], []⟩, s.heap.objs.size, fun g' => KtsTurn (fsOf ⟨302, 7, some [], []⟩) s.heap g', fun g' t => (hAT.turn t).amb, by decide, by decide⟩ ⟨fun g' t => hAT.turn t, fun g₁ g₂ t t' => t.trans t'⟩ (fun g' t a o e => t.other a o e (fun q => nomatch q)) cells Z { s with heap := h₁, toks := tk } (fun fl s' => R (.ok (.ret (match fl with | .ret v => v | _ => .none))) s') ⟨s.heap, KtsTurn.refl, F⟩ N fun fl m' N' h' tk' c F' N'' => ?_
  · exact wpAny_mono hb (fun _ _ x => x) fun _ _ x => x.elim
  obtain ⟨g', t, F'⟩ := F'
  have F2 : Fr s.heap s.heap.objs.size h' m' := ⟨F'.ns, fun a o e => F'.keep a o (t.other a o e fun q => nomatch q), Nat.le_refl _⟩
  cases fl with
  | ret v => exact hret v m' _ h' tk' c F2
  | next => exact hret .none m' _ h' tk' c F2
  | brk => exact c.elim
  | cont => exact c.elim
theorem areI_of : ∀ {vs : List Value} {ns : List Int}, IntsAre vs ns → AreI vs ns := by
  intro vs ns h
  induction h with
  | nil => trivial
  | cons _ _ _ ih => exact ⟨⟨_, rfl⟩, ih⟩
end Mine
end
section
open PySem PySem.W PyProof.Rows PySem.Calls
set_option maxRecDepth 100000
set_option maxHeartbeats 8000000
namespace Mine
set_option linter.unusedVariables false
def lf (o : Obj) : BT := .node o .nil .nil
noncomputable def ob11 : Params → Obj := fun P => { cls := Value.type "tuple", data := Data.seq #[] }
noncomputable def ob12 : Params → Obj := fun P => { cls := Value.none, data := Data.fields #[Value.int 1 0, Value.int 0 0, Value.ref 20, Value.int 7 0, Value.int 0 0, Value.ref 27, Value.int 14 0, Value.int 0 0, Value.ref 51, Value.int 16 0, Value.int 0 0, Value.ref 64, Value.int 123 0, Value.int 0 0, Value.ref 147, Value.int 126 0, Value.int 0 0, Value.ref 154, Value.int 134 0, Value.int 0 0, Value.ref 161, Value.int 145 0, Value.int 0 0, Value.ref 168, Value.int 160 0, Value.int 0 0, Value.ref 175, Value.int 162 0, Value.int 0 0, Value.ref 182, Value.int 164 0, Value.int 0 0, Value.ref 189, Value.int 176 0, Value.int 0 0, Value.ref 196, Value.int 178 0, Value.int 0 0, Value.ref 203, Value.int 180 0, Value.int 0 0, Value.ref 208, Value.int 185 0, Value.int 0 0, Value.ref 215, Value.int 190 0, Value.int 0 0, Value.ref 222, Value.int 206 0, Value.int 0 0, Value.ref 227, Value.int 211 0, Value.int 0 0, Value.ref 232, Value.int 216 0, Value.int 0 0, Value.ref 237] }
noncomputable def ob13 : Params → Obj := fun P => { cls := Value.type "code", data := Data.fields #[Value.str (Str.ofString "<module>") 182, Value.str (Str.ofString "<module>") 183, Value.str (Str.ofString "/claim/cut.py") 184, Value.int 1 0, Value.int 0 0, Value.int 0 0, Value.int 0 0, Value.int 0 0, Value.ref 11, Value.bool false, Value.int 181 0, Value.ref 12, Value.none, Value.none, Value.none, Value.none, Value.int 185 0, Value.int 1 0, Value.str (Str.ofString "/claim/cut.py") 186] }
noncomputable def ob14 : Params → Obj := fun P => { cls := Value.type "frame", slots := #[some (Value.ref 13), some (Value.ref 3), some (Value.ref 3), none, some (Value.str (Str.ofString "__main__") 164), none, some (Value.ref 0)] }
noncomputable def ob16 : Params → Obj := fun P => { cls := Value.none, data := Data.fields #[] }
noncomputable def ob19 : Params → Obj := fun P => { cls := Value.none, data := Data.func { name := Str.ofString "_wall", qualname := Str.ofString "_wall", params := (fnAt topB 0).1, body := FuncBody.stmts (fnAt topB 0).2.1, scope := (fnAt topB 0).2.2, globals := 0, closure := [], defaults := Value.none, kwdefaults := Value.none } }
noncomputable def ob22 : Params → Obj := fun P => { cls := Value.type "tuple", data := Data.seq #[] }
noncomputable def ob23 : Params → Obj := fun P => { cls := Value.type "builtin_function_or_method", data := Data.fields #[Value.builtin "type.__prepare__", Value.type "type"] }
noncomputable def ob24 : Params → Obj := fun P => { cls := Value.type "dict", data := Data.dict #[{ hash := PyData.keyHash P (Str.ofString "__module__"), key := Value.str (Str.ofString "__module__") 209, val := Value.str (Str.ofString "cpy313.graphlib") 194 }, { hash := PyData.keyHash P (Str.ofString "__qualname__"), key := Value.str (Str.ofString "__qualname__") 211, val := Value.str (Str.ofString "_NodeInfo") 210 }, { hash := PyData.keyHash P (Str.ofString "__firstlineno__"), key := Value.str (Str.ofString "__firstlineno__") 213, val := Value.int 7 212 }, { hash := PyData.keyHash P (Str.ofString "__slots__"), key := Value.str (Str.ofString "__slots__") 217, val := Value.ref 29 }, { hash := PyData.keyHash P (Str.ofString "__init__"), key := Value.str (Str.ofString "__init__") 225, val := Value.ref 36 }, { hash := PyData.keyHash P (Str.ofString "__static_attributes__"), key := Value.str (Str.ofString "__static_attributes__") 229, val := Value.ref 37 }] 6 }
noncomputable def ob25 : Params → Obj := fun P => { cls := Value.type "tuple", data := Data.seq #[] }
noncomputable def ob26 : Params → Obj := fun P => { cls := Value.none, data := Data.fields #[Value.int 10 0, Value.int 4 0, Value.ref 35] }
noncomputable def ob27 : Params → Obj := fun P => { cls := Value.type "code", data := Data.fields #[Value.str (Str.ofString "_NodeInfo") 204, Value.str (Str.ofString "_NodeInfo") 205, Value.str (Str.ofString "/claim/cut.py") 206, Value.int 7 0, Value.int 0 0, Value.int 0 0, Value.int 0 0, Value.int 0 0, Value.ref 25, Value.bool false, Value.int 181 0, Value.ref 26, Value.none, Value.none, Value.none, Value.none, Value.int 207 0, Value.int 7 0, Value.str (Str.ofString "/claim/cut.py") 208] }
noncomputable def ob28 : Params → Obj := fun P => { cls := Value.type "frame", slots := #[some (Value.ref 27), some (Value.ref 3), some (Value.ref 24), none, some (Value.str (Str.ofString "cpy313.graphlib") 194), none, some (Value.ref 0)] }
noncomputable def ob31 : Params → Obj := fun P => { cls := Value.none, data := Data.fields #[] }
noncomputable def ob34 : Params → Obj := fun P => { cls := Value.none, data := Data.func { name := Str.ofString "__init__", qualname := Str.ofString "_NodeInfo.__init__", params := (fnAt (clsAt topB 4) 1).1, body := FuncBody.stmts (fnAt (clsAt topB 4) 1).2.1, scope := (fnAt (clsAt topB 4) 1).2.2, globals := 0, closure := [], defaults := Value.none, kwdefaults := Value.none } }
noncomputable def ob38 : Params → Obj := fun P => { cls := Value.type "list", data := Data.seq #[Value.str (Str.ofString "node") 214, Value.str (Str.ofString "npredecessors") 215, Value.str (Str.ofString "successors") 216] 1 }
noncomputable def ob44 : Params → Obj := fun P => { cls := Value.type "super", data := Data.fields #[Value.ref 40, Value.ref 40, Value.ref 40] }
noncomputable def ob45 : Params → Obj := fun P => { cls := Value.type "builtin_function_or_method", data := Data.fields #[Value.builtin "object.__init_subclass__", Value.ref 40] }
noncomputable def ob47 : Params → Obj := fun P => { cls := Value.type "builtin_function_or_method", data := Data.fields #[Value.builtin "type.__prepare__", Value.type "type"] }
noncomputable def ob48 : Params → Obj := fun P => { cls := Value.type "dict", data := Data.dict #[{ hash := PyData.keyHash P (Str.ofString "__module__"), key := Value.str (Str.ofString "__module__") 246, val := Value.str (Str.ofString "cpy313.graphlib") 194 }, { hash := PyData.keyHash P (Str.ofString "__qualname__"), key := Value.str (Str.ofString "__qualname__") 248, val := Value.str (Str.ofString "CycleError") 247 }, { hash := PyData.keyHash P (Str.ofString "__firstlineno__"), key := Value.str (Str.ofString "__firstlineno__") 250, val := Value.int 14 249 }, { hash := PyData.keyHash P (Str.ofString "__static_attributes__"), key := Value.str (Str.ofString "__static_attributes__") 251, val := Value.ref 53 }] 4 }
noncomputable def ob49 : Params → Obj := fun P => { cls := Value.type "tuple", data := Data.seq #[] }
noncomputable def ob50 : Params → Obj := fun P => { cls := Value.none, data := Data.fields #[] }
noncomputable def ob51 : Params → Obj := fun P => { cls := Value.type "code", data := Data.fields #[Value.str (Str.ofString "CycleError") 241, Value.str (Str.ofString "CycleError") 242, Value.str (Str.ofString "/claim/cut.py") 243, Value.int 14 0, Value.int 0 0, Value.int 0 0, Value.int 0 0, Value.int 0 0, Value.ref 49, Value.bool false, Value.int 181 0, Value.ref 50, Value.none, Value.none, Value.none, Value.none, Value.int 244 0, Value.int 14 0, Value.str (Str.ofString "/claim/cut.py") 245] }
noncomputable def ob52 : Params → Obj := fun P => { cls := Value.type "frame", slots := #[some (Value.ref 51), some (Value.ref 3), some (Value.ref 48), none, some (Value.str (Str.ofString "cpy313.graphlib") 194), none, some (Value.ref 0)] }
noncomputable def ob57 : Params → Obj := fun P => { cls := Value.type "super", data := Data.fields #[Value.ref 55, Value.ref 55, Value.ref 55] }
noncomputable def ob58 : Params → Obj := fun P => { cls := Value.type "builtin_function_or_method", data := Data.fields #[Value.builtin "object.__init_subclass__", Value.ref 55] }
noncomputable def ob59 : Params → Obj := fun P => { cls := Value.type "tuple", data := Data.seq #[] }
noncomputable def ob60 : Params → Obj := fun P => { cls := Value.type "builtin_function_or_method", data := Data.fields #[Value.builtin "type.__prepare__", Value.type "type"] }
noncomputable def ob61 : Params → Obj := fun P => { cls := Value.type "dict", data := Data.dict #[{ hash := PyData.keyHash P (Str.ofString "__module__"), key := Value.str (Str.ofString "__module__") 264, val := Value.str (Str.ofString "cpy313.graphlib") 194 }, { hash := PyData.keyHash P (Str.ofString "__qualname__"), key := Value.str (Str.ofString "__qualname__") 266, val := Value.str (Str.ofString "TopologicalSorter") 265 }, { hash := PyData.keyHash P (Str.ofString "__firstlineno__"), key := Value.str (Str.ofString "__firstlineno__") 268, val := Value.int 16 267 }, { hash := PyData.keyHash P (Str.ofString "__init__"), key := Value.str (Str.ofString "__init__") 278, val := Value.ref 73 }, { hash := PyData.keyHash P (Str.ofString "_get_nodeinfo"), key := Value.str (Str.ofString "_get_nodeinfo") 287, val := Value.ref 80 }, { hash := PyData.keyHash P (Str.ofString "add"), key := Value.str (Str.ofString "add") 299, val := Value.ref 87 }, { hash := PyData.keyHash P (Str.ofString "prepare"), key := Value.str (Str.ofString "prepare") 305, val := Value.ref 92 }, { hash := PyData.keyHash P (Str.ofString "get_ready"), key := Value.str (Str.ofString "get_ready") 315, val := Value.ref 99 }, { hash := PyData.keyHash P (Str.ofString "is_active"), key := Value.str (Str.ofString "is_active") 322, val := Value.ref 106 }, { hash := PyData.keyHash P (Str.ofString "__bool__"), key := Value.str (Str.ofString "__bool__") 329, val := Value.ref 113 }, { hash := PyData.keyHash P (Str.ofString "done"), key := Value.str (Str.ofString "done") 343, val := Value.ref 120 }, { hash := PyData.keyHash P (Str.ofString "_find_cycle"), key := Value.str (Str.ofString "_find_cycle") 356, val := Value.ref 127 }, { hash := PyData.keyHash P (Str.ofString "static_order"), key := Value.str (Str.ofString "static_order") 363, val := Value.ref 134 }, { hash := PyData.keyHash P (Str.ofString "__static_attributes__"), key := Value.str (Str.ofString "__static_attributes__") 368, val := Value.ref 135 }] 14 }
noncomputable def ob62 : Params → Obj := fun P => { cls := Value.type "tuple", data := Data.seq #[] }
noncomputable def ob63 : Params → Obj := fun P => { cls := Value.none, data := Data.fields #[Value.int 18 0, Value.int 4 0, Value.ref 72, Value.int 27 0, Value.int 4 0, Value.ref 79, Value.int 32 0, Value.int 4 0, Value.ref 86, Value.int 41 0, Value.int 4 0, Value.ref 91, Value.int 49 0, Value.int 4 0, Value.ref 98, Value.int 60 0, Value.int 4 0, Value.ref 105, Value.int 65 0, Value.int 4 0, Value.ref 112, Value.int 68 0, Value.int 4 0, Value.ref 119, Value.int 91 0, Value.int 4 0, Value.ref 126, Value.int 120 0, Value.int 4 0, Value.ref 133] }
noncomputable def ob64 : Params → Obj := fun P => { cls := Value.type "code", data := Data.fields #[Value.str (Str.ofString "TopologicalSorter") 259, Value.str (Str.ofString "TopologicalSorter") 260, Value.str (Str.ofString "/claim/cut.py") 261, Value.int 16 0, Value.int 0 0, Value.int 0 0, Value.int 0 0, Value.int 0 0, Value.ref 62, Value.bool false, Value.int 181 0, Value.ref 63, Value.none, Value.none, Value.none, Value.none, Value.int 262 0, Value.int 16 0, Value.str (Str.ofString "/claim/cut.py") 263] }
noncomputable def ob65 : Params → Obj := fun P => { cls := Value.type "frame", slots := #[some (Value.ref 64), some (Value.ref 3), some (Value.ref 61), none, some (Value.str (Str.ofString "cpy313.graphlib") 194), none, some (Value.ref 0)] }
noncomputable def ob68 : Params → Obj := fun P => { cls := Value.none, data := Data.fields #[] }
noncomputable def ob71 : Params → Obj := fun P => { cls := Value.none, data := Data.func { name := Str.ofString "__init__", qualname := Str.ofString "TopologicalSorter.__init__", params := (fnAt (clsAt topB 6) 0).1, body := FuncBody.stmts (fnAt (clsAt topB 6) 0).2.1, scope := (fnAt (clsAt topB 6) 0).2.2, globals := 0, closure := [], defaults := Value.none, kwdefaults := Value.none } }
noncomputable def ob75 : Params → Obj := fun P => { cls := Value.none, data := Data.fields #[] }
noncomputable def ob78 : Params → Obj := fun P => { cls := Value.none, data := Data.func { name := Str.ofString "_get_nodeinfo", qualname := Str.ofString "TopologicalSorter._get_nodeinfo", params := (fnAt (clsAt topB 6) 1).1, body := FuncBody.stmts (fnAt (clsAt topB 6) 1).2.1, scope := (fnAt (clsAt topB 6) 1).2.2, globals := 0, closure := [], defaults := Value.none, kwdefaults := Value.none } }
noncomputable def ob82 : Params → Obj := fun P => { cls := Value.none, data := Data.fields #[] }
noncomputable def ob85 : Params → Obj := fun P => { cls := Value.none, data := Data.func { name := Str.ofString "add", qualname := Str.ofString "TopologicalSorter.add", params := (fnAt (clsAt topB 6) 2).1, body := FuncBody.stmts (fnAt (clsAt topB 6) 2).2.1, scope := (fnAt (clsAt topB 6) 2).2.2, globals := 0, closure := [], defaults := Value.none, kwdefaults := Value.none } }
noncomputable def ob89 : Params → Obj := fun P => { cls := Value.none, data := Data.fields #[] }
noncomputable def ob90 : Params → Obj := fun P => { cls := Value.none, data := Data.func { name := Str.ofString "prepare", qualname := Str.ofString "TopologicalSorter.prepare", params := (fnAt (clsAt topB 6) 3).1, body := FuncBody.stmts (fnAt (clsAt topB 6) 3).2.1, scope := (fnAt (clsAt topB 6) 3).2.2, globals := 0, closure := [], defaults := Value.none, kwdefaults := Value.none } }
noncomputable def ob94 : Params → Obj := fun P => { cls := Value.none, data := Data.fields #[] }
noncomputable def ob97 : Params → Obj := fun P => { cls := Value.none, data := Data.func { name := Str.ofString "get_ready", qualname := Str.ofString "TopologicalSorter.get_ready", params := (fnAt (clsAt topB 6) 4).1, body := FuncBody.stmts (fnAt (clsAt topB 6) 4).2.1, scope := (fnAt (clsAt topB 6) 4).2.2, globals := 0, closure := [], defaults := Value.none, kwdefaults := Value.none } }
noncomputable def ob101 : Params → Obj := fun P => { cls := Value.none, data := Data.fields #[] }
noncomputable def ob104 : Params → Obj := fun P => { cls := Value.none, data := Data.func { name := Str.ofString "is_active", qualname := Str.ofString "TopologicalSorter.is_active", params := (fnAt (clsAt topB 6) 5).1, body := FuncBody.stmts (fnAt (clsAt topB 6) 5).2.1, scope := (fnAt (clsAt topB 6) 5).2.2, globals := 0, closure := [], defaults := Value.none, kwdefaults := Value.none } }
noncomputable def ob108 : Params → Obj := fun P => { cls := Value.none, data := Data.fields #[] }
noncomputable def ob111 : Params → Obj := fun P => { cls := Value.none, data := Data.func { name := Str.ofString "__bool__", qualname := Str.ofString "TopologicalSorter.__bool__", params := (fnAt (clsAt topB 6) 6).1, body := FuncBody.stmts (fnAt (clsAt topB 6) 6).2.1, scope := (fnAt (clsAt topB 6) 6).2.2, globals := 0, closure := [], defaults := Value.none, kwdefaults := Value.none } }
noncomputable def ob115 : Params → Obj := fun P => { cls := Value.none, data := Data.fields #[] }
noncomputable def ob118 : Params → Obj := fun P => { cls := Value.none, data := Data.func { name := Str.ofString "done", qualname := Str.ofString "TopologicalSorter.done", params := (fnAt (clsAt topB 6) 7).1, body := FuncBody.stmts (fnAt (clsAt topB 6) 7).2.1, scope := (fnAt (clsAt topB 6) 7).2.2, globals := 0, closure := [], defaults := Value.none, kwdefaults := Value.none } }
noncomputable def ob122 : Params → Obj := fun P => { cls := Value.none, data := Data.fields #[] }
noncomputable def ob125 : Params → Obj := fun P => { cls := Value.none, data := Data.func { name := Str.ofString "_find_cycle", qualname := Str.ofString "TopologicalSorter._find_cycle", params := (fnAt (clsAt topB 6) 8).1, body := FuncBody.stmts (fnAt (clsAt topB 6) 8).2.1, scope := (fnAt (clsAt topB 6) 8).2.2, globals := 0, closure := [], defaults := Value.none, kwdefaults := Value.none } }
noncomputable def ob129 : Params → Obj := fun P => { cls := Value.none, data := Data.fields #[] }
noncomputable def ob132 : Params → Obj := fun P => { cls := Value.none, data := Data.func { name := Str.ofString "static_order", qualname := Str.ofString "TopologicalSorter.static_order", params := (fnAt (clsAt topB 6) 9).1, body := FuncBody.stmts (fnAt (clsAt topB 6) 9).2.1, scope := (fnAt (clsAt topB 6) 9).2.2, globals := 0, closure := [], defaults := Value.none, kwdefaults := Value.none } }
noncomputable def ob140 : Params → Obj := fun P => { cls := Value.type "super", data := Data.fields #[Value.ref 137, Value.ref 137, Value.ref 137] }
noncomputable def ob141 : Params → Obj := fun P => { cls := Value.type "builtin_function_or_method", data := Data.fields #[Value.builtin "object.__init_subclass__", Value.ref 137] }
noncomputable def ob143 : Params → Obj := fun P => { cls := Value.none, data := Data.fields #[] }
noncomputable def ob146 : Params → Obj := fun P => { cls := Value.none, data := Data.func { name := Str.ofString "heappush", qualname := Str.ofString "heappush", params := (fnAt topB 8).1, body := FuncBody.stmts (fnAt topB 8).2.1, scope := (fnAt topB 8).2.2, globals := 0, closure := [], defaults := Value.none, kwdefaults := Value.none } }
noncomputable def ob150 : Params → Obj := fun P => { cls := Value.none, data := Data.fields #[] }
noncomputable def ob153 : Params → Obj := fun P => { cls := Value.none, data := Data.func { name := Str.ofString "heappop", qualname := Str.ofString "heappop", params := (fnAt topB 9).1, body := FuncBody.stmts (fnAt topB 9).2.1, scope := (fnAt topB 9).2.2, globals := 0, closure := [], defaults := Value.none, kwdefaults := Value.none } }
noncomputable def ob157 : Params → Obj := fun P => { cls := Value.none, data := Data.fields #[] }
noncomputable def ob160 : Params → Obj := fun P => { cls := Value.none, data := Data.func { name := Str.ofString "_siftdown", qualname := Str.ofString "_siftdown", params := (fnAt topB 10).1, body := FuncBody.stmts (fnAt topB 10).2.1, scope := (fnAt topB 10).2.2, globals := 0, closure := [], defaults := Value.none, kwdefaults := Value.none } }
noncomputable def ob164 : Params → Obj := fun P => { cls := Value.none, data := Data.fields #[] }
noncomputable def ob167 : Params → Obj := fun P => { cls := Value.none, data := Data.func { name := Str.ofString "_siftup", qualname := Str.ofString "_siftup", params := (fnAt topB 11).1, body := FuncBody.stmts (fnAt topB 11).2.1, scope := (fnAt topB 11).2.2, globals := 0, closure := [], defaults := Value.none, kwdefaults := Value.none } }
noncomputable def ob171 : Params → Obj := fun P => { cls := Value.none, data := Data.fields #[] }
noncomputable def ob174 : Params → Obj := fun P => { cls := Value.none, data := Data.func { name := Str.ofString "_strcoll", qualname := Str.ofString "_strcoll", params := (fnAt topB 13).1, body := FuncBody.stmts (fnAt topB 13).2.1, scope := (fnAt topB 13).2.2, globals := 0, closure := [], defaults := Value.none, kwdefaults := Value.none } }
noncomputable def ob178 : Params → Obj := fun P => { cls := Value.none, data := Data.fields #[] }
noncomputable def ob181 : Params → Obj := fun P => { cls := Value.none, data := Data.func { name := Str.ofString "_strxfrm", qualname := Str.ofString "_strxfrm", params := (fnAt topB 14).1, body := FuncBody.stmts (fnAt topB 14).2.1, scope := (fnAt topB 14).2.2, globals := 0, closure := [], defaults := Value.none, kwdefaults := Value.none } }
noncomputable def ob185 : Params → Obj := fun P => { cls := Value.none, data := Data.fields #[] }
noncomputable def ob188 : Params → Obj := fun P => { cls := Value.none, data := Data.func { name := Str.ofString "_build_localename", qualname := Str.ofString "_build_localename", params := (fnAt topB 15).1, body := FuncBody.stmts (fnAt topB 15).2.1, scope := (fnAt topB 15).2.2, globals := 0, closure := [], defaults := Value.none, kwdefaults := Value.none } }
noncomputable def ob192 : Params → Obj := fun P => { cls := Value.none, data := Data.fields #[] }
noncomputable def ob195 : Params → Obj := fun P => { cls := Value.none, data := Data.func { name := Str.ofString "_law_pair", qualname := Str.ofString "_law_pair", params := (fnAt topB 17).1, body := FuncBody.stmts (fnAt topB 17).2.1, scope := (fnAt topB 17).2.2, globals := 0, closure := [], defaults := Value.none, kwdefaults := Value.none } }
noncomputable def ob199 : Params → Obj := fun P => { cls := Value.none, data := Data.fields #[] }
noncomputable def ob202 : Params → Obj := fun P => { cls := Value.none, data := Data.func { name := Str.ofString "_law_name", qualname := Str.ofString "_law_name", params := (fnAt topB 18).1, body := FuncBody.stmts (fnAt topB 18).2.1, scope := (fnAt topB 18).2.2, globals := 0, closure := [], defaults := Value.none, kwdefaults := Value.none } }
noncomputable def ob206 : Params → Obj := fun P => { cls := Value.none, data := Data.fields #[] }
noncomputable def ob207 : Params → Obj := fun P => { cls := Value.none, data := Data.func { name := Str.ofString "_law_five", qualname := Str.ofString "_law_five", params := (fnAt topB 19).1, body := FuncBody.stmts (fnAt topB 19).2.1, scope := (fnAt topB 19).2.2, globals := 0, closure := [], defaults := Value.none, kwdefaults := Value.none } }
noncomputable def ob211 : Params → Obj := fun P => { cls := Value.none, data := Data.fields #[] }
noncomputable def ob214 : Params → Obj := fun P => { cls := Value.none, data := Data.func { name := Str.ofString "_law_refused", qualname := Str.ofString "_law_refused", params := (fnAt topB 20).1, body := FuncBody.stmts (fnAt topB 20).2.1, scope := (fnAt topB 20).2.2, globals := 0, closure := [], defaults := Value.none, kwdefaults := Value.none } }
noncomputable def ob218 : Params → Obj := fun P => { cls := Value.none, data := Data.fields #[] }
noncomputable def ob221 : Params → Obj := fun P => { cls := Value.none, data := Data.func { name := Str.ofString "_law_off", qualname := Str.ofString "_law_off", params := (fnAt topB 21).1, body := FuncBody.stmts (fnAt topB 21).2.1, scope := (fnAt topB 21).2.2, globals := 0, closure := [], defaults := Value.none, kwdefaults := Value.none } }
noncomputable def ob225 : Params → Obj := fun P => { cls := Value.none, data := Data.fields #[] }
noncomputable def ob226 : Params → Obj := fun P => { cls := Value.none, data := Data.func { name := Str.ofString "_law_least", qualname := Str.ofString "_law_least", params := (fnAt topB 22).1, body := FuncBody.stmts (fnAt topB 22).2.1, scope := (fnAt topB 22).2.2, globals := 0, closure := [], defaults := Value.none, kwdefaults := Value.none } }
noncomputable def ob230 : Params → Obj := fun P => { cls := Value.none, data := Data.fields #[] }
noncomputable def ob231 : Params → Obj := fun P => { cls := Value.none, data := Data.func { name := Str.ofString "_law_order", qualname := Str.ofString "_law_order", params := (fnAt topB 23).1, body := FuncBody.stmts (fnAt topB 23).2.1, scope := (fnAt topB 23).2.2, globals := 0, closure := [], defaults := Value.none, kwdefaults := Value.none } }
noncomputable def ob235 : Params → Obj := fun P => { cls := Value.none, data := Data.fields #[] }
noncomputable def ob236 : Params → Obj := fun P => { cls := Value.none, data := Data.func { name := Str.ofString "law", qualname := Str.ofString "law", params := (fnAt topB 24).1, body := FuncBody.stmts (fnAt topB 24).2.1, scope := (fnAt topB 24).2.2, globals := 0, closure := [], defaults := Value.none, kwdefaults := Value.none } }
noncomputable def heapE : Params → Heap := fun P => ⟨⟨boot_o_0 P :: boot_o_1 P :: boot_o_2 P :: ob3 P :: boot_o_4 P :: boot_o_5 P :: boot_o_6 P :: boot_o_7 P :: boot_o_8 P :: boot_o_9 P :: boot_o_10 P :: ob11 P :: ob12 P :: ob13 P :: ob14 P :: ob15 P :: ob16 P :: ob17 P :: ob18 P :: ob19 P :: ob20 P :: ob21 P :: ob22 P :: ob23 P :: ob24 P :: ob25 P :: ob26 P :: ob27 P :: ob28 P :: ob29 P :: ob30 P :: ob31 P :: ob32 P :: ob33 P :: ob34 P :: ob35 P :: ob36 P :: ob37 P :: ob38 P :: ob39 P :: ob40 P :: ob41 P :: ob42 P :: ob43 P :: ob44 P :: ob45 P :: ob46 P :: ob47 P :: ob48 P :: ob49 P :: ob50 P :: ob51 P :: ob52 P :: ob53 P :: ob54 P :: ob55 P :: ob56 P :: ob57 P :: ob58 P :: ob59 P :: ob60 P :: ob61 P :: ob62 P :: ob63 P :: ob64 P :: ob65 P :: ob66 P :: ob67 P :: ob68 P :: ob69 P :: ob70 P :: ob71 P :: ob72 P :: ob73 P :: ob74 P :: ob75 P :: ob76 P :: ob77 P :: ob78 P :: ob79 P :: ob80 P :: ob81 P :: ob82 P :: ob83 P :: ob84 P :: ob85 P :: ob86 P :: ob87 P :: ob88 P :: ob89 P :: ob90 P :: ob91 P :: ob92 P :: ob93 P :: ob94 P :: ob95 P :: ob96 P :: ob97 P :: ob98 P :: ob99 P :: ob100 P :: ob101 P :: ob102 P :: ob103 P :: ob104 P :: ob105 P :: ob106 P :: ob107 P :: ob108 P :: ob109 P :: ob110 P :: ob111 P :: ob112 P :: ob113 P :: ob114 P :: ob115 P :: ob116 P :: ob117 P :: ob118 P :: ob119 P :: ob120 P :: ob121 P :: ob122 P :: ob123 P :: ob124 P :: ob125 P :: ob126 P :: ob127 P :: ob128 P :: ob129 P :: ob130 P :: ob131 P :: ob132 P :: ob133 P :: ob134 P :: ob135 P :: ob136 P :: ob137 P :: ob138 P :: ob139 P :: ob140 P :: ob141 P :: ob142 P :: ob143 P :: ob144 P :: ob145 P :: ob146 P :: ob147 P :: ob148 P :: ob149 P :: ob150 P :: ob151 P :: ob152 P :: ob153 P :: ob154 P :: ob155 P :: ob156 P :: ob157 P :: ob158 P :: ob159 P :: ob160 P :: ob161 P :: ob162 P :: ob163 P :: ob164 P :: ob165 P :: ob166 P :: ob167 P :: ob168 P :: ob169 P :: ob170 P :: ob171 P :: ob172 P :: ob173 P :: ob174 P :: ob175 P :: ob176 P :: ob177 P :: ob178 P :: ob179 P :: ob180 P :: ob181 P :: ob182 P :: ob183 P :: ob184 P :: ob185 P :: ob186 P :: ob187 P :: ob188 P :: ob189 P :: ob190 P :: ob191 P :: ob192 P :: ob193 P :: ob194 P :: ob195 P :: ob196 P :: ob197 P :: ob198 P :: ob199 P :: ob200 P :: ob201 P :: ob202 P :: ob203 P :: ob204 P :: ob205 P :: ob206 P :: ob207 P :: ob208 P :: ob209 P :: ob210 P :: ob211 P :: ob212 P :: ob213 P :: ob214 P :: ob215 P :: ob216 P :: ob217 P :: ob218 P :: ob219 P :: ob220 P :: ob221 P :: ob222 P :: ob223 P :: ob224 P :: ob225 P :: ob226 P :: ob227 P :: ob228 P :: ob229 P :: ob230 P :: ob231 P :: ob232 P :: ob233 P :: ob234 P :: ob235 P :: ob236 P :: ob237 P :: ob238 P :: []⟩, {}⟩
noncomputable def tr4o0 : Params → Obj := fun P => { cls := Value.none, data := Data.fields #[] }
noncomputable def tr4 : Params → BT := fun P => (.node (boot_o_0 P) (.node (boot_o_1 P) (.node (boot_o_3 P) (lf (boot_o_7 P)) (lf (ob11 P))) (.node (boot_o_5 P) (lf (boot_o_9 P)) (lf (ob13 P)))) (.node (boot_o_2 P) (.node (boot_o_4 P) (lf (boot_o_8 P)) (lf (tr4o0 P))) (.node (boot_o_6 P) (lf (boot_o_10 P)) (lf (ob14 P)))))
noncomputable def tr37o0 : Params → Obj := fun P => { cls := Value.type "dict", data := Data.dict #[{ hash := PyData.keyHash P (Str.ofString "__name__"), key := Value.str (Str.ofString "__name__") 165, val := Value.str (Str.ofString "cpy313.graphlib") 194 }, { hash := PyData.keyHash P (Str.ofString "__doc__"), key := Value.str (Str.ofString "__doc__") 166, val := Value.none }, { hash := PyData.keyHash P (Str.ofString "__package__"), key := Value.str (Str.ofString "__package__") 167, val := Value.none }, { hash := PyData.keyHash P (Str.ofString "__loader__"), key := Value.str (Str.ofString "__loader__") 168, val := Value.builtin "__main__.__loader__#opaque" }, { hash := PyData.keyHash P (Str.ofString "__spec__"), key := Value.str (Str.ofString "__spec__") 169, val := Value.none }, { hash := PyData.keyHash P (Str.ofString "__annotations__"), key := Value.str (Str.ofString "__annotations__") 170, val := Value.ref 6 }, { hash := PyData.keyHash P (Str.ofString "__builtins__"), key := Value.str (Str.ofString "__builtins__") 171, val := Value.ref 4 }, { hash := PyData.keyHash P (Str.ofString "__file__"), key := Value.str (Str.ofString "__file__") 173, val := Value.str (Str.ofString "/claim/cut.py") 172 }, { hash := PyData.keyHash P (Str.ofString "__cached__"), key := Value.str (Str.ofString "__cached__") 174, val := Value.none }, { hash := PyData.keyHash P (Str.ofString "_wall"), key := Value.str (Str.ofString "_wall") 193, val := Value.ref 21 }, { hash := PyData.keyHash P (Str.ofString "_NODE_OUT"), key := Value.str (Str.ofString "_NODE_OUT") 198, val := Value.int (-1) 197 }, { hash := PyData.keyHash P (Str.ofString "_NODE_DONE"), key := Value.str (Str.ofString "_NODE_DONE") 201, val := Value.int (-2) 200 }, { hash := PyData.keyHash P (Str.ofString "_NodeInfo"), key := Value.str (Str.ofString "_NodeInfo") 238, val := Value.ref 40 }] 13 }
noncomputable def tr37o1 : Params → Obj := fun P => { cls := Value.none, data := Data.fields #[Value.int 1 0, Value.int 0 0, Value.ref 20, Value.int 7 0, Value.int 0 0, Value.ref 27] }
noncomputable def tr37 : Params → BT := fun P => (.node (boot_o_0 P) (.node (boot_o_1 P) (.node (tr37o0 P) (.node (boot_o_7 P) (.node (ob15 P) (lf (ob31 P)) .nil) (.node (ob23 P) (lf (ob39 P)) .nil)) (.node (ob11 P) (.node (ob19 P) (lf (ob35 P)) .nil) (.node (ob27 P) (lf (ob43 P)) .nil))) (.node (boot_o_5 P) (.node (boot_o_9 P) (.node (ob17 P) (lf (ob33 P)) .nil) (.node (ob25 P) (lf (ob41 P)) .nil)) (.node (ob13 P) (.node (ob21 P) (lf (ob37 P)) .nil) (.node (ob29 P) (lf (ob45 P)) .nil)))) (.node (boot_o_2 P) (.node (boot_o_4 P) (.node (boot_o_8 P) (.node (ob16 P) (lf (ob32 P)) .nil) (.node (ob24 P) (lf (ob40 P)) .nil)) (.node (tr37o1 P) (.node (ob20 P) (lf (ob36 P)) .nil) (.node (ob28 P) (lf (ob44 P)) .nil))) (.node (boot_o_6 P) (.node (boot_o_10 P) (.node (ob18 P) (lf (ob34 P)) .nil) (.node (ob26 P) (lf (ob42 P)) .nil)) (.node (ob14 P) (.node (ob22 P) (lf (ob38 P)) .nil) (lf (ob30 P))))))
noncomputable def tr53o0 : Params → Obj := fun P => { cls := Value.type "dict", data := Data.dict #[{ hash := PyData.keyHash P (Str.ofString "__name__"), key := Value.str (Str.ofString "__name__") 165, val := Value.str (Str.ofString "cpy313.graphlib") 194 }, { hash := PyData.keyHash P (Str.ofString "__doc__"), key := Value.str (Str.ofString "__doc__") 166, val := Value.none }, { hash := PyData.keyHash P (Str.ofString "__package__"), key := Value.str (Str.ofString "__package__") 167, val := Value.none }, { hash := PyData.keyHash P (Str.ofString "__loader__"), key := Value.str (Str.ofString "__loader__") 168, val := Value.builtin "__main__.__loader__#opaque" }, { hash := PyData.keyHash P (Str.ofString "__spec__"), key := Value.str (Str.ofString "__spec__") 169, val := Value.none }, { hash := PyData.keyHash P (Str.ofString "__annotations__"), key := Value.str (Str.ofString "__annotations__") 170, val := Value.ref 6 }, { hash := PyData.keyHash P (Str.ofString "__builtins__"), key := Value.str (Str.ofString "__builtins__") 171, val := Value.ref 4 }, { hash := PyData.keyHash P (Str.ofString "__file__"), key := Value.str (Str.ofString "__file__") 173, val := Value.str (Str.ofString "/claim/cut.py") 172 }, { hash := PyData.keyHash P (Str.ofString "__cached__"), key := Value.str (Str.ofString "__cached__") 174, val := Value.none }, { hash := PyData.keyHash P (Str.ofString "_wall"), key := Value.str (Str.ofString "_wall") 193, val := Value.ref 21 }, { hash := PyData.keyHash P (Str.ofString "_NODE_OUT"), key := Value.str (Str.ofString "_NODE_OUT") 198, val := Value.int (-1) 197 }, { hash := PyData.keyHash P (Str.ofString "_NODE_DONE"), key := Value.str (Str.ofString "_NODE_DONE") 201, val := Value.int (-2) 200 }, { hash := PyData.keyHash P (Str.ofString "_NodeInfo"), key := Value.str (Str.ofString "_NodeInfo") 238, val := Value.ref 40 }, { hash := PyData.keyHash P (Str.ofString "CycleError"), key := Value.str (Str.ofString "CycleError") 256, val := Value.ref 55 }] 14 }
noncomputable def tr53o1 : Params → Obj := fun P => { cls := Value.none, data := Data.fields #[Value.int 1 0, Value.int 0 0, Value.ref 20, Value.int 7 0, Value.int 0 0, Value.ref 27, Value.int 14 0, Value.int 0 0, Value.ref 51] }
noncomputable def tr53 : Params → BT := fun P => (.node (boot_o_0 P) (.node (boot_o_1 P) (.node (tr53o0 P) (.node (boot_o_7 P) (.node (ob15 P) (lf (ob31 P)) (lf (ob47 P))) (.node (ob23 P) (lf (ob39 P)) (lf (ob55 P)))) (.node (ob11 P) (.node (ob19 P) (lf (ob35 P)) (lf (ob51 P))) (.node (ob27 P) (lf (ob43 P)) .nil))) (.node (boot_o_5 P) (.node (boot_o_9 P) (.node (ob17 P) (lf (ob33 P)) (lf (ob49 P))) (.node (ob25 P) (lf (ob41 P)) (lf (ob57 P)))) (.node (ob13 P) (.node (ob21 P) (lf (ob37 P)) (lf (ob53 P))) (.node (ob29 P) (lf (ob45 P)) .nil)))) (.node (boot_o_2 P) (.node (boot_o_4 P) (.node (boot_o_8 P) (.node (ob16 P) (lf (ob32 P)) (lf (ob48 P))) (.node (ob24 P) (lf (ob40 P)) (lf (ob56 P)))) (.node (tr53o1 P) (.node (ob20 P) (lf (ob36 P)) (lf (ob52 P))) (.node (ob28 P) (lf (ob44 P)) .nil))) (.node (boot_o_6 P) (.node (boot_o_10 P) (.node (ob18 P) (lf (ob34 P)) (lf (ob50 P))) (.node (ob26 P) (lf (ob42 P)) (lf (ob58 P)))) (.node (ob14 P) (.node (ob22 P) (lf (ob38 P)) (lf (ob54 P))) (.node (ob30 P) (lf (ob46 P)) .nil)))))
noncomputable def tr139o0 : Params → Obj := fun P => { cls := Value.type "dict", data := Data.dict #[{ hash := PyData.keyHash P (Str.ofString "__name__"), key := Value.str (Str.ofString "__name__") 165, val := Value.str (Str.ofString "cpy313.graphlib") 194 }, { hash := PyData.keyHash P (Str.ofString "__doc__"), key := Value.str (Str.ofString "__doc__") 166, val := Value.none }, { hash := PyData.keyHash P (Str.ofString "__package__"), key := Value.str (Str.ofString "__package__") 167, val := Value.none }, { hash := PyData.keyHash P (Str.ofString "__loader__"), key := Value.str (Str.ofString "__loader__") 168, val := Value.builtin "__main__.__loader__#opaque" }, { hash := PyData.keyHash P (Str.ofString "__spec__"), key := Value.str (Str.ofString "__spec__") 169, val := Value.none }, { hash := PyData.keyHash P (Str.ofString "__annotations__"), key := Value.str (Str.ofString "__annotations__") 170, val := Value.ref 6 }, { hash := PyData.keyHash P (Str.ofString "__builtins__"), key := Value.str (Str.ofString "__builtins__") 171, val := Value.ref 4 }, { hash := PyData.keyHash P (Str.ofString "__file__"), key := Value.str (Str.ofString "__file__") 173, val := Value.str (Str.ofString "/claim/cut.py") 172 }, { hash := PyData.keyHash P (Str.ofString "__cached__"), key := Value.str (Str.ofString "__cached__") 174, val := Value.none }, { hash := PyData.keyHash P (Str.ofString "_wall"), key := Value.str (Str.ofString "_wall") 193, val := Value.ref 21 }, { hash := PyData.keyHash P (Str.ofString "_NODE_OUT"), key := Value.str (Str.ofString "_NODE_OUT") 198, val := Value.int (-1) 197 }, { hash := PyData.keyHash P (Str.ofString "_NODE_DONE"), key := Value.str (Str.ofString "_NODE_DONE") 201, val := Value.int (-2) 200 }, { hash := PyData.keyHash P (Str.ofString "_NodeInfo"), key := Value.str (Str.ofString "_NodeInfo") 238, val := Value.ref 40 }, { hash := PyData.keyHash P (Str.ofString "CycleError"), key := Value.str (Str.ofString "CycleError") 256, val := Value.ref 55 }, { hash := PyData.keyHash P (Str.ofString "TopologicalSorter"), key := Value.str (Str.ofString "TopologicalSorter") 375, val := Value.ref 137 }] 15 }
noncomputable def tr139o1 : Params → Obj := fun P => { cls := Value.none, data := Data.fields #[Value.int 1 0, Value.int 0 0, Value.ref 20, Value.int 7 0, Value.int 0 0, Value.ref 27, Value.int 14 0, Value.int 0 0, Value.ref 51, Value.int 16 0, Value.int 0 0, Value.ref 64] }
noncomputable def tr139 : Params → BT := fun P => (.node (boot_o_0 P) (.node (boot_o_1 P) (.node (tr139o0 P) (.node (boot_o_7 P) (.node (ob15 P) (.node (ob31 P) (.node (ob63 P) (lf (ob127 P)) .nil) (lf (ob95 P))) (.node (ob47 P) (lf (ob79 P)) (lf (ob111 P)))) (.node (ob23 P) (.node (ob39 P) (.node (ob71 P) (lf (ob135 P)) .nil) (lf (ob103 P))) (.node (ob55 P) (lf (ob87 P)) (lf (ob119 P))))) (.node (ob11 P) (.node (ob19 P) (.node (ob35 P) (.node (ob67 P) (lf (ob131 P)) .nil) (lf (ob99 P))) (.node (ob51 P) (lf (ob83 P)) (lf (ob115 P)))) (.node (ob27 P) (.node (ob43 P) (.node (ob75 P) (lf (ob139 P)) .nil) (lf (ob107 P))) (.node (ob59 P) (lf (ob91 P)) (lf (ob123 P)))))) (.node (boot_o_5 P) (.node (boot_o_9 P) (.node (ob17 P) (.node (ob33 P) (.node (ob65 P) (lf (ob129 P)) .nil) (lf (ob97 P))) (.node (ob49 P) (lf (ob81 P)) (lf (ob113 P)))) (.node (ob25 P) (.node (ob41 P) (.node (ob73 P) (lf (ob137 P)) .nil) (lf (ob105 P))) (.node (ob57 P) (lf (ob89 P)) (lf (ob121 P))))) (.node (ob13 P) (.node (ob21 P) (.node (ob37 P) (.node (ob69 P) (lf (ob133 P)) .nil) (lf (ob101 P))) (.node (ob53 P) (lf (ob85 P)) (lf (ob117 P)))) (.node (ob29 P) (.node (ob45 P) (.node (ob77 P) (lf (ob141 P)) .nil) (lf (ob109 P))) (.node (ob61 P) (lf (ob93 P)) (lf (ob125 P))))))) (.node (boot_o_2 P) (.node (boot_o_4 P) (.node (boot_o_8 P) (.node (ob16 P) (.node (ob32 P) (.node (ob64 P) (lf (ob128 P)) .nil) (lf (ob96 P))) (.node (ob48 P) (lf (ob80 P)) (lf (ob112 P)))) (.node (ob24 P) (.node (ob40 P) (.node (ob72 P) (lf (ob136 P)) .nil) (lf (ob104 P))) (.node (ob56 P) (lf (ob88 P)) (lf (ob120 P))))) (.node (tr139o1 P) (.node (ob20 P) (.node (ob36 P) (.node (ob68 P) (lf (ob132 P)) .nil) (lf (ob100 P))) (.node (ob52 P) (lf (ob84 P)) (lf (ob116 P)))) (.node (ob28 P) (.node (ob44 P) (.node (ob76 P) (lf (ob140 P)) .nil) (lf (ob108 P))) (.node (ob60 P) (lf (ob92 P)) (lf (ob124 P)))))) (.node (boot_o_6 P) (.node (boot_o_10 P) (.node (ob18 P) (.node (ob34 P) (.node (ob66 P) (lf (ob130 P)) .nil) (lf (ob98 P))) (.node (ob50 P) (lf (ob82 P)) (lf (ob114 P)))) (.node (ob26 P) (.node (ob42 P) (.node (ob74 P) (lf (ob138 P)) .nil) (lf (ob106 P))) (.node (ob58 P) (lf (ob90 P)) (lf (ob122 P))))) (.node (ob14 P) (.node (ob22 P) (.node (ob38 P) (.node (ob70 P) (lf (ob134 P)) .nil) (lf (ob102 P))) (.node (ob54 P) (lf (ob86 P)) (lf (ob118 P)))) (.node (ob30 P) (.node (ob46 P) (lf (ob78 P)) (lf (ob110 P))) (.node (ob62 P) (lf (ob94 P)) (lf (ob126 P))))))))
noncomputable def tr217o0 : Params → Obj := fun P => { cls := Value.type "dict", data := Data.dict #[{ hash := PyData.keyHash P (Str.ofString "__name__"), key := Value.str (Str.ofString "__name__") 165, val := Value.str (Str.ofString "law_oy0282_01") 446 }, { hash := PyData.keyHash P (Str.ofString "__doc__"), key := Value.str (Str.ofString "__doc__") 166, val := Value.none }, { hash := PyData.keyHash P (Str.ofString "__package__"), key := Value.str (Str.ofString "__package__") 167, val := Value.none }, { hash := PyData.keyHash P (Str.ofString "__loader__"), key := Value.str (Str.ofString "__loader__") 168, val := Value.builtin "__main__.__loader__#opaque" }, { hash := PyData.keyHash P (Str.ofString "__spec__"), key := Value.str (Str.ofString "__spec__") 169, val := Value.none }, { hash := PyData.keyHash P (Str.ofString "__annotations__"), key := Value.str (Str.ofString "__annotations__") 170, val := Value.ref 6 }, { hash := PyData.keyHash P (Str.ofString "__builtins__"), key := Value.str (Str.ofString "__builtins__") 171, val := Value.ref 4 }, { hash := PyData.keyHash P (Str.ofString "__file__"), key := Value.str (Str.ofString "__file__") 173, val := Value.str (Str.ofString "/claim/cut.py") 172 }, { hash := PyData.keyHash P (Str.ofString "__cached__"), key := Value.str (Str.ofString "__cached__") 174, val := Value.none }, { hash := PyData.keyHash P (Str.ofString "_wall"), key := Value.str (Str.ofString "_wall") 193, val := Value.ref 21 }, { hash := PyData.keyHash P (Str.ofString "_NODE_OUT"), key := Value.str (Str.ofString "_NODE_OUT") 198, val := Value.int (-1) 197 }, { hash := PyData.keyHash P (Str.ofString "_NODE_DONE"), key := Value.str (Str.ofString "_NODE_DONE") 201, val := Value.int (-2) 200 }, { hash := PyData.keyHash P (Str.ofString "_NodeInfo"), key := Value.str (Str.ofString "_NodeInfo") 238, val := Value.ref 40 }, { hash := PyData.keyHash P (Str.ofString "CycleError"), key := Value.str (Str.ofString "CycleError") 256, val := Value.ref 55 }, { hash := PyData.keyHash P (Str.ofString "TopologicalSorter"), key := Value.str (Str.ofString "TopologicalSorter") 375, val := Value.ref 137 }, { hash := PyData.keyHash P (Str.ofString "heappush"), key := Value.str (Str.ofString "heappush") 385, val := Value.ref 148 }, { hash := PyData.keyHash P (Str.ofString "heappop"), key := Value.str (Str.ofString "heappop") 394, val := Value.ref 155 }, { hash := PyData.keyHash P (Str.ofString "_siftdown"), key := Value.str (Str.ofString "_siftdown") 406, val := Value.ref 162 }, { hash := PyData.keyHash P (Str.ofString "_siftup"), key := Value.str (Str.ofString "_siftup") 419, val := Value.ref 169 }, { hash := PyData.keyHash P (Str.ofString "_strcoll"), key := Value.str (Str.ofString "_strcoll") 429, val := Value.ref 176 }, { hash := PyData.keyHash P (Str.ofString "_strxfrm"), key := Value.str (Str.ofString "_strxfrm") 436, val := Value.ref 183 }, { hash := PyData.keyHash P (Str.ofString "_build_localename"), key := Value.str (Str.ofString "_build_localename") 445, val := Value.ref 190 }, { hash := PyData.keyHash P (Str.ofString "_law_pair"), key := Value.str (Str.ofString "_law_pair") 454, val := Value.ref 197 }, { hash := PyData.keyHash P (Str.ofString "_law_name"), key := Value.str (Str.ofString "_law_name") 461, val := Value.ref 204 }, { hash := PyData.keyHash P (Str.ofString "_law_five"), key := Value.str (Str.ofString "_law_five") 467, val := Value.ref 209 }, { hash := PyData.keyHash P (Str.ofString "_law_refused"), key := Value.str (Str.ofString "_law_refused") 475, val := Value.ref 216 }] 26 }
noncomputable def tr217o1 : Params → Obj := fun P => { cls := Value.none, data := Data.fields #[Value.int 1 0, Value.int 0 0, Value.ref 20, Value.int 7 0, Value.int 0 0, Value.ref 27, Value.int 14 0, Value.int 0 0, Value.ref 51, Value.int 16 0, Value.int 0 0, Value.ref 64, Value.int 123 0, Value.int 0 0, Value.ref 147, Value.int 126 0, Value.int 0 0, Value.ref 154, Value.int 134 0, Value.int 0 0, Value.ref 161, Value.int 145 0, Value.int 0 0, Value.ref 168, Value.int 160 0, Value.int 0 0, Value.ref 175, Value.int 162 0, Value.int 0 0, Value.ref 182, Value.int 164 0, Value.int 0 0, Value.ref 189, Value.int 176 0, Value.int 0 0, Value.ref 196, Value.int 178 0, Value.int 0 0, Value.ref 203, Value.int 180 0, Value.int 0 0, Value.ref 208, Value.int 185 0, Value.int 0 0, Value.ref 215] }
noncomputable def tr217 : Params → BT := fun P => (.node (boot_o_0 P) (.node (boot_o_1 P) (.node (tr217o0 P) (.node (boot_o_7 P) (.node (ob15 P) (.node (ob31 P) (.node (ob63 P) (lf (ob127 P)) (lf (ob191 P))) (.node (ob95 P) (lf (ob159 P)) .nil)) (.node (ob47 P) (.node (ob79 P) (lf (ob143 P)) (lf (ob207 P))) (.node (ob111 P) (lf (ob175 P)) .nil))) (.node (ob23 P) (.node (ob39 P) (.node (ob71 P) (lf (ob135 P)) (lf (ob199 P))) (.node (ob103 P) (lf (ob167 P)) .nil)) (.node (ob55 P) (.node (ob87 P) (lf (ob151 P)) (lf (ob215 P))) (.node (ob119 P) (lf (ob183 P)) .nil)))) (.node (ob11 P) (.node (ob19 P) (.node (ob35 P) (.node (ob67 P) (lf (ob131 P)) (lf (ob195 P))) (.node (ob99 P) (lf (ob163 P)) .nil)) (.node (ob51 P) (.node (ob83 P) (lf (ob147 P)) (lf (ob211 P))) (.node (ob115 P) (lf (ob179 P)) .nil))) (.node (ob27 P) (.node (ob43 P) (.node (ob75 P) (lf (ob139 P)) (lf (ob203 P))) (.node (ob107 P) (lf (ob171 P)) .nil)) (.node (ob59 P) (.node (ob91 P) (lf (ob155 P)) .nil) (.node (ob123 P) (lf (ob187 P)) .nil))))) (.node (boot_o_5 P) (.node (boot_o_9 P) (.node (ob17 P) (.node (ob33 P) (.node (ob65 P) (lf (ob129 P)) (lf (ob193 P))) (.node (ob97 P) (lf (ob161 P)) .nil)) (.node (ob49 P) (.node (ob81 P) (lf (ob145 P)) (lf (ob209 P))) (.node (ob113 P) (lf (ob177 P)) .nil))) (.node (ob25 P) (.node (ob41 P) (.node (ob73 P) (lf (ob137 P)) (lf (ob201 P))) (.node (ob105 P) (lf (ob169 P)) .nil)) (.node (ob57 P) (.node (ob89 P) (lf (ob153 P)) .nil) (.node (ob121 P) (lf (ob185 P)) .nil)))) (.node (ob13 P) (.node (ob21 P) (.node (ob37 P) (.node (ob69 P) (lf (ob133 P)) (lf (ob197 P))) (.node (ob101 P) (lf (ob165 P)) .nil)) (.node (ob53 P) (.node (ob85 P) (lf (ob149 P)) (lf (ob213 P))) (.node (ob117 P) (lf (ob181 P)) .nil))) (.node (ob29 P) (.node (ob45 P) (.node (ob77 P) (lf (ob141 P)) (lf (ob205 P))) (.node (ob109 P) (lf (ob173 P)) .nil)) (.node (ob61 P) (.node (ob93 P) (lf (ob157 P)) .nil) (.node (ob125 P) (lf (ob189 P)) .nil)))))) (.node (boot_o_2 P) (.node (boot_o_4 P) (.node (boot_o_8 P) (.node (ob16 P) (.node (ob32 P) (.node (ob64 P) (lf (ob128 P)) (lf (ob192 P))) (.node (ob96 P) (lf (ob160 P)) .nil)) (.node (ob48 P) (.node (ob80 P) (lf (ob144 P)) (lf (ob208 P))) (.node (ob112 P) (lf (ob176 P)) .nil))) (.node (ob24 P) (.node (ob40 P) (.node (ob72 P) (lf (ob136 P)) (lf (ob200 P))) (.node (ob104 P) (lf (ob168 P)) .nil)) (.node (ob56 P) (.node (ob88 P) (lf (ob152 P)) (lf (ob216 P))) (.node (ob120 P) (lf (ob184 P)) .nil)))) (.node (tr217o1 P) (.node (ob20 P) (.node (ob36 P) (.node (ob68 P) (lf (ob132 P)) (lf (ob196 P))) (.node (ob100 P) (lf (ob164 P)) .nil)) (.node (ob52 P) (.node (ob84 P) (lf (ob148 P)) (lf (ob212 P))) (.node (ob116 P) (lf (ob180 P)) .nil))) (.node (ob28 P) (.node (ob44 P) (.node (ob76 P) (lf (ob140 P)) (lf (ob204 P))) (.node (ob108 P) (lf (ob172 P)) .nil)) (.node (ob60 P) (.node (ob92 P) (lf (ob156 P)) .nil) (.node (ob124 P) (lf (ob188 P)) .nil))))) (.node (boot_o_6 P) (.node (boot_o_10 P) (.node (ob18 P) (.node (ob34 P) (.node (ob66 P) (lf (ob130 P)) (lf (ob194 P))) (.node (ob98 P) (lf (ob162 P)) .nil)) (.node (ob50 P) (.node (ob82 P) (lf (ob146 P)) (lf (ob210 P))) (.node (ob114 P) (lf (ob178 P)) .nil))) (.node (ob26 P) (.node (ob42 P) (.node (ob74 P) (lf (ob138 P)) (lf (ob202 P))) (.node (ob106 P) (lf (ob170 P)) .nil)) (.node (ob58 P) (.node (ob90 P) (lf (ob154 P)) .nil) (.node (ob122 P) (lf (ob186 P)) .nil)))) (.node (ob14 P) (.node (ob22 P) (.node (ob38 P) (.node (ob70 P) (lf (ob134 P)) (lf (ob198 P))) (.node (ob102 P) (lf (ob166 P)) .nil)) (.node (ob54 P) (.node (ob86 P) (lf (ob150 P)) (lf (ob214 P))) (.node (ob118 P) (lf (ob182 P)) .nil))) (.node (ob30 P) (.node (ob46 P) (.node (ob78 P) (lf (ob142 P)) (lf (ob206 P))) (.node (ob110 P) (lf (ob174 P)) .nil)) (.node (ob62 P) (.node (ob94 P) (lf (ob158 P)) .nil) (.node (ob126 P) (lf (ob190 P)) .nil)))))))
noncomputable def tr242 : Params → BT := fun P => (.node (boot_o_0 P) (.node (boot_o_1 P) (.node (ob3 P) (.node (boot_o_7 P) (.node (ob15 P) (.node (ob31 P) (.node (ob63 P) (lf (ob127 P)) (lf (ob191 P))) (.node (ob95 P) (lf (ob159 P)) (lf (ob223 P)))) (.node (ob47 P) (.node (ob79 P) (lf (ob143 P)) (lf (ob207 P))) (.node (ob111 P) (lf (ob175 P)) .nil))) (.node (ob23 P) (.node (ob39 P) (.node (ob71 P) (lf (ob135 P)) (lf (ob199 P))) (.node (ob103 P) (lf (ob167 P)) (lf (ob231 P)))) (.node (ob55 P) (.node (ob87 P) (lf (ob151 P)) (lf (ob215 P))) (.node (ob119 P) (lf (ob183 P)) .nil)))) (.node (ob11 P) (.node (ob19 P) (.node (ob35 P) (.node (ob67 P) (lf (ob131 P)) (lf (ob195 P))) (.node (ob99 P) (lf (ob163 P)) (lf (ob227 P)))) (.node (ob51 P) (.node (ob83 P) (lf (ob147 P)) (lf (ob211 P))) (.node (ob115 P) (lf (ob179 P)) .nil))) (.node (ob27 P) (.node (ob43 P) (.node (ob75 P) (lf (ob139 P)) (lf (ob203 P))) (.node (ob107 P) (lf (ob171 P)) (lf (ob235 P)))) (.node (ob59 P) (.node (ob91 P) (lf (ob155 P)) (lf (ob219 P))) (.node (ob123 P) (lf (ob187 P)) .nil))))) (.node (boot_o_5 P) (.node (boot_o_9 P) (.node (ob17 P) (.node (ob33 P) (.node (ob65 P) (lf (ob129 P)) (lf (ob193 P))) (.node (ob97 P) (lf (ob161 P)) (lf (ob225 P)))) (.node (ob49 P) (.node (ob81 P) (lf (ob145 P)) (lf (ob209 P))) (.node (ob113 P) (lf (ob177 P)) .nil))) (.node (ob25 P) (.node (ob41 P) (.node (ob73 P) (lf (ob137 P)) (lf (ob201 P))) (.node (ob105 P) (lf (ob169 P)) (lf (ob233 P)))) (.node (ob57 P) (.node (ob89 P) (lf (ob153 P)) (lf (ob217 P))) (.node (ob121 P) (lf (ob185 P)) .nil)))) (.node (ob13 P) (.node (ob21 P) (.node (ob37 P) (.node (ob69 P) (lf (ob133 P)) (lf (ob197 P))) (.node (ob101 P) (lf (ob165 P)) (lf (ob229 P)))) (.node (ob53 P) (.node (ob85 P) (lf (ob149 P)) (lf (ob213 P))) (.node (ob117 P) (lf (ob181 P)) .nil))) (.node (ob29 P) (.node (ob45 P) (.node (ob77 P) (lf (ob141 P)) (lf (ob205 P))) (.node (ob109 P) (lf (ob173 P)) (lf (ob237 P)))) (.node (ob61 P) (.node (ob93 P) (lf (ob157 P)) (lf (ob221 P))) (.node (ob125 P) (lf (ob189 P)) .nil)))))) (.node (boot_o_2 P) (.node (boot_o_4 P) (.node (boot_o_8 P) (.node (ob16 P) (.node (ob32 P) (.node (ob64 P) (lf (ob128 P)) (lf (ob192 P))) (.node (ob96 P) (lf (ob160 P)) (lf (ob224 P)))) (.node (ob48 P) (.node (ob80 P) (lf (ob144 P)) (lf (ob208 P))) (.node (ob112 P) (lf (ob176 P)) .nil))) (.node (ob24 P) (.node (ob40 P) (.node (ob72 P) (lf (ob136 P)) (lf (ob200 P))) (.node (ob104 P) (lf (ob168 P)) (lf (ob232 P)))) (.node (ob56 P) (.node (ob88 P) (lf (ob152 P)) (lf (ob216 P))) (.node (ob120 P) (lf (ob184 P)) .nil)))) (.node (ob12 P) (.node (ob20 P) (.node (ob36 P) (.node (ob68 P) (lf (ob132 P)) (lf (ob196 P))) (.node (ob100 P) (lf (ob164 P)) (lf (ob228 P)))) (.node (ob52 P) (.node (ob84 P) (lf (ob148 P)) (lf (ob212 P))) (.node (ob116 P) (lf (ob180 P)) .nil))) (.node (ob28 P) (.node (ob44 P) (.node (ob76 P) (lf (ob140 P)) (lf (ob204 P))) (.node (ob108 P) (lf (ob172 P)) (lf (ob236 P)))) (.node (ob60 P) (.node (ob92 P) (lf (ob156 P)) (lf (ob220 P))) (.node (ob124 P) (lf (ob188 P)) .nil))))) (.node (boot_o_6 P) (.node (boot_o_10 P) (.node (ob18 P) (.node (ob34 P) (.node (ob66 P) (lf (ob130 P)) (lf (ob194 P))) (.node (ob98 P) (lf (ob162 P)) (lf (ob226 P)))) (.node (ob50 P) (.node (ob82 P) (lf (ob146 P)) (lf (ob210 P))) (.node (ob114 P) (lf (ob178 P)) .nil))) (.node (ob26 P) (.node (ob42 P) (.node (ob74 P) (lf (ob138 P)) (lf (ob202 P))) (.node (ob106 P) (lf (ob170 P)) (lf (ob234 P)))) (.node (ob58 P) (.node (ob90 P) (lf (ob154 P)) (lf (ob218 P))) (.node (ob122 P) (lf (ob186 P)) .nil)))) (.node (ob14 P) (.node (ob22 P) (.node (ob38 P) (.node (ob70 P) (lf (ob134 P)) (lf (ob198 P))) (.node (ob102 P) (lf (ob166 P)) (lf (ob230 P)))) (.node (ob54 P) (.node (ob86 P) (lf (ob150 P)) (lf (ob214 P))) (.node (ob118 P) (lf (ob182 P)) .nil))) (.node (ob30 P) (.node (ob46 P) (.node (ob78 P) (lf (ob142 P)) (lf (ob206 P))) (.node (ob110 P) (lf (ob174 P)) (lf (ob238 P)))) (.node (ob62 P) (.node (ob94 P) (lf (ob158 P)) (lf (ob222 P))) (.node (ob126 P) (lf (ob190 P)) .nil)))))))

noncomputable abbrev progL : Program := PySem.Challenge.rw_oy0282_01.row.prog
noncomputable def viewL : Program := { progL with main := { progL.main with body := progL.main.body.drop 24 } }
def looseL : List Str := ["_wall", "_NODE_OUT", "_NODE_DONE", "_NodeInfo", "CycleError", "TopologicalSorter", "heappush", "heappop", "_siftdown", "_siftup", "_strcoll", "_strxfrm", "_build_localename", "_law_pair", "_law_name", "_law_five", "_law_refused", "_law_off", "_law_least", "_law_order"].map Str.ofString
noncomputable def addrsL : List Addr := 2 :: 3 :: 15 :: 17 :: 18 :: 20 :: 21 :: 29 :: 30 :: 32 :: 33 :: 35 :: 36 :: 37 :: 39 :: 40 :: 41 :: 42 :: 43 :: 46 :: 53 :: 54 :: 55 :: 56 :: 66 :: 67 :: 69 :: 70 :: 72 :: 73 :: 74 :: 76 :: 77 :: 79 :: 80 :: 81 :: 83 :: 84 :: 86 :: 87 :: 88 :: 91 :: 92 :: 93 :: 95 :: 96 :: 98 :: 99 :: 100 :: 102 :: 103 :: 105 :: 106 :: 107 :: 109 :: 110 :: 112 :: 113 :: 114 :: 116 :: 117 :: 119 :: 120 :: 121 :: 123 :: 124 :: 126 :: 127 :: 128 :: 130 :: 131 :: 133 :: 134 :: 135 :: 136 :: 137 :: 138 :: 139 :: 142 :: 144 :: 145 :: 147 :: 148 :: 149 :: 151 :: 152 :: 154 :: 155 :: 156 :: 158 :: 159 :: 161 :: 162 :: 163 :: 165 :: 166 :: 168 :: 169 :: 170 :: 172 :: 173 :: 175 :: 176 :: 177 :: 179 :: 180 :: 182 :: 183 :: 184 :: 186 :: 187 :: 189 :: 190 :: 191 :: 193 :: 194 :: 196 :: 197 :: 198 :: 200 :: 201 :: 203 :: 204 :: 205 :: 208 :: 209 :: 210 :: 212 :: 213 :: 215 :: 216 :: 217 :: 219 :: 220 :: 222 :: 223 :: 224 :: 227 :: 228 :: 229 :: 232 :: 233 :: 234 :: 237 :: 238 :: []
noncomputable def hookL : Hook := kHook Kh addrsL (fun _ => by rfl)
noncomputable def bodyL : List Stmt := behindTheImports progL
noncomputable def envL : Env := { scope := progL.main.scope, locals := mainNs, globals := mainNs, cells := [], code := .ref 13, frame := some 14 }
def posAt (l c el ec : Nat) : Pos := ⟨l, c, el, ec⟩
def cutL (t : BT) (n toks : Nat) (os : OsState) : SharedT := { tree := t, n := n, life := {}, gens := #[], drawn := {}, toks := toks, os := os }
noncomputable def part1 : List Stmt := bodyL.take 5
noncomputable def rest1 : List Stmt := bodyL.drop 5
noncomputable def part2 : List Stmt := rest1.take 1
noncomputable def rest2 : List Stmt := rest1.drop 1
noncomputable def part3 : List Stmt := rest2.take 1
noncomputable def rest3 : List Stmt := rest2.drop 1
noncomputable def part4 : List Stmt := rest3.take 14
noncomputable def part5 : List Stmt := rest3.drop 14
theorem parts : bodyL = part1 ++ (part2 ++ (part3 ++ (part4 ++ (part5 ++ [])))) := by
  rw [List.append_nil]
  unfold part5 part4
  rw [List.take_append_drop]
  show _ = bodyL.take 5 ++ ((bodyL.drop 5).take 1 ++ (rest2.take 1 ++ rest2.drop 1))
  rw [List.take_append_drop]
  show _ = bodyL.take 5 ++ ((bodyL.drop 5).take 1 ++ (bodyL.drop 5).drop 1)
  rw [List.take_append_drop, List.take_append_drop]
/-- one cut of the top's run to the next -/
def Goes (t t' : Params → BT) (n toks n' toks' k : Nat) (l : List Stmt) (p p' : Pos) : Prop := ∀ (w : World) (q : Program) (b : List Stmt) (os : OsState),
  segRunT treeTable q w 11 (some (.ref 6)) 1 k (cutL (t w.params) n toks os) (piecesOf l envL (.body b envL) p [topFrame (posAt 0 0 0 0)]) = some (.next, cutL (t' w.params) n' toks' os, .body b envL, p')
theorem goes1 : Goes tr4 tr37 15 187 46 239 330 part1 (posAt 0 0 0 0) (posAt 7 0 13 28) := fun w q b os => by kernel_rfl
theorem goes2 : Goes tr37 tr53 46 239 59 257 187 part2 (posAt 7 0 13 28) (posAt 14 0 15 8) := fun w q b os => by kernel_rfl
theorem goes3 : Goes tr53 tr139 59 257 142 376 528 part3 (posAt 14 0 15 8) (posAt 16 0 121 16) := fun w q b os => by kernel_rfl
theorem goes4 : Goes tr139 tr217 142 376 217 476 362 part4 (posAt 16 0 121 16) (posAt 185 0 189 25) := fun w q b os => by kernel_rfl
theorem goes5 : Goes tr217 tr242 217 476 239 512 119 part5 (posAt 185 0 189 25) (posAt 216 0 225 84) := fun w q b os => by kernel_rfl
theorem topPre (w : World) (os : OsState) : topGo treeTable progL w 11 (some (.ref 6)) 12 ⟨boot_heap w.params, #[], boot_drawn, boot_toks, os⟩ (topStub progL) = some ((cutL (tr4 w.params) 15 187 os).abs, ⟨denote treeTable (.body bodyL envL), .body bodyL envL, posAt 0 0 0 0, [topFrame (posAt 0 0 0 0)]⟩) := by kernel_rfl
theorem topBlock (w : World) (os : OsState) : segRun treeTable progL w 11 (some (.ref 6)) 1 1 (cutL (tr4 w.params) 15 187 os).abs (blockOf bodyL envL (.body bodyL envL) (posAt 0 0 0 0) [topFrame (posAt 0 0 0 0)]) = some (.next, (cutL (tr4 w.params) 15 187 os).abs, .body bodyL envL, posAt 0 0 0 0) := by kernel_rfl
theorem topFin (w : World) (os : OsState) : topRun treeTable progL w 11 (some (.ref 6)) 2 (cutL (tr242 w.params) 239 512 os).abs ⟨doneF .next, .body bodyL envL, posAt 216 0 225 84, [topFrame (posAt 0 0 0 0)]⟩ = some ⟨heapE w.params, #[], {}, 512, os⟩ := by kernel_rfl
theorem topWhole (w : World) (os : OsState) : topRun treeTable progL w 11 (some (.ref 6)) (12 + (1 + (330 + (187 + (528 + (362 + (119 + 2))))))) ⟨boot_heap w.params, #[], boot_drawn, boot_toks, os⟩ (topStub progL) = some ⟨heapE w.params, #[], {}, 512, os⟩ := by
  refine go_top (topPre w os) (piece_block (topBlock w os) ?_)
  have e : restOf bodyL envL (.body bodyL envL) (posAt 0 0 0 0) [topFrame (posAt 0 0 0 0)] = restOf (part1 ++ (part2 ++ (part3 ++ (part4 ++ (part5 ++ []))))) envL (.body bodyL envL) (posAt 0 0 0 0) [topFrame (posAt 0 0 0 0)] := congrArg (fun l => restOf l envL (.body bodyL envL) (posAt 0 0 0 0) [topFrame (posAt 0 0 0 0)]) parts
  rw [e]
  exact piece_app (segRun_of (goes1 w progL bodyL os)) (piece_app (segRun_of (goes2 w progL bodyL os)) (piece_app (segRun_of (goes3 w progL bodyL os)) (piece_app (segRun_of (goes4 w progL bodyL os)) (piece_app (segRun_of (goes5 w progL bodyL os)) (piece_nil (topFin w os))))))
theorem opensL : opening progL = plainProg progL.main.scope.names := by rfl
theorem fenceL (s : Shared) : fenceModules? progL s = some s := by rfl
theorem sizeL (w : World) : ((boot_heap w.params).isNs mainGlobals && (#[] : Array GenState).size == 0, (boot_heap w.params).objs.size, (boot_heap w.params).nsMap mainGlobals "__annotations__") = (true, 11, some (.ref 6)) := by kernel_rfl
theorem looks1 (w : World) (os : OsState) : (staticsOk (importedModules progL.main.body) (boot_heap w.params) (heapE w.params) && namesBound progL (heapE w.params) && gensDone ⟨heapE w.params, #[], {}, 512, os⟩ && laidKept (boot_heap w.params) (heapE w.params)) = true := by kernel_rfl
theorem looks2 (w : World) (os : OsState) : openSeen viewL looseL (importedModules progL.main.body) (fun s => xlAt viewL [] s && recOk (RowW.records PySem.Challenge.rw_oy0282_01.row.toRowW) s) true ⟨heapE w.params, #[], {}, 512, os⟩ = openGood viewL looseL := by kernel_rfl
theorem looks3 (w : World) (os : OsState) : hookL.obs ⟨heapE w.params, #[], {}, 512, os⟩ = hookL.val w := by kernel_rfl
theorem leftL : LeftO progL viewL looseL (fun s => xlAt viewL [] s && recOk (RowW.records PySem.Challenge.rw_oy0282_01.row.toRowW) s) hookL.obs hookL.val 3168 :=
  LeftO.of_pieces (boot_open opensL (by decide) fenceL) sizeL topWhole (by decide) fun w => funext fun os => by rw [looks1, looks2, looks3]
end Mine
end
section
open PySem PySem.W PyProof.Rows PySem.Calls
set_option maxRecDepth 100000
set_option maxHeartbeats 8000000
namespace Mine
theorem saidL : PySem.Challenge.rw_oy0282_01.wellSaid = true := by
  unfold OpenLaw.wellSaid
  repeat' (with_reducible refine look_both ?_ ?_)
  · unfold OpenRow.wellSaid OpenRow.partSaid
    repeat' (with_reducible refine look_both ?_ ?_)
    · unfold looksOpen
      repeat' (with_reducible refine look_both ?_ ?_)
      all_goals decide +kernel
    all_goals decide +kernel
  all_goals decide +kernel
end Mine
theorem PySem.Challenge.cw_oy0282_01_holds : PySem.Challenge.rw_oy0282_01.Holds := by
  refine holds_law Mine.saidL fun said => ?_
  refine holds_open (q := Mine.viewL) (loose := Mine.looseL) (Xt := fun s => xlAt Mine.viewL [] s && recOk (RowW.records PySem.Challenge.rw_oy0282_01.row.toRowW) s) (XP := XL Mine.viewL []) (Yf := Mine.hookL.obs) (Ya := Mine.hookL.val) (YP := Mine.hookL.says) (N := 3168) Mine.leftL Mine.hookL.of Mine.hookL.keeps (fun s e => xl_of s (Bool.and_eq_true_iff.mp e).1) XL.keeps (by rfl) (by rfl) (by rfl) (fun s e => recFacts_of (Bool.and_eq_true_iff.mp e).2) (by rfl) said (by decide +kernel) ⟨rfl, rfl, rfl, rfl, rfl, by decide +kernel⟩ ?hw ?hc
  case hw => w_witness2
  case hc =>
  intro w s₀ s₁ mg mb G Y fa o pm cd doc dV kV ho hd hcd hD hmg hg args vals as hpre hlay hrd hwl hlo
  have KX := kIn_of Y
  clear Y
  refine Ground.open G ?_
  intro T B D TE TW
  have hf : fa = 238 := by
    have e := mg_of (n := Str.ofString "law") (v := .ref 238) KX T.g (by k_is)
    exact Value.ref.inj (Option.some.inj (hmg.symm.trans e))
  subst hf
  clear hd hcd hD hmg ho B D TE TW
  wrow_args hpre hlay hrd hwl hlo
  rename IntsAre _ _ => hI
  rename Heap.IsList _ _ _ => hL
  refine enter_call (codeAny_mono ?_ fun _ _ g => GoodW.toG g)
  k_dflt (refine' Mine.enterTop (Post := fun r => r = .bool true) (binds := [(Str.ofString "script", .ref _)]) KX T ?k6 ?k7 ?k8 ?kB ?kD ?c2 ?c3 ?c4 ?_ ?_; (case k6 => k_is); (case k7 => k_is); (case k8 => exact rfl); (case kB => exact rfl); (case kD => decide +kernel); (case c2 => exact rfl); (case c3 => exact rfl); (case c4 => exact rfl); k_whole)
  · intro b Tu hG cells Y
    exact Mine.law_ok w (by k_is) rfl 238 _ _ b Tu _ _ _ cells (fun g q => by obtain ⟨ol, h1, h2⟩ := hL; exact ⟨ol, hG g q _ _ h1, h2⟩) (Mine.areI_of hI) (by have := hI.length; omega) Y
  · intro r m' L h' tk e F
    subst e
    wrow_close
#print axioms PySem.Challenge.cw_oy0282_01_holds
end
